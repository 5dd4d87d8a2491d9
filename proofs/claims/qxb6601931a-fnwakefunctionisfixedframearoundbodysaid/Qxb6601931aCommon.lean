import Derived.Test.Qxb6601931aPieces
namespace Go.Proofs.Qxb6601931a
open Go.RowKit

set_option maxHeartbeats 400000 in
theorem common_any (a b : ByteArray) (p : Nat) (w : World) (hs : a.size ≤ b.size) (hm : b.size ≤ 4194304) (hp : p < a.size) (heq : ∀ i (h : i < p), a[i] = b[i]) (hne : a[p] ≠ b[p]) :
    Calls Try.prog 17 #[.string a, .string b] w fun e w' => e = .returned (.int .i64 p) ∧ ∃ q, w' = w.drewN q := by
  have HN : Hid (a[p] ≠ b[p]) := hne
  have HQ : Hid (∀ i (h : i < p), a[i] = b[i]) := heq
  clear hne heq
  have hs' : ¬ ((b.size : Int) < (a.size : Int)) := by omega
  have hpb : p < b.size := by omega
  go_enter Try.func17, Try.ntmps17
  go_wp2
  go_loopw [6] (fun i wr => ∃ k : Nat, k ≤ p ∧ i = .int .i64 k ∧ ∃ q, wr = w.drewN q) (fun i _ => p - (intOf i).toNat)
  case atStart => exact ⟨0, Nat.zero_le _, rfl, 0, rfl⟩
  case round =>
    obtain ⟨k, hk, rfl, q, rfl⟩ := hrel
    have hka : (k : Int) < (a.size : Int) := by omega
    have hkb : (k : Int) < (b.size : Int) := by omega
    have hka' : k < a.size := by omega
    have hkb' : k < b.size := by omega
    by_cases hlt : k < p
    · have hc : ((a[k].toNat : Int) == (b[k].toNat : Int)) = true := by rw [HQ.out k hlt]; simp
      go_wp2
      go_quiet (fail)
      go_wp2
      go_roundw
      case rel => exact ⟨k + 1, by omega, by go_num, _, rfl⟩
      case measure => simp [intOf]; omega
    · have hkp : k = p := by omega
      subst hkp
      have hc : ((a[k].toNat : Int) == (b[k].toNat : Int)) = false := by
        have := HN.out
        rw [beq_eq_false_iff_ne]
        intro h
        exact this (UInt8.toNat_inj.1 (by exact_mod_cast h))
      go_wp2
      go_quiet (fail)
      go_wp2
      go_ret
      exact ⟨rfl, q + nq, by simp⟩

set_option maxHeartbeats 400000 in
theorem inFrame_yes (r e s : ByteArray) (p : Nat) (w : World) (hm : e.size ≤ 4194304) (hm2 : s.size ≤ 4194304) (hp : p ≤ e.size) (hr : r.size = e.size + s.size)
    (h1 : r.extract 0 p = e.extract 0 p) (h2 : r.extract p (p + s.size) = s) (h3 : r.extract (p + s.size) (e.size + s.size) = e.extract p e.size) :
    Calls Try.prog 9 #[.string r, .string e, .int .i64 p, .string s] w fun e w' => e = .returned (.bool true) ∧ ∃ q, w' = w.drewN q := by
  have hpi : (p : Int) ≤ (e.size : Int) := by omega
  have hri : (r.size : Int) = (e.size : Int) + (s.size : Int) := by omega
  go_enter Try.func9, Try.ntmps9
  go_wp2
  go_quiet (fail)
  go_wp2
  go_ret
  exact ⟨rfl, _, rfl⟩

theorem inFrame_pieces (x s y : ByteArray) (w : World) (hx : x.size + y.size ≤ 4194304) (hs : s.size ≤ 4194304) :
    Calls Try.prog 9 #[.string (x ++ s ++ y), .string (x ++ y), .int .i64 x.size, .string s] w fun e w' => e = .returned (.bool true) ∧ ∃ q, w' = w.drewN q := by
  have he : (x ++ y).size = x.size + y.size := ByteArray.size_append
  have hr : (x ++ s ++ y).size = x.size + s.size + y.size := by rw [ByteArray.size_append, ByteArray.size_append]
  refine inFrame_yes (x ++ s ++ y) (x ++ y) s x.size w (by omega) hs (by omega) (by omega) ?_ (piece_m x s y) ?_
  · rw [piece_l, ByteArray.extract_append_eq_left rfl]
  · rw [piece_r x s y _ (by omega), ByteArray.extract_append_eq_right rfl he]

set_option maxHeartbeats 400000 in
theorem inner_pieces (x s y : ByteArray) (w : World) (hx : x.size + y.size ≤ 4194304) (hs : s.size ≤ 4194304) :
    Calls Try.prog 16 #[.string (x ++ s ++ y), .string (x ++ y), .int .i64 x.size] w fun e w' => e = .returned (.tuple #[.string s, .bool true]) ∧ ∃ q, w' = w.drewN q := by
  have he : (x ++ y).size = x.size + y.size := ByteArray.size_append
  have hr : (x ++ s ++ y).size = x.size + s.size + y.size := by rw [ByteArray.size_append, ByteArray.size_append]
  have hm := piece_m x s y
  have hc := inFrame_pieces x s y w hx hs
  obtain ⟨R, hR⟩ : ∃ R, R = x ++ s ++ y := ⟨_, rfl⟩
  obtain ⟨E, hE⟩ : ∃ E, E = x ++ y := ⟨_, rfl⟩
  rw [← hR] at hr hm hc ⊢
  rw [← hE] at he hc ⊢
  clear hR hE
  have hrs : (R.size : Int) = (x.size : Int) + (s.size : Int) + (y.size : Int) := by omega
  have hes : (E.size : Int) = (x.size : Int) + (y.size : Int) := by omega
  have hc' : Hid (Calls Try.prog 9 #[Value.string R, Value.string E, Value.int IntKind.i64 ↑x.size, Value.string s] w fun e w' => e = Ending.returned (Value.bool true) ∧ ∃ q, w' = w.drewN q) := hc
  clear hc
  go_enter Try.func16, Try.ntmps16
  go_wp2_with fail
  rw [show x.size + s.size + y.size - (x.size + y.size - x.size) = x.size + s.size by omega, hm]
  refine hc'.out.mono ?_
  rintro e w1 ⟨rfl, q, rfl⟩
  clear hc' hm
  go_wp2
  go_ret2
  exact ⟨rfl, _, rfl⟩

theorem at_l (x y : ByteArray) (c : UInt8) (i : Nat) (hi : i < x.size) (h : i < (x ++ ⟨#[c]⟩ ++ y).size) : (x ++ ⟨#[c]⟩ ++ y)[i] = x[i] := by
  rw [ByteArray.getElem_append_left (by rw [ByteArray.size_append]; omega), ByteArray.getElem_append_left hi]
theorem at_m (x y : ByteArray) (c : UInt8) (h : x.size < (x ++ ⟨#[c]⟩ ++ y).size) : (x ++ ⟨#[c]⟩ ++ y)[x.size] = c := by
  rw [ByteArray.getElem_append_left (by rw [ByteArray.size_append]; exact Nat.lt_succ_self _), ByteArray.getElem_append_right (Nat.le_refl _)]
  simp
  rfl

theorem common_pieces (x y : ByteArray) (w : World) (hx : x.size + y.size ≤ 4194000) :
    Calls Try.prog 17 #[.string (x ++ ⟨#[0]⟩ ++ y), .string (x ++ ⟨#[1]⟩ ++ y)] w fun e w' => e = .returned (.int .i64 x.size) ∧ ∃ q, w' = w.drewN q := by
  have z0 : (x ++ ⟨#[0]⟩ ++ y).size = x.size + 1 + y.size := by rw [ByteArray.size_append, ByteArray.size_append]; rfl
  have z1 : (x ++ ⟨#[1]⟩ ++ y).size = x.size + 1 + y.size := by rw [ByteArray.size_append, ByteArray.size_append]; rfl
  refine common_any _ _ x.size w (by omega) (by omega) (by omega) (fun i hi => ?_) ?_
  · rw [at_l _ _ _ _ hi, at_l _ _ _ _ hi]
  · rw [at_m, at_m]; decide

end Go.Proofs.Qxb6601931a
