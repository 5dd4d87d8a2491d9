import Derived.Test.Qxb6602238aDoorLawDec
namespace Go.Proofs.Qxb6602238aDoor
open Go.RowKit
variable {w w1 w2 : World} {ao : Option Addr} {n cap : Nat} {bs : Nat → Int} {i : Nat}

set_option maxHeartbeats 400000 in
theorem dec_lone (w : World) (b off c : Nat) (ts : Nat → Int) (hts : ∀ j, j < 1 → w.cell? ⟨b, off + j, none⟩ = some (.int .u8 (ts j))) (hneg : ts 0 = 45) :
    Calls Tryd.prog 12 #[.slice (some ⟨b, off, none⟩) 1 c] w fun e w' => e = .returned (decV true none) ∧ w' = w := by
  have hc0 : w.cell? ⟨b, off, none⟩ = some (.int .u8 45) := by rw [← hneg]; exact hts 0 (by omega)
  clear hneg
  go_enter Tryd.func12, Tryd.ntmps12
  go_wp2
  go_ret2
  exact ⟨rfl, rfl⟩

theorem dec12 (w : World) (b off m c : Nat) (ts : Nat → Int) (hm : m ≤ 2097152) (h0 : 0 < m) (hts : ∀ j, j < m → w.cell? ⟨b, off + j, none⟩ = some (.int .u8 (ts j))) :
    Calls Tryd.prog 12 #[.slice (some ⟨b, off, none⟩) m c] w fun e w' => e = .returned (decV (ts 0 == 45) (decF ts m)) ∧ w' = w := by
  unfold decF
  cases hn : (ts 0 == 45) with
  | true =>
    have h45 : ts 0 = 45 := by simpa using hn
    rw [if_pos rfl]
    by_cases h1 : m = 1
    · subst h1
      rw [if_pos rfl]
      exact dec_lone w b off c ts hts h45
    · rw [if_neg h1]
      exact dec_neg w b off m c ts hm (by omega) hts h45 _ rfl
  | false =>
    rw [if_neg (by decide)]
    exact dec_pos w b off m c ts hm h0 hts hn _ rfl

def modelF (bs : Nat → Int) (n i : Nat) (v : Int) : Bool × Nat × Int :=
  if nullAt bs n (sk isSp bs n i) = true then (true, sk isSp bs n i + 4, v) else afterDec bs (sk isSp bs n i) v (numF bs n (sk isSp bs n i))

theorem expF_le (i : Nat) (h : i ≤ n) : (expF bs n i).2 ≤ n := by
  unfold expF
  split
  · rename_i hA
    have hlt : i < n := by rcases Bool.or_eq_true_iff.1 hA with h1 | h1 <;> exact atB_lt h1
    refine sk_le isDg bs n _ ?_
    split
    · rename_i hS
      have : i + 1 < n := by rcases Bool.or_eq_true_iff.1 hS with h1 | h1 <;> exact atB_lt h1
      omega
    · omega
  · exact h
theorem fracF_le (i : Nat) (h : i ≤ n) : (fracF bs n i).2 ≤ n := by
  unfold fracF
  split
  · rename_i hA
    have := atB_lt hA
    split
    · exact expF_le _ (sk_le isDg bs n _ (by omega))
    · exact sk_le isDg bs n _ (by omega)
  · exact expF_le i h
theorem intF_le (i : Nat) (h : i ≤ n) : (intF bs n i).2 ≤ n := by
  unfold intF
  split
  · rename_i hA
    have := atB_lt hA
    exact fracF_le _ (by omega)
  · split
    · exact fracF_le _ (sk_le isDg bs n _ h)
    · exact sk_le isDg bs n _ h
theorem numF_le (i : Nat) (h : i ≤ n) : (numF bs n i).2 ≤ n := by
  unfold numF
  split
  · rename_i hA
    have := atB_lt hA
    exact intF_le _ (by omega)
  · exact intF_le i h

set_option maxHeartbeats 1000000 in
theorem model7 (w : World) (v : Int) (h : BI w ao n bs) (hi : i ≤ n) (hn : n ≤ 2097152) (hcap : n ≤ cap) :
    Calls Tryd.prog 7 #[.slice ao n cap, .int .i64 i, .int .i64 v] w fun e w' => e = .returned (.tuple #[.bool (modelF bs n i v).1, .int .i64 (modelF bs n i v).2.1, .int .i64 (modelF bs n i v).2.2]) ∧ ∃ q, w' = w.drewN q := by
  obtain ⟨p, hp⟩ : ∃ p, p = sk isSp bs n i := ⟨_, rfl⟩
  have HP : Hid (p = sk isSp bs n i) := hp
  obtain ⟨R, hR⟩ : ∃ R, R = modelF bs n i v := ⟨_, rfl⟩
  have HR : Hid (R = (if nullAt bs n p = true then (true, p + 4, v) else afterDec bs p v (numF bs n p))) := hid (by rw [hR, modelF, ← hp])
  rw [← hR]
  have hpn : p ≤ n := by rw [hp]; exact sk_le isSp bs n i hi
  clear hp hR
  go_enter Tryd.func7, Tryd.ntmps7
  go_wp2_with fail
  go_loop [9] (fun s => ∃ k : Nat, s = .int .i64 k ∧ k ≤ n ∧ p = sk isSp bs n k) (fun s => n - (intOf s).toNat)
  case atStart => exact ⟨i, rfl, hi, HP.out⟩
  case round =>
    clear HP
    obtain ⟨k, rfl, hk, hA0⟩ := hrel
    have HA : Hid (p = sk isSp bs n k) := hA0
    clear hA0
    by_cases hlt : k < n ∧ isSp (bs k) = true
    · obtain ⟨h1, h2⟩ := hlt
      obtain ⟨b, rfl, hlb, hd⟩ := h k h1
      have hki : (k : Int) < (n : Int) := by omega
      have HB : Hid (p = sk isSp bs n (k + 1)) := hid (by rw [HA.out, sk_yes h1 h2])
      have HC : Hid (∀ w, Calls Tryd.prog 9 #[.int .u8 (bs k)] w fun e w' => e = .returned (.bool true) ∧ w' = w) := hid (fun w => by rw [← h2]; exact isSpace9 _ _)
      clear HA h2
      go_wp2_with (go_at_call 9; refine (HC.out _).mono ?_; rintro e wx ⟨rfl, rfl⟩)
      go_round
      case rel => exact ⟨k + 1, by go_num, by omega, HB.out⟩
      case measure => simp [intOf]; omega
    · have hkp : p = k := by
        rcases Nat.lt_or_ge k n with h1 | h1
        · rw [HA.out, sk_no (by cases h2 : isSp (bs k) with | false => rfl | true => exact absurd ⟨h1, h2⟩ hlt)]
        · rw [HA.out, sk_end h1]
      subst hkp
      clear HA
      have AN : Hid ((acc (au bs n 0 p).1, (au bs n 0 p).2) = numF bs n p) := au_num p
      have hle : (numF bs n p).2 ≤ n := numF_le p hpn
      have hgt := numF_ok bs n p
      have HGT : Hid ((numF bs n p).1 = true → p < (numF bs n p).2) := hgt
      clear hgt
      obtain ⟨r, hr⟩ : ∃ r, r = numF bs n p := ⟨_, rfl⟩
      rw [← hr] at AN HGT hle
      have HR2 : Hid (R = (if nullAt bs n p = true then (true, p + 4, v) else afterDec bs p v r)) := hid (by rw [HR.out, hr])
      clear HR hr
      obtain ⟨ok, en⟩ := r
      have a1 : Hid (acc (au bs n 0 p).1 = ok) := hid (congrArg Prod.fst AN.out)
      have a2 : Hid ((au bs n 0 p).2 = en) := hid (congrArg Prod.snd AN.out)
      clear AN
      simp only [] at hle
      rcases Nat.lt_or_ge p n with h1 | h1
      · have h2 : isSp (bs p) = false := by cases h2 : isSp (bs p) with | false => rfl | true => exact absurd ⟨h1, h2⟩ hlt
        obtain ⟨b, hao, hlb, hd⟩ := h p h1
        have hki : (p : Int) < (n : Int) := by omega
        have HC : Hid (∀ w, Calls Tryd.prog 9 #[.int .u8 (bs p)] w fun e w' => e = .returned (.bool false) ∧ w = w') := hid (fun w => by rw [← h2]; exact (isSpace9 _ _).mono fun _ _ ⟨a, b⟩ => ⟨a, b.symm⟩)
        subst hao
        clear hlt h2
        go_wp2_with (go_at_call 9; refine (HC.out _).mono ?_; rintro e wx ⟨rfl, rfl⟩)
        clear HC hd hlb
        refine (hasNull10 w p h hpn hn).mono ?_
        rintro e wy ⟨rfl, q, rfl⟩
        cases hA : nullAt bs n p with
        | true =>
          obtain rfl : R = (true, p + 4, v) := by rw [HR2.out, if_pos hA]
          clear hA HR2 a1 a2 HGT
          go_wp2_with fail
          go_ret3
          exact ⟨rfl, q, rfl⟩
        | false =>
          have HR3 : Hid (R = afterDec bs p v (ok, en)) := hid (by rw [HR2.out, if_neg (by rw [hA]; decide)])
          clear hA HR2
          go_wp2_with fail
          have hq : BI (w.drewN q) _ n bs := h
          refine (auto11 (w.drewN q) hq hpn hn).mono ?_
          rw [a1.out, a2.out]
          clear a1 a2 hq
          rintro e wz ⟨rfl, hz⟩
          have hz := hz.symm
          subst hz
          cases ok with
          | false =>
            obtain rfl : R = (false, en, v) := HR3.out
            clear HR3 HGT
            go_wp2_with fail
            go_ret3
            exact ⟨rfl, q, rfl⟩
          | true =>
            have hpe : p < en := HGT.out rfl
            clear HGT
            have hen : en ≤ n := hle
            have hpi : (p : Int) ≤ (en : Int) := by omega
            have hei : (en : Int) ≤ (cap : Int) := by omega
            have hcp : ¬ cap = p := by omega
            obtain ⟨b', hao', _, _⟩ := h p (by omega)
            have hts : ∀ j, j < en - p → (w.drewN q).cell? ⟨b', p + j, none⟩ = some (.int .u8 (bs (p + j))) := fun j hj => by
              obtain ⟨b2, ha2, _, hc2⟩ := h (p + j) (by omega)
              rw [hao'] at ha2
              simp at ha2
              subst ha2
              exact hc2
            have HDC : Hid (Calls Tryd.prog 12 #[.slice (some ⟨b', p, none⟩) (en - p) (cap - p)] (w.drewN q) fun e w' => e = .returned (decV (bs p == 45) (decF (fun j => bs (p + j)) (en - p))) ∧ w' = w.drewN q) :=
              dec12 (w.drewN q) b' p (en - p) (cap - p) (fun j => bs (p + j)) (by omega) (by omega) hts
            simp only [Option.some.injEq, Addr.mk.injEq, and_true] at hao'
            subst hao'
            clear hts
            go_wp2_with fail
            refine HDC.out.mono ?_
            rintro e wz ⟨rfl, hz⟩
            have hz := hz.symm
            subst hz
            have HR4 : Hid (R = (match decF (fun j => bs (p + j)) (en - p) with | some u => (true, en, sgn (bs p == 45) u) | none => (false, en, v))) := HR3.out
            clear HDC HR3
            revert HR4
            generalize decF (fun j => bs (p + j)) (en - p) = D
            intro HR4
            cases D with
            | none =>
              obtain rfl : R = (false, en, v) := HR4.out
              clear HR4
              unfold decV
              go_wp2_with fail
              go_ret3
              exact ⟨rfl, q, rfl⟩
            | some u =>
              obtain rfl : R = (true, en, sgn (bs p == 45) u) := HR4.out
              clear HR4
              have HV : Hid (decV (bs p == 45) (some u) = .tuple #[.int .i64 (sgn (bs p == 45) u), .bool true]) := rfl
              rw [HV.out]
              clear HV
              go_wp2_with fail
              go_ret3
              exact ⟨rfl, q, rfl⟩
      · clear hlt
        go_wp2_with fail
        refine (hasNull10 w p h hpn hn).mono ?_
        rintro e wy ⟨rfl, q, rfl⟩
        cases hA : nullAt bs n p with
        | true =>
          obtain rfl : R = (true, p + 4, v) := by rw [HR2.out, if_pos hA]
          clear hA HR2 a1 a2 HGT
          go_wp2_with fail
          go_ret3
          exact ⟨rfl, q, rfl⟩
        | false =>
          have HR3 : Hid (R = afterDec bs p v (ok, en)) := hid (by rw [HR2.out, if_neg (by rw [hA]; decide)])
          clear hA HR2
          go_wp2_with fail
          have hq : BI (w.drewN q) _ n bs := h
          refine (auto11 (w.drewN q) hq hpn hn).mono ?_
          rw [a1.out, a2.out]
          clear a1 a2 hq
          rintro e wz ⟨rfl, hz⟩
          have hz := hz.symm
          subst hz
          cases ok with
          | false =>
            obtain rfl : R = (false, en, v) := HR3.out
            clear HR3 HGT
            go_wp2_with fail
            go_ret3
            exact ⟨rfl, q, rfl⟩
          | true => exact absurd (HGT.out rfl) (by have : en ≤ n := hle; show ¬ p < en; omega)

end Go.Proofs.Qxb6602238aDoor
