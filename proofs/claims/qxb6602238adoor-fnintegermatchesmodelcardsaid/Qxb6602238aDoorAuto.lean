import Derived.Test.Qxb6602238aDoorModel
namespace Go.Proofs.Qxb6602238aDoor
open Go.RowKit
variable {w w1 w2 : World} {ao : Option Addr} {n cap : Nat} {bs : Nat → Int} {i : Nat}

set_option maxHeartbeats 400000 in
theorem auto11 (w : World) (h : BI w ao n bs) (hi : i ≤ n) (hn : n ≤ 2097152) :
    Calls Tryd.prog 11 #[.slice ao n cap, .int .i64 i] w fun e w' => e = .returned (.tuple #[.bool (acc (au bs n 0 i).1), .int .i64 (au bs n 0 i).2]) ∧ w' = w := by
  obtain ⟨R, hR⟩ : ∃ R, R = au bs n 0 i := ⟨_, rfl⟩
  have HR : Hid (R = au bs n 0 i) := hR
  rw [← hR]
  clear hR
  go_enter Tryd.func11, Tryd.ntmps11
  go_wp2_with fail
  go_loop [6, 7, 8] (fun s p _ => ∃ (st : Int) (k : Nat), s = .int .i64 st ∧ p = .int .i64 k ∧ (0 ≤ st ∧ st ≤ 8) ∧ k ≤ n ∧ R = au bs n st k) (fun _ p _ => n - (intOf p).toNat)
  case atStart => exact ⟨0, i, rfl, rfl, by omega, hi, HR.out⟩
  case round =>
    clear HR
    obtain ⟨st, k, rfl, rfl, hst, hk, hA0⟩ := hrel
    have HA : Hid (R = au bs n st k) := hA0
    clear hA0
    by_cases hlt : k < n
    · obtain ⟨b, rfl, hlb, hd⟩ := h k hlt
      have hki : (k : Int) < (n : Int) := by omega
      go_wp2_with fail
      refine (next17 st (bs k) _ hst).mono ?_
      rintro e wx ⟨rfl, rfl⟩
      by_cases hN : nxt st (bs k) = -1
      · obtain rfl : R = (st, k) := by rw [HA.out, au_stop hN]
        rw [hN]
        clear hN HA
        go_wp2_with fail
        refine (accept18 st _).mono ?_
        rintro e wx ⟨rfl, rfl⟩
        go_wp2_with fail
        go_ret2
        exact ⟨rfl, rfl⟩
      · have HB : Hid (R = au bs n (nxt st (bs k)) (k + 1)) := hid (by rw [HA.out, au_go hlt hN])
        have hr : 0 ≤ nxt st (bs k) ∧ nxt st (bs k) ≤ 8 := by rcases nxt_range st (bs k) with h1 | h1; exact absurd h1 hN; exact h1
        obtain ⟨nx, hnx⟩ : ∃ nx, nx = nxt st (bs k) := ⟨_, rfl⟩
        rw [← hnx] at HB hN hr ⊢
        have hne : (nx == -1) = false := by simpa using hN
        clear hnx HA hN
        go_wp2_with fail
        go_round
        case rel => exact ⟨nx, k + 1, rfl, by go_num, hr, by omega, HB.out⟩
        case measure => simp [intOf]; omega
    · obtain rfl : R = (st, k) := by rw [HA.out, au_end (by omega)]
      clear HA
      go_wp2_with fail
      refine (accept18 st _).mono ?_
      rintro e wx ⟨rfl, rfl⟩
      go_wp2_with fail
      go_ret2
      exact ⟨rfl, rfl⟩

/-- the first k bytes of "null" lie at p -/
def nullK (bs : Nat → Int) (p : Nat) : Nat → Bool
  | 0 => true
  | 1 => bs p == 110
  | 2 => bs p == 110 && bs (p + 1) == 117
  | 3 => bs p == 110 && (bs (p + 1) == 117 && bs (p + 2) == 108)
  | _ => bs p == 110 && (bs (p + 1) == 117 && (bs (p + 2) == 108 && bs (p + 3) == 108))

set_option maxHeartbeats 1000000 in
theorem hasNull10 (w : World) (p : Nat) (h : BI w ao n bs) (hp : p ≤ n) (hn : n ≤ 2097152) :
    Calls Tryd.prog 10 #[.slice ao n cap, .int .i64 p] w fun e w' => e = .returned (.bool (nullAt bs n p)) ∧ ∃ q, w' = w.drewN q := by
  obtain ⟨R, hR⟩ : ∃ R, R = nullAt bs n p := ⟨_, rfl⟩
  have HR : Hid (R = nullAt bs n p) := hR
  rw [← hR]
  clear hR
  by_cases h4 : p + 4 ≤ n
  · have HR4 : Hid (R = (bs p == 110 && (bs (p + 1) == 117 && (bs (p + 2) == 108 && bs (p + 3) == 108)))) := hid (by rw [HR.out, nullAt, decide_eq_true h4, Bool.true_and])
    clear HR
    go_enter Tryd.func10, Tryd.ntmps10
    go_wp2_with fail
    go_loopw [5] (fun s wr => ∃ k : Nat, s = .int .i64 k ∧ k ≤ 4 ∧ nullK bs p k = true ∧ ∃ q, wr = w.drewN q) (fun s _ => 4 - (intOf s).toNat)
    case atStart => exact ⟨0, rfl, by omega, rfl, 0, rfl⟩
    case round =>
      obtain ⟨k, rfl, hk, hK0, q, rfl⟩ := hrel
      have HK : Hid (nullK bs p k = true) := hK0
      clear hK0
      by_cases hlt : k < 4
      · obtain ⟨b, rfl, hlb, hd⟩ := h (p + k) (by omega)
        have hki : (p : Int) + (k : Int) < (n : Int) := by omega
        have : k = 0 ∨ k = 1 ∨ k = 2 ∨ k = 3 := by omega
        rcases this with rfl | rfl | rfl | rfl
        · have hix : ((⟨#[110, 117, 108, 108]⟩ : ByteArray)[0]'(by decide)).toNat = 110 := rfl
          have hd' : w.cell? ⟨b, p, none⟩ = some (.int .u8 (bs (p))) := hd
          have hki' : (p : Int) < (n : Int) := by omega
          have hwr : IntKind.i64.wrap (p : Int) = (p : Int) := by rw [IntKind.wrap_i64]; omega
          clear hd hki
          cases hc : (bs (p) != 110) with
          | true =>
            have E : Hid (R = false) := hid (by
              have h0 : (bs (p) == 110) = false := by simpa [bne] using hc
              rw [HR4.out, h0]; simp)
            go_wp2_with fail
            go_region
            all_goals
              go_wp2_with fail
              go_ret
              exact ⟨by rw [E.out]; rfl, q + 1, rfl⟩
          | false =>
            have h0 : (bs (p) == 110) = true := by simpa [bne] using hc
            have HK2 : Hid (nullK bs p 1 = true) := hid (by have h1 := HK.out; simp [nullK] at h1 h0 ⊢; simp [*])
            clear h0
            go_wp2_with fail
            go_region
            all_goals
              go_wp2_with fail
              go_roundw
              case rel => exact ⟨1, by go_num, by omega, HK2.out, q + 1, rfl⟩
              case measure => decide
        · have hix : ((⟨#[110, 117, 108, 108]⟩ : ByteArray)[1]'(by decide)).toNat = 117 := rfl
          have hd' : w.cell? ⟨b, p + 1, none⟩ = some (.int .u8 (bs (p + 1))) := hd
          have hki' : (p : Int) + 1 < (n : Int) := by omega
          have hwr : IntKind.i64.wrap ((p : Int) + 1) = (p : Int) + 1 := by rw [IntKind.wrap_i64]; omega
          clear hd hki
          cases hc : (bs (p + 1) != 117) with
          | true =>
            have E : Hid (R = false) := hid (by
              have h0 : (bs (p + 1) == 117) = false := by simpa [bne] using hc
              rw [HR4.out, h0]; simp)
            go_wp2_with fail
            go_region
            all_goals
              go_wp2_with fail
              go_ret
              exact ⟨by rw [E.out]; rfl, q + 1, rfl⟩
          | false =>
            have h0 : (bs (p + 1) == 117) = true := by simpa [bne] using hc
            have HK2 : Hid (nullK bs p 2 = true) := hid (by have h1 := HK.out; simp [nullK] at h1 h0 ⊢; simp [*])
            clear h0
            go_wp2_with fail
            go_region
            all_goals
              go_wp2_with fail
              go_roundw
              case rel => exact ⟨2, by go_num, by omega, HK2.out, q + 1, rfl⟩
              case measure => decide
        · have hix : ((⟨#[110, 117, 108, 108]⟩ : ByteArray)[2]'(by decide)).toNat = 108 := rfl
          have hd' : w.cell? ⟨b, p + 2, none⟩ = some (.int .u8 (bs (p + 2))) := hd
          have hki' : (p : Int) + 2 < (n : Int) := by omega
          have hwr : IntKind.i64.wrap ((p : Int) + 2) = (p : Int) + 2 := by rw [IntKind.wrap_i64]; omega
          clear hd hki
          cases hc : (bs (p + 2) != 108) with
          | true =>
            have E : Hid (R = false) := hid (by
              have h0 : (bs (p + 2) == 108) = false := by simpa [bne] using hc
              rw [HR4.out, h0]; simp)
            go_wp2_with fail
            go_region
            all_goals
              go_wp2_with fail
              go_ret
              exact ⟨by rw [E.out]; rfl, q + 1, rfl⟩
          | false =>
            have h0 : (bs (p + 2) == 108) = true := by simpa [bne] using hc
            have HK2 : Hid (nullK bs p 3 = true) := hid (by have h1 := HK.out; simp [nullK] at h1 h0 ⊢; simp [*])
            clear h0
            go_wp2_with fail
            go_region
            all_goals
              go_wp2_with fail
              go_roundw
              case rel => exact ⟨3, by go_num, by omega, HK2.out, q + 1, rfl⟩
              case measure => decide
        · have hix : ((⟨#[110, 117, 108, 108]⟩ : ByteArray)[3]'(by decide)).toNat = 108 := rfl
          have hd' : w.cell? ⟨b, p + 3, none⟩ = some (.int .u8 (bs (p + 3))) := hd
          have hki' : (p : Int) + 3 < (n : Int) := by omega
          have hwr : IntKind.i64.wrap ((p : Int) + 3) = (p : Int) + 3 := by rw [IntKind.wrap_i64]; omega
          clear hd hki
          cases hc : (bs (p + 3) != 108) with
          | true =>
            have E : Hid (R = false) := hid (by
              have h0 : (bs (p + 3) == 108) = false := by simpa [bne] using hc
              rw [HR4.out, h0]; simp)
            go_wp2_with fail
            go_region
            all_goals
              go_wp2_with fail
              go_ret
              exact ⟨by rw [E.out]; rfl, q + 1, rfl⟩
          | false =>
            have h0 : (bs (p + 3) == 108) = true := by simpa [bne] using hc
            have HK2 : Hid (nullK bs p 4 = true) := hid (by have h1 := HK.out; simp [nullK] at h1 h0 ⊢; simp [*])
            clear h0
            go_wp2_with fail
            go_region
            all_goals
              go_wp2_with fail
              go_roundw
              case rel => exact ⟨4, by go_num, by omega, HK2.out, q + 1, rfl⟩
              case measure => decide
      · obtain rfl : k = 4 := by omega
        have E : Hid (R = true) := hid (HR4.out.trans HK.out)
        go_wp2_with fail
        go_ret
        exact ⟨by rw [E.out]; rfl, q, rfl⟩
  · have E : Hid (R = false) := hid (by rw [HR.out, nullAt, decide_eq_false h4, Bool.false_and])
    clear HR
    have h5 : (n : Int) - (p : Int) < 4 := by omega
    go_enter Tryd.func10, Tryd.ntmps10
    go_wp2_with fail
    go_ret
    exact ⟨by rw [E.out]; rfl, 0, rfl⟩

end Go.Proofs.Qxb6602238aDoor
