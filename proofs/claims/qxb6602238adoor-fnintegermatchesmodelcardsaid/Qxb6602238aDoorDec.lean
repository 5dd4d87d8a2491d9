import Derived.Test.Qxb6602238aDoorAuto
namespace Go.Proofs.Qxb6602238aDoor
open Go.RowKit

/-- the digits' value, if it does not pass lim -/
def dec (lim : Nat) (ts : Nat → Int) : Nat → Nat → Nat → Option Nat
  | 0, _, mag => some mag
  | f + 1, k, mag => if isDg (ts k) = true then (if (lim - (ts k - 48).toNat) / 10 < mag then none else dec lim ts f (k + 1) (mag * 10 + (ts k - 48).toNat)) else none
theorem dec_nodigit {lim : Nat} {ts : Nat → Int} {m k mag : Nat} (hk : k < m) (h : isDg (ts k) = false) : dec lim ts (m - k) k mag = none := by
  rw [show m - k = (m - (k + 1)) + 1 by omega]
  show (if isDg (ts k) = true then _ else _) = _
  rw [if_neg (by rw [h]; decide)]
theorem dec_over {lim : Nat} {ts : Nat → Int} {m k mag : Nat} (hk : k < m) (h : isDg (ts k) = true) (ho : (lim - (ts k - 48).toNat) / 10 < mag) : dec lim ts (m - k) k mag = none := by
  rw [show m - k = (m - (k + 1)) + 1 by omega]
  show (if isDg (ts k) = true then (if _ then _ else _) else _) = _
  rw [if_pos h, if_pos ho]
theorem dec_go {lim : Nat} {ts : Nat → Int} {m k mag : Nat} (hk : k < m) (h : isDg (ts k) = true) (ho : ¬ (lim - (ts k - 48).toNat) / 10 < mag) : dec lim ts (m - k) k mag = dec lim ts (m - (k + 1)) (k + 1) (mag * 10 + (ts k - 48).toNat) := by
  rw [show m - k = (m - (k + 1)) + 1 by omega]
  show (if isDg (ts k) = true then (if _ then _ else _) else _) = _
  rw [if_pos h, if_neg ho]

/-- int64 of minus a uint64 that is at most 2^63 -/
theorem conv_neg (u : Nat) (h : (u : Int) ≤ 9223372036854775808) : wrap64 (IntKind.u64.wrap (-(u : Int))) = -(u : Int) := by
  unfold wrap64
  rw [IntKind.wrap_u64]
  omega
theorem ret_tup {a b : Int} (h : a = b) : Ending.returned (.tuple #[.int .i64 a, .bool true]) = .returned (.tuple #[.int .i64 b, .bool true]) := by rw [h]
/-- what b1DecimalInt hands back -/
def decV (neg : Bool) : Option Nat → Value
  | some u => .tuple #[.int .i64 (if neg = true then -(u : Int) else (u : Int)), .bool true]
  | none => .tuple #[.int .i64 0, .bool false]

set_option maxHeartbeats 1000000 in
theorem dec_neg (w : World) (b off m c : Nat) (ts : Nat → Int) (hm : m ≤ 2097152) (h0 : 1 < m) (hts : ∀ j, j < m → w.cell? ⟨b, off + j, none⟩ = some (.int .u8 (ts j))) (hneg : ts 0 = 45)
    (R : Option Nat) (hR : R = dec 9223372036854775808 ts (m - 1) 1 0) :
    Calls Tryd.prog 12 #[.slice (some ⟨b, off, none⟩) m c] w fun e w' => e = .returned (decV true R) ∧ w' = w := by
  have hc0 : w.cell? ⟨b, off, none⟩ = some (.int .u8 45) := by rw [← hneg]; exact hts 0 (by omega)
  have hmi : (0 : Int) < (m : Int) := by omega
  obtain ⟨lim, hlim⟩ : ∃ lim : Nat, lim = 9223372036854775808 := ⟨_, rfl⟩
  have HL : Hid (lim = 9223372036854775808) := hlim
  rw [← hlim] at hR
  have HR : Hid (R = dec lim ts (m - 1) 1 0) := hR
  have hl1 : (9 : Int) ≤ (lim : Int) := by omega
  clear hR hlim hneg
  go_enter Tryd.func12, Tryd.ntmps12
  go_upto_region 11 with (fail)
  go_cut [6, 7] (fun s6 s7 wd => s6 = .int .u64 lim ∧ s7 = .int .u64 0 ∧ wd = w)
  case first =>
    go_wp2_with fail
    go_meet
    case rel => exact ⟨by rw [HL.out]; rfl, rfl, rfl⟩
  case rest =>
    obtain ⟨rfl, rfl, rfl⟩ := hcut
    have hl2 : (lim : Int) ≤ 9223372036854775808 := by have := HL.out; omega
    clear hc0 HL
    go_wp2_with fail
    go_loop [5, 7, 8, 9] (fun s5 s7 _ _ => ∃ k mag : Nat, s5 = .int .i64 k ∧ s7 = .int .u64 mag ∧ k ≤ m ∧ mag ≤ lim ∧ R = dec lim ts (m - k) k mag) (fun s5 _ _ _ => m - (intOf s5).toNat)
    case atStart => exact ⟨1, 0, rfl, rfl, by omega, by omega, HR.out⟩
    case round =>
      clear HR
      obtain ⟨k, mag, rfl, rfl, hk, hmg, hA0⟩ := hrel
      have HA : Hid (R = dec lim ts (m - k) k mag) := hA0
      clear hA0
      by_cases hlt : k < m
      · have hki : (k : Int) < (m : Int) := by omega
        have hd := hts k hlt
        go_wp2_with fail
        refine (isDigit19 (ts k) _).mono ?_
        rintro e wx ⟨rfl, rfl⟩
        cases hD : isDg (ts k) with
        | false =>
          obtain rfl : R = none := by rw [HA.out, dec_nodigit hlt hD]
          clear HA hD
          go_wp2_with fail
          go_ret2
          exact ⟨rfl, rfl⟩
        | true =>
          have hr : 48 ≤ ts k ∧ ts k ≤ 57 := by simpa [isDg] using hD
          obtain ⟨hr1, hr2⟩ := hr
          obtain ⟨d, hdd⟩ : ∃ d : Nat, ts k - 48 = (d : Int) := Int.eq_ofNat_of_zero_le (by omega)
          have hdn : (ts k - 48).toNat = d := by omega
          have hd9 : d ≤ 9 := by omega
          by_cases ho : (lim - (ts k - 48).toNat) / 10 < mag
          · obtain rfl : R = none := by rw [HA.out, dec_over hlt hD ho]
            rw [hdn] at ho
            have ho' : ((lim : Int) - (d : Int)) / 10 < (mag : Int) := by omega
            clear HA hD ho hdn
            go_wp2_with fail
            go_ret2
            exact ⟨rfl, rfl⟩
          · have HB : Hid (R = dec lim ts (m - (k + 1)) (k + 1) (mag * 10 + d)) := hid (by rw [HA.out, dec_go hlt hD ho, hdn])
            rw [hdn] at ho
            have ho' : (mag : Int) ≤ ((lim : Int) - (d : Int)) / 10 := by omega
            clear HA hD ho hdn
            go_wp2_with fail
            go_round
            case rel => exact ⟨k + 1, mag * 10 + d, by go_num, by go_num, by omega, by omega, HB.out⟩
            case measure => simp [intOf]; omega
      · obtain rfl : R = some mag := by rw [HA.out, show m - k = 0 by omega]; rfl
        clear HA
        go_wp2_with fail
        go_ret2
        exact ⟨ret_tup (conv_neg mag (by omega)), rfl⟩

set_option maxHeartbeats 1000000 in
theorem dec_pos (w : World) (b off m c : Nat) (ts : Nat → Int) (hm : m ≤ 2097152) (h0 : 0 < m) (hts : ∀ j, j < m → w.cell? ⟨b, off + j, none⟩ = some (.int .u8 (ts j))) (hneg : (ts 0 == 45) = false)
    (R : Option Nat) (hR : R = dec 9223372036854775807 ts (m - 0) 0 0) :
    Calls Tryd.prog 12 #[.slice (some ⟨b, off, none⟩) m c] w fun e w' => e = .returned (decV false R) ∧ w' = w := by
  have hc0 : w.cell? ⟨b, off, none⟩ = some (.int .u8 (ts 0)) := hts 0 (by omega)
  have hmi : (0 : Int) < (m : Int) := by omega
  have hmz : ((0 : Int) == (m : Int)) = false := by rw [beq_eq_false_iff_ne]; omega
  obtain ⟨lim, hlim⟩ : ∃ lim : Nat, lim = 9223372036854775807 := ⟨_, rfl⟩
  have HL : Hid (lim = 9223372036854775807) := hlim
  rw [← hlim] at hR
  have HR : Hid (R = dec lim ts (m - 0) 0 0) := hR
  have hl1 : (9 : Int) ≤ (lim : Int) := by omega
  clear hR hlim
  go_enter Tryd.func12, Tryd.ntmps12
  go_upto_region 11 with (fail)
  go_cut [6, 7] (fun s6 s7 wd => s6 = .int .u64 lim ∧ s7 = .int .u64 0 ∧ wd = w)
  case first =>
    go_wp2_with fail
    go_meet
    case rel => exact ⟨by rw [HL.out]; rfl, rfl, rfl⟩
  case rest =>
    obtain ⟨rfl, rfl, rfl⟩ := hcut
    have hl2 : (lim : Int) ≤ 9223372036854775807 := by have := HL.out; omega
    clear hc0 HL
    go_wp2_with fail
    go_loop [5, 7, 8, 9] (fun s5 s7 _ _ => ∃ k mag : Nat, s5 = .int .i64 k ∧ s7 = .int .u64 mag ∧ k ≤ m ∧ mag ≤ lim ∧ R = dec lim ts (m - k) k mag) (fun s5 _ _ _ => m - (intOf s5).toNat)
    case atStart => exact ⟨0, 0, rfl, rfl, by omega, by omega, HR.out⟩
    case round =>
      clear HR
      obtain ⟨k, mag, rfl, rfl, hk, hmg, hA0⟩ := hrel
      have HA : Hid (R = dec lim ts (m - k) k mag) := hA0
      clear hA0
      by_cases hlt : k < m
      · have hki : (k : Int) < (m : Int) := by omega
        have hd := hts k hlt
        go_wp2_with fail
        refine (isDigit19 (ts k) _).mono ?_
        rintro e wx ⟨rfl, rfl⟩
        cases hD : isDg (ts k) with
        | false =>
          obtain rfl : R = none := by rw [HA.out, dec_nodigit hlt hD]
          clear HA hD
          go_wp2_with fail
          go_ret2
          exact ⟨rfl, rfl⟩
        | true =>
          have hr : 48 ≤ ts k ∧ ts k ≤ 57 := by simpa [isDg] using hD
          obtain ⟨hr1, hr2⟩ := hr
          obtain ⟨d, hdd⟩ : ∃ d : Nat, ts k - 48 = (d : Int) := Int.eq_ofNat_of_zero_le (by omega)
          have hdn : (ts k - 48).toNat = d := by omega
          have hd9 : d ≤ 9 := by omega
          by_cases ho : (lim - (ts k - 48).toNat) / 10 < mag
          · obtain rfl : R = none := by rw [HA.out, dec_over hlt hD ho]
            rw [hdn] at ho
            have ho' : ((lim : Int) - (d : Int)) / 10 < (mag : Int) := by omega
            clear HA hD ho hdn
            go_wp2_with fail
            go_ret2
            exact ⟨rfl, rfl⟩
          · have HB : Hid (R = dec lim ts (m - (k + 1)) (k + 1) (mag * 10 + d)) := hid (by rw [HA.out, dec_go hlt hD ho, hdn])
            rw [hdn] at ho
            have ho' : (mag : Int) ≤ ((lim : Int) - (d : Int)) / 10 := by omega
            clear HA hD ho hdn
            go_wp2_with fail
            go_round
            case rel => exact ⟨k + 1, mag * 10 + d, by go_num, by go_num, by omega, by omega, HB.out⟩
            case measure => simp [intOf]; omega
      · obtain rfl : R = some mag := by rw [HA.out, show m - k = 0 by omega]; rfl
        clear HA
        go_wp2_with fail
        go_ret2
        exact ⟨rfl, rfl⟩

end Go.Proofs.Qxb6602238aDoor
