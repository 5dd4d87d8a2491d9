import Derived.Test.Qxb6602238aDoorNumber
import Derived.Test.Qxb6602238aDoorShelf
namespace Go.Proofs.Qxb6602238aDoor
open Go.RowKit
variable {w w1 w2 : World} {sb : Nat} {ao : Option Addr} {n cap : Nat} {bs : Nat → Int} {i : Nat}

def nullS : ByteArray := ⟨#[110, 117, 108, 108]⟩
/-- the n - p bytes from p on -/
def tailL (bs : Nat → Int) (n p : Nat) : List Int := (List.range (n - p)).map fun j => bs (p + j)
/-- "null" lies at p -/
def nullAt (bs : Nat → Int) (n p : Nat) : Bool := decide (p + 4 ≤ n) && (bs p == 110 && (bs (p + 1) == 117 && (bs (p + 2) == 108 && bs (p + 3) == 108)))

theorem byte_eq (x : Int) (h : 0 ≤ x ∧ x < 256) (c : Nat) (hc : c < 256) : (UInt8.ofNat c == UInt8.ofNat x.toNat) = (x == (c : Int)) := by
  rw [Bool.eq_iff_iff]
  simp only [beq_iff_eq]
  constructor
  · intro e
    have := congrArg UInt8.toNat e
    simp at this
    omega
  · rintro rfl
    simp

theorem prefix_null (bs : Nat → Int) (n p : Nat) (hby : ∀ j, j < n → 0 ≤ bs j ∧ bs j < 256) : Lib.hasPrefix (Lib.bytesOf (tailL bs n p)) (Lib.bytesOf [110, 117, 108, 108]) = nullAt bs n p := by
  unfold nullAt
  by_cases h : p + 4 ≤ n
  · have e : tailL bs n p = bs p :: bs (p + 1) :: bs (p + 2) :: bs (p + 3) :: (List.range (n - p - 4)).map (fun j => bs (p + 4 + j)) := by
      unfold tailL
      rw [show n - p = 4 + (n - p - 4) by omega, List.range_add, List.map_append, List.map_map]
      simp [List.range_succ, Function.comp_def, Nat.add_assoc]
    rw [e]
    simp only [Lib.hasPrefix, Lib.bytesOf, List.map_cons, List.isPrefixOf, decide_eq_true h, Bool.true_and]
    rw [show UInt8.ofNat (110 : Int).toNat = UInt8.ofNat 110 from rfl, show UInt8.ofNat (117 : Int).toNat = UInt8.ofNat 117 from rfl, show UInt8.ofNat (108 : Int).toNat = UInt8.ofNat 108 from rfl]
    rw [byte_eq _ (hby p (by omega)) 110 (by omega), byte_eq _ (hby (p + 1) (by omega)) 117 (by omega), byte_eq _ (hby (p + 2) (by omega)) 108 (by omega), byte_eq _ (hby (p + 3) (by omega)) 108 (by omega)]
    simp
  · rw [decide_eq_false h, Bool.false_and]
    have hl : (tailL bs n p).length < 4 := by simp [tailL]; omega
    match hT : tailL bs n p, hl with
    | [], _ => rfl
    | [a], _ => simp [Lib.hasPrefix, Lib.bytesOf, List.isPrefixOf]
    | [a, b], _ => simp [Lib.hasPrefix, Lib.bytesOf, List.isPrefixOf]
    | [a, b, c], _ => simp [Lib.hasPrefix, Lib.bytesOf, List.isPrefixOf]

theorem tailL_length (bs : Nat → Int) (n p : Nat) : (tailL bs n p).length = n - p := by simp [tailL]
theorem tailL_getD (bs : Nat → Int) (n p j : Nat) (h : j < n - p) : (tailL bs n p).getD j 0 = bs (p + j) := by
  simp [tailL, h]

/-- what 's.data[p:hi]' holds, read in a later world -/
theorem tail_in (h : St w sb ao n cap bs i) (p hi : Nat) (hh : hi ≤ n) (W : World) (hW : ∀ b j, b < w.heap.size → W.cell? ⟨b, j, none⟩ = w.cell? ⟨b, j, none⟩) :
    Lib.BytesIn W (ao.map fun x => x.add p) (hi - p) (tailL bs hi p) := by
  intro h0
  obtain ⟨b, rfl, hne, hlb, _⟩ := h.data p (by omega)
  refine ⟨b, p, by simp [WideShapes.add_plain], fun j hj => ?_⟩
  obtain ⟨b', ha, _, _, hc⟩ := h.data (p + j) (by omega)
  simp at ha
  subst ha
  rw [hW b (p + j) hlb, hc, tailL_getD _ _ _ _ hj]

set_option maxHeartbeats 1000000 in
theorem literal13 (w : World) (h : St w sb ao n cap bs i) (hn : n ≤ 2097152) (hcap : n ≤ cap) (hby : ∀ j, j < n → 0 ≤ bs j ∧ bs j < 256) :
    Calls Tryd.prog 13 #[.pointer (some ⟨sb, 0, none⟩), .string nullS] w fun e w' => e = .returned (.bool (nullAt bs n (sk isSp bs n i))) ∧
      St w' sb ao n cap bs (if nullAt bs n (sk isSp bs n i) = true then sk isSp bs n i + 4 else sk isSp bs n i) ∧ w.grownBy w' (some sb) := by
  obtain ⟨p, hp⟩ : ∃ p, p = sk isSp bs n i := ⟨_, rfl⟩
  rw [← hp]
  have HP : Hid (p = sk isSp bs n i) := hp
  clear hp
  obtain ⟨nu, hnu⟩ : ∃ nu, nu = nullAt bs n p := ⟨_, rfl⟩
  have HNU : Hid (nu = nullAt bs n p) := hnu
  rw [← hnu]
  clear hnu
  obtain ⟨k, hk⟩ : ∃ k, k = (if nu = true then p + 4 else p) := ⟨_, rfl⟩
  have HK : Hid (k = (if nu = true then p + 4 else p)) := hk
  rw [← hk]
  clear hk
  have hcv : ∀ W : World, (convert 9 22 (.string nullS)).run Tryd.prog W = .ok (.slice (some ⟨W.heap.size, 0, none⟩) 4 (grownCap W 4 0 5)) (Lib.bytesWorld W 5 nullS) :=
    fun W => Lib.run_convert_string_bytes W 9 22 5 nullS Tryd.underlying9 Tryd.underlying22 Tryd.underlying5
  have hz : nullS.size = 4 := rfl
  go_enter Tryd.func13, Tryd.ntmps13
  go_wp2_with fail
  refine (space14 w h hn).mono ?_
  rw [← HP.out]
  rintro e wx ⟨rfl, hs, hg⟩
  have hle := hs.le
  have c0 := hs.c0
  have c1 := hs.c1
  have hpi : (p : Int) ≤ (n : Int) := by omega
  have hW : ∀ b j, b < wx.heap.size → (Lib.bytesWorld wx.drew 5 nullS).cell? ⟨b, j, none⟩ = wx.cell? ⟨b, j, none⟩ := fun b j hb => Lib.bytesWorld_old wx.drew 5 nullS ⟨b, j, none⟩ hb
  have B1 : Hid (cap = p → Lib.BytesIn (Lib.bytesWorld wx.drew 5 nullS) ao (n - p) (tailL bs n p)) := hid (fun e => by rw [show n - p = 0 by omega]; exact Lib.BytesIn.nil _ _ _)
  have B2 : Hid (Lib.BytesIn (Lib.bytesWorld wx.drew 5 nullS) (ao.map fun x => x.add p) (n - p) (tailL bs n p)) := hid (tail_in hs p n (Nat.le_refl _) _ hW)
  have B0 : Hid (Lib.BytesIn (Lib.bytesWorld wx.drew 5 nullS) (if cap = p then ao else ao.map fun x => x.add p) (n - p) (tailL bs n p)) := hid (by
    split
    · exact B1.out ‹_›
    · exact B2.out)
  have BN : Hid (Lib.BytesIn (Lib.bytesWorld wx.drew 5 nullS) (some ⟨wx.heap.size, 0, none⟩) 4 [110, 117, 108, 108]) := hid (Lib.BytesIn.of_cells (fun j hj => by
    rw [WideShapes.add_plain, Nat.zero_add]
    refine (Lib.bytesWorld_cell wx.drew 5 nullS j hj).trans ?_
    match j, hj with
    | 0, _ => rfl
    | 1, _ => rfl
    | 2, _ => rfl
    | 3, _ => rfl))
  have hbel : Below wx.heap.size wx (Lib.bytesWorld wx.drew 5 nullS) := ((Below.refl _ wx).drew).trans (Lib.bytesWorld_below wx.drew 5 nullS)
  have hs2 : St (Lib.bytesWorld wx.drew 5 nullS) sb ao n cap bs p := by
    refine ⟨hs.own.below hbel hs.own.lt, hs.le, fun j hj => ?_⟩
    obtain ⟨b, ha, hne, hlb, hc⟩ := hs.data j hj
    have := hbel.size
    exact ⟨b, ha, hne, by omega, by rw [hW b j hlb]; exact hc⟩
  have hg2 : w.grownBy (Lib.bytesWorld wx.drew 5 nullS) (some sb) := ⟨hbel.os.trans hg.os, hbel.tape.trans hg.tape, hbel.output.trans hg.output, Nat.le_trans hg.size hbel.size, fun k hk hne => (hbel.block k (Nat.lt_of_lt_of_le hk hg.size)).trans (hg.block k hk hne)⟩
  clear hW hbel
  go_upto_region 2 with (fail)
  go_cut [19] (fun s19 wd => s19 = .bool (!nu) ∧ St wd sb ao n cap bs p ∧ w.grownBy wd (some sb))
  case first =>
    have HX : Hid (Lib.hasPrefix (Lib.bytesOf (tailL bs n p)) (Lib.bytesOf [110, 117, 108, 108]) = nu) := hid ((prefix_null bs n p hby).trans HNU.out.symm)
    have d0 := hs2.c0
    have d1 := hs2.c1
    by_cases hcp : cap = p
    · have HB := hid (B1.out hcp)
      clear B0 B1 B2
      go_region_with (go_at_call 20; refine (Tryd.bytes_HasPrefix_all _ _ _ _ _ _ (tailL bs n p) [110, 117, 108, 108] _ (by exact tailL_length _ _ _) (by rfl) (by omega) (by exact HB.out) (by exact BN.out)).mono ?_; rintro e wy ⟨rfl, rfl⟩; rw [HX.out])
      all_goals (go_wp2_with fail; go_meet; exact ⟨rfl, hs2, hg2⟩)
    · have HB := B2
      clear B0 B1 B2
      go_region_with (go_at_call 20; refine (Tryd.bytes_HasPrefix_all _ _ _ _ _ _ (tailL bs n p) [110, 117, 108, 108] _ (by exact tailL_length _ _ _) (by rfl) (by omega) (by exact HB.out) (by exact BN.out)).mono ?_; rintro e wy ⟨rfl, rfl⟩; rw [HX.out])
      all_goals (go_wp2_with fail; go_meet; exact ⟨rfl, hs2, hg2⟩)
  case rest =>
    clear hs hg hs2 hg2 B0 B1 B2 BN c0 c1 hcv
    obtain ⟨rfl, hs, hg⟩ := hcut
    have c1 := hs.c1
    have z1 := hs.z1
    cases nu with
    | true =>
      have hp4 : p + 4 ≤ n := by have hA := HNU.out; unfold nullAt at hA; simp at hA; exact hA.1
      obtain rfl : k = p + 4 := HK.out
      clear HNU HK
      go_wp2
      go_ret
      exact ⟨rfl, hs.set (p + 4) hp4, gr_set hg _⟩
    | false =>
      obtain rfl : k = p := HK.out
      clear HNU HK
      go_wp2
      go_ret
      exact ⟨rfl, hs, hg⟩

end Go.Proofs.Qxb6602238aDoor
