import Derived.Test.Qxb6602238aDoorLiteral
namespace Go.Proofs.Qxb6602238aDoor
open Go.RowKit
variable {w w1 w2 : World} {sb : Nat} {ao : Option Addr} {n cap : Nat} {bs : Nat → Int} {i : Nat}

theorem sk_idem (p : Int → Bool) (bs : Nat → Int) (n i : Nat) : sk p bs n (sk p bs n i) = sk p bs n i := by
  have key : ∀ f i, sk p bs (i + f) (skip p bs f i) = skip p bs f i := by
    intro f
    induction f with
    | zero => intro i; exact sk_end (Nat.le_refl _)
    | succ f ih =>
      intro i
      by_cases h : p (bs i) = true
      · have e : skip p bs (f + 1) i = skip p bs f (i + 1) := by show (if p (bs i) = true then _ else _) = _; rw [if_pos h]
        rw [e, show i + (f + 1) = i + 1 + f by omega]
        exact ih (i + 1)
      · have e : skip p bs (f + 1) i = i := by show (if p (bs i) = true then _ else _) = _; rw [if_neg h]
        rw [e]
        exact sk_no (by simpa using h)
  by_cases h : i ≤ n
  · have := key (n - i) i
    rw [show i + (n - i) = n by omega] at this
    exact this
  · rw [sk_end (show n ≤ i by omega)]
    exact sk_end (by omega)

theorem gr_below {B : Nat} (h : w.grownBy w1 (some sb)) (hs : B ≤ sb) (hB : B ≤ w.heap.size) : Below B w w1 :=
  ⟨h.os, h.tape, h.output, h.size, fun k hk => h.block k (by omega) (fun e => by injection e with e; omega)⟩
theorem Own.gr {g m : Nat} {f : Nat → Value} (h : Own w g m f) (hg : w.grownBy w1 (some sb)) (hne : g ≠ sb) : Own w1 g m f := by
  have hl := h.lt
  obtain ⟨c, e, h, hs, hf⟩ := h
  exact ⟨c, e, by rw [hg.block g hl (fun e => hne (by injection e))]; exact h, hs, hf⟩
theorem St.below (h : St w sb ao n cap bs i) (hb : Below w.heap.size w w1) : St w1 sb ao n cap bs i := by
  refine ⟨h.own.below hb h.own.lt, h.le, fun j hj => ?_⟩
  obtain ⟨b, ha, hne, hlb, hc⟩ := h.data j hj
  have := hb.size
  exact ⟨b, ha, hne, by omega, by rw [hb.cell (p := ⟨b, j, none⟩) hlb]; exact hc⟩

/-- what string(s.data[p:e]) parses as -/
def parsed (bs : Nat → Int) (p e : Nat) : Lib.NumEnd Int := Lib.parseIntB 64 (Lib.bytesOf (tailL bs e p))
/-- (*scan).integer from i on, over a variable that holds v: verdict, place, what the variable holds -/
def afterNum (bs : Nat → Int) (p : Nat) (v : Int) (r : Bool × Nat) : Bool × Nat × Int :=
  if r.1 = true then (match parsed bs p r.2 with | .ok x => (true, r.2, x) | _ => (false, r.2, v)) else (false, r.2, v)
def intgF (bs : Nat → Int) (n i : Nat) (v : Int) : Bool × Nat × Int :=
  if nullAt bs n (sk isSp bs n i) = true then (true, sk isSp bs n i + 4, v) else afterNum bs (sk isSp bs n i) v (numF bs n (sk isSp bs n i))

theorem expF_ge (bs : Nat → Int) (n i : Nat) : i ≤ (expF bs n i).2 := by
  unfold expF
  split
  · show i ≤ sk isDg bs n _
    have h2 : i ≤ (if (atB bs n (i + 1) 43 || atB bs n (i + 1) 45) = true then i + 2 else i + 1) := by split <;> omega
    exact Nat.le_trans h2 (sk_ge isDg bs n _)
  · exact Nat.le_refl _
theorem fracF_ge (bs : Nat → Int) (n i : Nat) : i ≤ (fracF bs n i).2 := by
  unfold fracF
  have h := sk_ge isDg bs n (i + 1)
  split
  · split
    · have := expF_ge bs n (sk isDg bs n (i + 1)); omega
    · show i ≤ sk isDg bs n (i + 1); omega
  · exact expF_ge bs n i
theorem intF_ok (bs : Nat → Int) (n i : Nat) (h : (intF bs n i).1 = true) : i < (intF bs n i).2 := by
  unfold intF at h ⊢
  split
  · have := fracF_ge bs n (i + 1); omega
  · split
    · have := fracF_ge bs n (sk isDg bs n i); omega
    · rename_i h1 h2
      rw [if_neg h1, if_neg h2] at h
      cases h
theorem numF_ok (bs : Nat → Int) (n i : Nat) (h : (numF bs n i).1 = true) : i < (numF bs n i).2 := by
  unfold numF at h ⊢
  have h2 : i ≤ (if atB bs n i 45 = true then i + 1 else i) := by split <;> omega
  exact Nat.lt_of_le_of_lt h2 (intF_ok bs n _ h)

theorem strOf_toList (xs : List Int) : (strOfNums xs).data.toList = Lib.bytesOf xs := by rw [← Lib.strOfNums_toList, Lib.toList_data]
theorem strOf_size (xs : List Int) : (strOfNums xs).size = xs.length := by
  have := congrArg List.length (strOf_toList xs)
  rw [Lib.bytesOf, List.length_map] at this
  rw [← this]
  rfl

set_option maxHeartbeats 1000000 in
theorem integer8 (w : World) (B vb : Nat) (v : Int) (e0 e1 : Value) (h : St w sb ao n cap bs i) (hn : n ≤ 2097152) (hcap : n ≤ cap) (hby : ∀ j, j < n → 0 ≤ bs j ∧ bs j < 256)
    (hv : Own w vb 1 (fun _ => .int .i64 v)) (hne : vb ≠ sb) (hda : ∀ b, ao = some ⟨b, 0, none⟩ → b ≠ vb) (hB2 : 2 ≤ B) (hBs : B ≤ sb) (hBv : B ≤ vb)
    (hv0 : w.cell? ⟨0, 0, none⟩ = some e0) (he0 : e0 = .nilIface ∨ ∃ te pe, e0 = .iface te pe) (hv1 : w.cell? ⟨1, 0, none⟩ = some e1) (he1 : e1 = .nilIface ∨ ∃ te pe, e1 = .iface te pe) :
    Calls Tryd.prog 8 #[.pointer (some ⟨sb, 0, none⟩), .pointer (some ⟨vb, 0, none⟩)] w fun e w' => e = .returned (.bool (intgF bs n i v).1) ∧
      St w' sb ao n cap bs (intgF bs n i v).2.1 ∧ Own w' vb 1 (fun _ => .int .i64 (intgF bs n i v).2.2) ∧ Below B w w' := by
  obtain ⟨p, hp⟩ : ∃ p, p = sk isSp bs n i := ⟨_, rfl⟩
  have HP : Hid (p = sk isSp bs n i) := hp
  have HPP : Hid (sk isSp bs n p = p) := hid (by rw [hp, sk_idem])
  have hlit := literal13 w h hn hcap hby
  rw [← hp] at hlit
  obtain ⟨R, hR⟩ : ∃ R, R = intgF bs n i v := ⟨_, rfl⟩
  have HR : Hid (R = (if nullAt bs n p = true then (true, p + 4, v) else afterNum bs p v (numF bs n p))) := hid (by rw [hR, intgF, ← hp])
  rw [← hR]
  clear hp hR
  have hsl := h.own.lt
  have hBw : B ≤ w.heap.size := by omega
  go_enter Tryd.func8, Tryd.ntmps8
  go_wp2_with fail
  refine hlit.mono ?_
  clear hlit
  rintro e wx ⟨rfl, hs, hg⟩
  have hv' := hv.gr hg hne
  have hb := gr_below hg hBs hBw
  cases hA : nullAt bs n p with
  | true =>
    rw [hA, if_pos rfl] at hs
    obtain rfl : R = (true, p + 4, v) := by rw [HR.out, if_pos hA]
    clear hA HR HP HPP
    go_wp2
    go_ret
    exact ⟨rfl, hs, hv', hb⟩
  | false =>
    rw [hA, if_neg (by decide)] at hs
    have HR2 : Hid (R = afterNum bs p v (numF bs n p)) := hid (by rw [HR.out, if_neg (by rw [hA]; decide)])
    clear hA HR HP
    go_wp2_with fail
    refine (space14 _ hs hn).mono ?_
    rw [HPP.out]
    clear HPP
    rintro e wy ⟨rfl, hs2, hg2⟩
    have hv2 := hv'.gr hg2 hne
    have hb2 := hb.trans (gr_below hg2 hBs (Nat.le_trans hBw hg.size))
    clear hs hv' hb hg hg2 hv
    have c1 := hs2.c1
    go_wp2_with fail
    clear c1
    refine (number15 _ hs2 hn).mono ?_
    obtain ⟨r, hr⟩ : ∃ r, r = numF bs n p := ⟨_, rfl⟩
    rw [← hr]
    rintro e wz ⟨rfl, hs3, hg3⟩
    have hBy : B ≤ wy.heap.size := Nat.le_trans hBw hb2.size
    have hv3 := hv2.gr hg3 hne
    have hb3 := hb2.trans (gr_below hg3 hBs hBy)
    obtain ⟨ok, en⟩ := r
    cases ok with
    | false =>
      obtain rfl : R = (false, en, v) := by rw [HR2.out, ← hr]; rfl
      clear HR2 hr
      go_wp2
      go_ret
      exact ⟨rfl, hs3, hv3, hb3⟩
    | true =>
      have hlt : p < en := by have := numF_ok bs n p (by rw [← hr]); rw [← hr] at this; exact this
      have hen : en ≤ n := hs3.le
      clear hs2 hg3 hv2 hb2
      have c0 := hs3.c0
      have c1 := hs3.c1
      have hpe : (p : Int) ≤ (en : Int) := by omega
      have hec : (en : Int) ≤ (cap : Int) := by omega
      have hcp : ¬ cap = p := by omega
      obtain ⟨b, rfl, hbs, hbl, _⟩ := hs3.data p (by omega)
      obtain ⟨S, hS⟩ : ∃ S, S = strOfNums (tailL bs en p) := ⟨_, rfl⟩
      have hcv : ∀ q, (convert 22 9 (.slice (some ⟨b, p, none⟩) (en - p) (cap - p))).run Tryd.prog (wz.drewN q) = .ok (.string S) (wz.drewN q) := fun q => by
        have := tail_in hs3 p en hen (wz.drewN q) (fun _ _ _ => rfl)
        simp only [Option.map_some, WideShapes.add_plain, Nat.zero_add] at this
        rw [hS]
        exact this.convert (tailL_length _ _ _) _ 22 5 9 Tryd.underlying22 Tryd.underlying5 Tryd.underlying9
      have hSl : S.data.toList = Lib.bytesOf (tailL bs en p) := by rw [hS, strOf_toList]
      have hSz : S.size ≤ 1000000000 := by rw [hS, strOf_size, tailL_length]; omega
      have HS : Hid (S.data.toList = Lib.bytesOf (tailL bs en p)) := hSl
      have HR3 : Hid (R = afterNum bs p v (true, en)) := hid (by rw [HR2.out, hr])
      clear hS hSl hr HR2
      have hcv1 := hcv 1
      simp only [← World.drew_is_drewN] at hcv1
      have hBz : B ≤ wz.heap.size := Nat.le_trans hBw hb3.size
      have y0 : wz.drew.cell? ⟨0, 0, none⟩ = some e0 := by rw [World.cell?_drew, hb3.cell (p := ⟨0, 0, none⟩) (by show 0 < B; omega)]; exact hv0
      have y1 : wz.drew.cell? ⟨1, 0, none⟩ = some e1 := by rw [World.cell?_drew, hb3.cell (p := ⟨1, 0, none⟩) (by show 1 < B; omega)]; exact hv1
      cases hE : parsed bs p en with
      | ok x =>
        obtain rfl : R = (true, en, x) := by rw [HR3.out]; simp [afterNum, hE]
        have HC : Hid (Calls Tryd.prog 16 #[.string S, .int .i64 10, .int .i64 64] wz.drew fun e w' => e = .returned (.tuple #[.int .i64 x, .nilIface]) ∧ Below wz.drew.heap.size wz.drew w') :=
          Tryd.parse_ok S hSz x (by rw [HS.out]; exact hE) wz.drew
        clear hE HR3 HS y0 y1 hcv
        go_upto_region 7 with (fail)
        go_cut [6, 7] (fun s6 s7 wd => s6 = .int .i64 x ∧ s7 = .nilIface ∧ Below wz.heap.size wz wd)
        case first =>
          go_region_with (go_at_call 16; refine HC.out.mono ?_; rintro e wu ⟨rfl, hbu⟩)
          all_goals (go_wp2_with fail; go_meet; exact ⟨rfl, rfl, (Below.refl _ wz).drew.trans hbu⟩)
        case rest =>
          obtain ⟨rfl, rfl, hbd⟩ := hcut
          have hs4 := hs3.below hbd
          have hv4 := hv3.below hbd hv3.lt
          have hb4 := hb3.trans (hbd.mono hBz)
          have d0 := hv4.cell (i := 0) (by omega)
          have z0 := hv4.free 0
          clear HC hbd hcv1 c0 c1
          go_wp2
          go_ret
          refine ⟨rfl, ?_, hv4.set 0 _ |>.congr fun j hj => ?_, hb4.setCell (by exact hBv) _⟩
          · refine ⟨hs4.own.other (fun e => hne e.symm) _, hs4.le, fun j hj => ?_⟩
            obtain ⟨b', ha, hb1, hb2, hc⟩ := hs4.data j hj
            refine ⟨b', ha, hb1, by simpa using hb2, ?_⟩
            rw [World.cell?_of_block (w := wc) (a := ⟨b', j, none⟩) (Below.heap_setCell _ _ _ _ (hda b' ha))]
            exact hc
          · rw [if_pos (show j = 0 by omega)]
      | _ =>
        obtain rfl : R = (false, en, v) := by rw [HR3.out]; simp [afterNum, hE]
        have HC : Hid (Calls Tryd.prog 16 #[.string S, .int .i64 10, .int .i64 64] wz.drew fun e w' => ∃ (x : Int) (N : Nat), e = .returned (.tuple #[.int .i64 x, .iface 54 (.pointer (some ⟨N, 0, none⟩))]) ∧ Below wz.drew.heap.size wz.drew w') :=
          Tryd.parse_bad S hSz (fun x hx => by rw [HS.out] at hx; rw [show Lib.parseIntB 64 (Lib.bytesOf (tailL bs en p)) = parsed bs p en from rfl, hE] at hx; cases hx) e0 e1 wz.drew y0 he0 y1 he1
        clear hE HR3 HS y0 y1 hcv
        go_upto_region 7 with (fail)
        go_cut [6, 7] (fun s6 s7 wd => ∃ (x : Int) (N : Nat), s6 = .int .i64 x ∧ s7 = .iface 54 (.pointer (some ⟨N, 0, none⟩)) ∧ Below wz.heap.size wz wd)
        case first =>
          go_region_with (go_at_call 16; refine HC.out.mono ?_; rintro e wu ⟨x, N, rfl, hbu⟩)
          all_goals (go_wp2_with fail; go_meet; exact ⟨_, _, rfl, rfl, (Below.refl _ wz).drew.trans hbu⟩)
        case rest =>
          obtain ⟨x, N, rfl, rfl, hbd⟩ := hcut
          have hs4 := hs3.below hbd
          have hv4 := hv3.below hbd hv3.lt
          have hb4 := hb3.trans (hbd.mono hBz)
          clear HC hbd hcv1 c0 c1
          go_wp2
          go_ret
          exact ⟨rfl, hs4, hv4, hb4⟩

end Go.Proofs.Qxb6602238aDoor
