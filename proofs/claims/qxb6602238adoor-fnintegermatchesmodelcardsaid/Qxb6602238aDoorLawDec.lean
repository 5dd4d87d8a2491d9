import Derived.Test.Qxb6602238aDoorDec
import Derived.Test.Qxb6602238aDoorLawNum
/-
  DERIVED. THE PLAIN LAW OF INTEGERS: what strconv.ParseInt makes of a number's text is what b1DecimalInt makes of it.
-/
namespace Go.Proofs.Qxb6602238aDoor

/-- the bytes of f numbers from k on -/
def seg (ts : Nat → Int) (f k : Nat) : List UInt8 := Lib.bytesOf ((List.range f).map fun j => ts (k + j))
theorem seg_succ (ts : Nat → Int) (f k : Nat) : seg ts (f + 1) k = UInt8.ofNat (ts k).toNat :: seg ts f (k + 1) := by
  unfold seg Lib.bytesOf
  rw [List.range_succ_eq_map]
  simp [Function.comp_def, Nat.add_comm, Nat.add_left_comm]

theorem parseUintM_ge (M : Nat) (l : List UInt8) : ∀ acc u, Lib.parseUintM M acc l = .ok u → acc ≤ u := by
  induction l with
  | nil =>
    intro acc u h
    simp only [Lib.parseUintM] at h
    injection h with h
    omega
  | cons c r ih =>
    intro acc u h
    simp only [Lib.parseUintM] at h
    split at h
    · split at h
      · cases h
      · split at h
        · cases h
        · have := ih _ _ h
          omega
    · cases h

/-- of a parse: the number, if it is at most lim -/
def upTo (lim : Nat) : Lib.NumEnd Nat → Option Nat
  | .ok u => if u ≤ lim then some u else none
  | _ => none

theorem dec_parse (M lim : Nat) (hM : M = 18446744073709551615) (hl : lim ≤ 9223372036854775808) (h9 : 9 ≤ lim) (ts : Nat → Int) :
    ∀ f k mag, mag ≤ lim → (∀ j, j < f → 0 ≤ ts (k + j) ∧ ts (k + j) < 256) → dec lim ts f k mag = upTo lim (Lib.parseUintM M mag (seg ts f k)) := by
  intro f
  induction f with
  | zero =>
    intro k mag hm _
    show some mag = (if mag ≤ lim then some mag else none)
    rw [if_pos hm]
  | succ f ih =>
    intro k mag hm hr
    have h0 := hr 0 (by omega)
    rw [Nat.add_zero] at h0
    rw [seg_succ]
    have hc : (UInt8.ofNat (ts k).toNat).toNat = (ts k).toNat := by
      rw [UInt8.toNat_ofNat']
      omega
    show (if isDg (ts k) = true then (if (lim - (ts k - 48).toNat) / 10 < mag then none else dec lim ts f (k + 1) (mag * 10 + (ts k - 48).toNat)) else none) = _
    simp only [Lib.parseUintM, hc]
    cases hd : isDg (ts k) with
    | false =>
      have hn : ¬ (48 ≤ (ts k).toNat ∧ (ts k).toNat ≤ 57) := by
        simp [isDg] at hd
        omega
      rw [if_neg (by decide), if_neg hn]
      rfl
    | true =>
      have hy : 48 ≤ (ts k).toNat ∧ (ts k).toNat ≤ 57 := by
        simp [isDg] at hd
        omega
      rw [if_pos rfl, if_pos hy]
      have hdd : (ts k - 48).toNat = (ts k).toNat - 48 := by omega
      rw [hdd]
      generalize hD : (ts k).toNat - 48 = d
      have hd9 : d ≤ 9 := by omega
      by_cases ho : (lim - d) / 10 < mag
      · rw [if_pos ho]
        split
        · rfl
        · split
          · rfl
          · cases hP : Lib.parseUintM M (mag * 10 + d) (seg ts f (k + 1)) with
            | ok u =>
              have := parseUintM_ge M _ _ _ hP
              show none = (if u ≤ lim then some u else none)
              rw [if_neg (by omega)]
            | _ => rfl
      · rw [if_neg ho, if_neg (by omega), if_neg (by omega)]
        exact ih (k + 1) (mag * 10 + d) (by omega) (fun j hj => by have := hr (j + 1) (by omega); rwa [show k + (j + 1) = k + 1 + j by omega] at this)

/-- b1DecimalInt's magnitude -/
def decF (ts : Nat → Int) (m : Nat) : Option Nat :=
  if (ts 0 == 45) = true then (if m = 1 then none else dec 9223372036854775808 ts (m - 1) 1 0) else dec 9223372036854775807 ts (m - 0) 0 0
def sgn (neg : Bool) (u : Nat) : Int := if neg = true then -(u : Int) else (u : Int)
/-- of a parse: the number -/
def okOf : Lib.NumEnd Int → Option Int
  | .ok x => some x
  | _ => none

theorem seg_tail (bs : Nat → Int) (p e : Nat) : Lib.bytesOf (tailL bs e p) = seg (fun j => bs (p + j)) (e - p) 0 := by
  unfold seg tailL
  simp

theorem parsed_dec (bs : Nat → Int) (p e : Nat) (he : p < e) (hr : ∀ j, j < e → 0 ≤ bs j ∧ bs j < 256) (h43 : bs p ≠ 43) :
    okOf (parsed bs p e) = (decF (fun j => bs (p + j)) (e - p)).map (sgn (bs p == 45)) := by
  unfold parsed
  rw [seg_tail]
  generalize hts : (fun j => bs (p + j)) = ts
  have hts0 : ts 0 = bs p := by rw [← hts]; rfl
  have hrt : ∀ k j, k + j < e - p → 0 ≤ ts (k + j) ∧ ts (k + j) < 256 := fun k j hj => by rw [← hts]; exact hr _ (by omega)
  rw [← hts0] at h43 ⊢
  obtain ⟨m, hm⟩ : ∃ m, e - p = m + 1 := ⟨e - p - 1, by omega⟩
  rw [hm] at hrt ⊢
  have h00 := hrt 0 0 (by omega)
  rw [Nat.add_zero] at h00
  have hc : (UInt8.ofNat (ts 0).toNat).toNat = (ts 0).toNat := by
    rw [UInt8.toNat_ofNat']
    omega
  rw [seg_succ]
  unfold decF
  simp only [Lib.parseIntB, hc]
  cases hn : (ts 0 == 45) with
  | true =>
    have h45 : ts 0 = 45 := by simpa using hn
    rw [h45, if_pos (by decide), if_pos rfl]
    unfold Lib.parseUintB
    cases m with
    | zero =>
      rw [if_pos rfl]
      rfl
    | succ m =>
      rw [if_neg (show ¬ (m + 1 + 1 = 1) by omega), show m + 1 + 1 - 1 = m + 1 by omega]
      rw [dec_parse (2 ^ 64 - 1) 9223372036854775808 rfl (by omega) (by omega) ts (m + 1) 1 0 (by omega) (fun j hj => hrt 1 j (by omega))]
      rw [if_neg (show ¬ (seg ts (m + 1) 1 = []) by rw [seg_succ]; simp)]
      cases hP : Lib.parseUintM (2 ^ 64 - 1) 0 (seg ts (m + 1) 1) with
      | ok u =>
        by_cases hu : u ≤ 9223372036854775808
        · simp [upTo, hu, okOf, sgn, show ¬ (9223372036854775808 < u) by omega]
        · simp [upTo, hu, okOf, show 9223372036854775808 < u by omega]
      | _ => rfl
  | false =>
    have h45 : ¬ ts 0 = 45 := by simpa using hn
    have hnn : ¬ (ts 0).toNat = 45 := by omega
    rw [if_neg (by omega), if_neg (by decide)]
    unfold Lib.parseUintB
    rw [if_neg (by simp), ← seg_succ]
    rw [dec_parse (2 ^ 64 - 1) 9223372036854775807 rfl (by omega) (by omega) ts (m + 1 - 0) 0 0 (by omega) (fun j hj => hrt 0 j (by omega))]
    rw [Nat.sub_zero]
    cases hP : Lib.parseUintM (2 ^ 64 - 1) 0 (seg ts (m + 1) 0) with
    | ok u =>
      by_cases hu : u ≤ 9223372036854775807
      · simp [upTo, hu, okOf, sgn, hnn, show ¬ (9223372036854775808 ≤ u) by omega]
      · simp [upTo, hu, okOf, hnn, show 9223372036854775808 ≤ u by omega]
    | _ => rfl

theorem numF_first (bs : Nat → Int) (n p : Nat) (h : (numF bs n p).1 = true) : bs p ≠ 43 := by
  unfold numF at h
  cases h45 : atB bs n p 45 with
  | true =>
    have hb : p < n ∧ bs p = 45 := by simpa [atB] using h45
    omega
  | false =>
    rw [h45, if_neg (by decide)] at h
    unfold intF at h
    split at h
    · rename_i h48
      have hb : p < n ∧ bs p = 48 := by simpa [atB] using h48
      omega
    · split at h
      · rename_i hs
        exact (dg_not _ ((sk_lt_iff isDg p).1 hs).2).1
      · cases h

/-- the model of integer: verdict, place, value -/
def afterDec (bs : Nat → Int) (p : Nat) (v : Int) (r : Bool × Nat) : Bool × Nat × Int :=
  if r.1 = true then (match decF (fun j => bs (p + j)) (r.2 - p) with | some u => (true, r.2, sgn (bs p == 45) u) | none => (false, r.2, v)) else (false, r.2, v)

/-- THE LAW -/
theorem after_same (bs : Nat → Int) (n p : Nat) (v : Int) (hr : ∀ j, j < n → 0 ≤ bs j ∧ bs j < 256) (hle : (numF bs n p).2 ≤ n) : afterNum bs p v (numF bs n p) = afterDec bs p v (numF bs n p) := by
  unfold afterNum afterDec
  cases h : (numF bs n p).1 with
  | false => rfl
  | true =>
    rw [if_pos rfl, if_pos rfl]
    have hlt := numF_ok bs n p h
    have key := parsed_dec bs p (numF bs n p).2 hlt (fun j hj => hr j (by omega)) (numF_first bs n p h)
    revert key
    generalize decF (fun j => bs (p + j)) ((numF bs n p).2 - p) = D
    cases parsed bs p (numF bs n p).2 with
    | ok x =>
      cases D with
      | none => intro k; cases k
      | some u => intro k; simp [okOf] at k; rw [k]
    | _ =>
      cases D with
      | none => intro _; rfl
      | some u => intro k; cases k

end Go.Proofs.Qxb6602238aDoor
