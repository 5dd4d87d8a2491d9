import Derived.Test.Qxb6601551aCopy
namespace Go.Proofs.Qxb6601551a
open Go.RowKit

/-- What a ledger call hands back: the three columns in new memory, and how many readings are off. -/
def Gave (w : World) (x : Int) (n : Nat) (f : Nat → Int) (l : Nat → Bool) (e : Ending) (w' : World) : Prop :=
  ∃ wb rv rl, e = .returned (.tuple #[.slice (some ⟨wb, 0, none⟩) n n, .slice (some ⟨rv, 0, none⟩) n n, .slice (some ⟨rl, 0, none⟩) n n, .int .i64 (offs f l x n)]) ∧ w.heap.size ≤ wb ∧ w.heap.size ≤ rv ∧ w.heap.size ≤ rl ∧
    Own w' wb n (fun _ => .int .i64 x) ∧ Own w' rv n (fun i => .int .u64 (f i)) ∧ Own w' rl n (fun i => .bool (l i)) ∧ Below w.heap.size w w'

set_option maxHeartbeats 400000 in
theorem call_any (w : World) (x : Int) (ao : Option Addr) (n cap : Nat) (f : Nat → Int) (l : Nat → Bool) (hn : n ≤ 2097152) (hp : PS w ao n f l) :
    Calls Try.prog 13 #[.int .i64 x, .slice ao n cap] w fun e w' => Gave w x n f l e w' := by
  have hmv := make_at (Try.underlying33) Try.info29 n hn (by decide)
  have hml := make_at (Try.underlying34) Try.info4 n hn (by decide)
  go_enter Try.func13, Try.ntmps13
  go_wp2
  go_loopw [10] (fun i wr => ∃ k : Nat, k ≤ n ∧ i = .int .i64 k ∧ Own wr w.heap.size n (fun i => if i < k then .int .u64 (f i) else .int .u64 0) ∧ Own wr (w.heap.size + 1) n (fun i => if i < k then .bool (l i) else .bool false) ∧ Below w.heap.size w wr)
    (fun i _ => n - (intOf i).toNat)
  case atStart =>
    refine ⟨0, Nat.zero_le _, rfl, ?_, ?_, ?_⟩
    · exact ((Own.made w #[.int .u64 0] n 29).alloc _).congr fun i _ => by simp [Nat.mod_one]
    · have := (Own.made (w.alloc (.cells (madeCells #[.int .u64 0] n) 29)) #[.bool false] n 4)
      rw [World.size_alloc] at this
      exact this.congr fun i _ => by simp [Nat.mod_one]
    · exact ((Below.refl _ _).alloc (Nat.le_refl _) _).alloc (by simp) _
  case round =>
    obtain ⟨k, hk, rfl, h0, h1, hb⟩ := hrel
    by_cases hlt : k < n
    · have hki : (k : Int) < (n : Int) := by omega
      have d0 := h0.cell hlt
      have d1 := h1.cell hlt
      have z0 := h0.free k
      have z1 := h1.free k
      simp only [if_neg (Nat.lt_irrefl k)] at d0 d1
      obtain ⟨b, off, rfl, hlb, s0, s1⟩ := hp k hlt
      clear hmv hml
      have r0 : wr.cell? ⟨b, off + k * 2, none⟩ = some (.int .u64 (f k)) := by rw [hb.cell (p := ⟨b, off + k * 2, none⟩) hlb, s0]
      have r1 : wr.cell? ⟨b, off + k * 2 + 1, none⟩ = some (.bool (l k)) := by rw [hb.cell (p := ⟨b, off + k * 2 + 1, none⟩) hlb, s1]
      go_wp2
      go_roundw
      case rel =>
        refine ⟨k + 1, by omega, by go_num, ((h0.set k _).other (by simp) _).congr fun i _ => ?_, ((h1.other (by simp) _).set k _).congr fun i _ => ?_, (hb.setCell (by simp) _).setCell (by simp) _⟩
        · by_cases e : i = k
          · subst e; simp
          · by_cases e2 : i < k
            · simp [e, e2, Nat.lt_succ_of_lt e2]
            · simp [e, e2, show ¬ i < k + 1 by omega]
        · by_cases e : i = k
          · subst e; simp
          · by_cases e2 : i < k
            · simp [e, e2, Nat.lt_succ_of_lt e2]
            · simp [e, e2, show ¬ i < k + 1 by omega]
      case measure => simp [intOf]; omega
    · have hkn : k = n := by omega
      subst hkn
      have g0 := h0.congr (f' := fun i => .int .u64 (f i)) fun i hi => by simp [hi]
      have g1 := h1.congr (f' := fun i => .bool (l i)) fun i hi => by simp [hi]
      clear h0 h1 hmv hml
      have hsz := hb.size
      go_wp2_with fail
      refine (zz_any wr x w.heap.size (w.heap.size + 1) k f l hn g0 g1).mono ?_
      rintro e w2 ⟨wb, rv, rl, rfl, h1, h2, h3, hW, hV, hL, hb2⟩
      go_wp2
      refine bodyPost_ret (v := .tuple #[.slice (some ⟨wb, 0, none⟩) k k, .slice (some ⟨rv, 0, none⟩) k k, .slice (some ⟨rl, 0, none⟩) k k, .int .i64 (offs f l x k)]) (by simp [results, Try.results13, go_sem]) rfl
        ⟨wb, rv, rl, rfl, by omega, by omega, by omega, hW, hV, hL, hb.trans (hb2.mono hsz)⟩

end Go.Proofs.Qxb6601551a
