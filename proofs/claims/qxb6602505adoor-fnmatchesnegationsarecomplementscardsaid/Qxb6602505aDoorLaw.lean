import Derived.Test.Qxb6602505aDoorMatches
import Derived.Test.Qxb6602505aDoorBytes
namespace Go.Proofs.Qxb6602505aDoor
open Go.RowKit
variable {a1 a3 a4 : Option Addr} {n1 n3 n4 c1 c3 c4 : Nat} {s1 s3 s4 : Nat → ByteArray}

/-- buildLabels, whatever it is handed: a map whose look-up at 'key' is one answer in every later world -/
theorem build8 {a1 a2 : Option Addr} {n c1 c2 : Nat} {ks vs : Nat → ByteArray} (w : World) (hk : SS w a1 n ks) (hv : SS w a2 n vs) (hn : n ≤ 65536) (key : ByteArray) (hkey : key.size ≤ maxLen) :
    Calls Tryd.prog 8 #[.slice a1 n c1, .slice a2 n c2] w fun e w' => ∃ m s ok, e = .returned m ∧ Looks w' m key s ok ∧ Below w.heap.size w w' := by
  rcases Nat.eq_zero_or_pos n with h0 | h0
  · subst h0
    refine (build_nil w).mono ?_
    rintro e w' ⟨rfl, rfl⟩
    exact ⟨_, _, _, rfl, looks_nil _ key hkey, Below.refl _ _⟩
  · refine (build_some w hk hv hn h0).mono ?_
    rintro e w' ⟨rfl, ⟨D, hD⟩, hb⟩
    obtain ⟨s, ok, hl⟩ := looks_map hD key hkey
    exact ⟨_, s, ok, rfl, hl, hb⟩

theorem Looks.below {w w1 : World} {m : Value} {key s : ByteArray} {ok : Bool} (h : Looks w m key s ok) (hb : Below w.heap.size w w1) : Looks w1 m key s ok :=
  fun W hW => h W (hb.trans (hW.mono hb.size))
theorem Has.below {w w1 : World} {ao : Option Addr} {n cap : Nat} {s : ByteArray} {c : Bool} (h : Has w ao n cap s c) (hb : Below w.heap.size w w1) : Has w1 ao n cap s c :=
  fun W hW => h W (hb.trans (hW.mono hb.size))

set_option maxHeartbeats 1000000 in
theorem law_big (w : World) (key : ByteArray) (bd : Int) (hkey : key.size ≤ maxLen) (h1 : SS w a1 n1 s1) (h3 : SS w a3 n3 s3) (h4 : SS w a4 n4 s4) (hn1 : n1 ≤ maxLen) (hn3 : n3 ≤ maxLen) (hn4 : n4 ≤ maxLen)
    (hbig : 1048576 < key.size ∨ 65536 < n1 ∨ 65536 < n3 ∨ 65536 < n4) :
    Calls Tryd.prog 3 #[.string key, .slice a1 n1 c1, .int .i64 bd, .slice a3 n3 c3, .slice a4 n4 c4] w fun e w' => e = .returned (.bool true) ∧ Below w.heap.size w w' := by
  have HZ := hid (zzb5 (c1 := c1) (c3 := c3) (c4 := c4) w key bd hkey h1 h3 h4 hn1 hn3 hn4)
  unfold maxLen at hkey hn1 hn3 hn4
  clear h1 h3 h4
  by_cases q0 : 1048576 < key.size
  · clear hbig
    go_enter Tryd.func3, Tryd.ntmps3
    go_wp2_with fail
    refine HZ.out.mono ?_
    clear HZ
    rintro e w' ⟨rfl | rfl, rfl⟩
    all_goals
      go_wp2
      go_ret
      exact ⟨rfl, Below.refl _ _⟩
  · by_cases q1 : 65536 < n1
    · clear hbig
      go_enter Tryd.func3, Tryd.ntmps3
      go_wp2_with fail
      refine HZ.out.mono ?_
      clear HZ
      rintro e w' ⟨rfl | rfl, rfl⟩
      all_goals
        go_wp2
        go_ret
        exact ⟨rfl, Below.refl _ _⟩
    · by_cases q3 : 65536 < n3
      · clear hbig
        go_enter Tryd.func3, Tryd.ntmps3
        go_wp2_with fail
        refine HZ.out.mono ?_
        clear HZ
        rintro e w' ⟨rfl | rfl, rfl⟩
        all_goals
          go_wp2
          go_ret
          exact ⟨rfl, Below.refl _ _⟩
      · have q4 : 65536 < n4 := by omega
        clear hbig
        go_enter Tryd.func3, Tryd.ntmps3
        go_wp2_with fail
        refine HZ.out.mono ?_
        clear HZ
        rintro e w' ⟨rfl | rfl, rfl⟩
        all_goals
          go_wp2
          go_ret
          exact ⟨rfl, Below.refl _ _⟩

set_option maxHeartbeats 2000000 in
theorem law_in (w : World) (key : ByteArray) (bd : Int) (hkey : key.size ≤ 1048576) (h1 : SS w a1 n1 s1) (h3 : SS w a3 n3 s3) (h4 : SS w a4 n4 s4) (hn1 : n1 ≤ 65536) (hn3 : n3 ≤ 65536) (hn4 : n4 ≤ 65536)
    (g1 : (a1 = none ∧ n1 = 0 ∧ c1 = 0) ∨ ∃ a, a1 = some a) (g3 : (a3 = none ∧ n3 = 0 ∧ c3 = 0) ∨ ∃ a, a3 = some a) (g4 : (a4 = none ∧ n4 = 0 ∧ c4 = 0) ∨ ∃ a, a4 = some a) :
    Calls Tryd.prog 3 #[.string key, .slice a1 n1 c1, .int .i64 bd, .slice a3 n3 c3, .slice a4 n4 c4] w fun e w' => e = .returned (.bool true) ∧ Below w.heap.size w w' := by
  have hm : ∀ k : Nat, k ≤ 1048576 → k ≤ maxLen := fun k hk => by unfold maxLen; omega
  have HZ := hid (zzb5 (c1 := c1) (c3 := c3) (c4 := c4) w key bd (hm _ hkey) h1 h3 h4 (hm _ (by omega)) (hm _ (by omega)) (hm _ (by omega)))
  have G1 := hid g1
  have G3 := hid g3
  have G4 := hid g4
  have HKM := hid (hm _ hkey)
  clear hm g1 g3 g4
  go_enter Tryd.func3, Tryd.ntmps3
  go_wp2_with fail
  refine HZ.out.mono ?_
  clear HZ
  rintro e w' ⟨he, hw⟩
  have hw := hw.symm
  subst hw
  rcases he with rfl | rfl
  rotate_left
  · clear h1 h3 h4 G1 G3 G4
    go_wp2_with fail
    go_ret
    exact ⟨rfl, Below.refl _ _⟩
  · go_wp2_with fail
    refine (bytes6 w h1 hn1).mono ?_
    rintro e w' ⟨r1, rfl, ⟨p1, q1⟩, hw⟩
    have hw := hw.symm
    subst hw
    go_wp2_with fail
    refine (bytes6 w h3 hn3).mono ?_
    rintro e w' ⟨r3, rfl, ⟨p3, q3⟩, hw⟩
    have hw := hw.symm
    subst hw
    go_wp2_with fail
    refine (bytes6 w h4 hn4).mono ?_
    rintro e w' ⟨r4, rfl, ⟨p4, q4⟩, hw⟩
    have hw := hw.symm
    subst hw
    by_cases hs : (key.size : Int) + r1 + r3 + r4 ≤ 1048576
    · by_cases hnn : n3 = n4
      · subst hnn
        go_wp2_with fail
        refine (copy7 w a1 n1 c1 (by omega) G1.out h1).mono ?_
        rintro e w1 ⟨a1', c1', rfl, k1, b1⟩
        have h3' := h3.below b1
        have h4' := h4.below b1
        clear h1 h3 h4 G1
        go_wp2_with fail
        refine (copy7 w1 a3 n3 c3 (by omega) G3.out h3').mono ?_
        rintro e w2 ⟨a3', c3', rfl, k3, b2⟩
        have h4'' := h4'.below b2
        have k1' := k1.below b2
        have bb := b1.trans (b2.mono b1.size)
        clear h3' h4' k1 b1 b2 G3
        go_wp2_with fail
        refine (copy7 w2 a4 n3 c4 (by omega) G4.out h4'').mono ?_
        rintro e w3 ⟨a4', c4', rfl, k4, b3⟩
        have k1'' := k1'.below b3
        have k3' := k3.below b3
        have bc := bb.trans (b3.mono bb.size)
        clear h4'' k1' k3 bb b3 G4
        go_wp2_with fail
        refine (build8 w3 k3' k4 hn3 key HKM.out).mono ?_
        rintro e w4 ⟨m, s, ok, rfl, hl, b4⟩
        obtain ⟨c, hc⟩ := has_any (cap := c1') (k1''.below b4) hn1 s
        have bd4 := bc.trans (b4.mono bc.size)
        clear k1'' k3' k4 bc b4
        go_wp2_with fail
        refine (mat_0 w4 key s bd m ok hl).mono ?_
        rintro e w5 ⟨rfl, b5⟩
        have hl5 := hl.below b5
        have hc5 := hc.below b5
        have bd5 := bd4.trans (b5.mono bd4.size)
        clear hl hc b5 bd4
        go_wp2_with fail
        refine (mat_1 w5 key s bd m ok hl5).mono ?_
        rintro e w6 ⟨rfl, b6⟩
        have hl6 := hl5.below b6
        have hc6 := hc5.below b6
        have bd6 := bd5.trans (b6.mono bd5.size)
        clear hl5 hc5 b6 bd5
        go_wp2_with fail
        refine (mat_2 w6 key s bd m ok c hl6 hc6).mono ?_
        rintro e w7 ⟨rfl, b7⟩
        have hl7 := hl6.below b7
        have hc7 := hc6.below b7
        have bd7 := bd6.trans (b7.mono bd6.size)
        clear hl6 hc6 b7 bd6
        go_wp2_with fail
        refine (mat_3 w7 key s bd m ok c hl7 hc7).mono ?_
        rintro e w8 ⟨rfl, b8⟩
        have hl8 := hl7.below b8
        have hc8 := hc7.below b8
        have bd8 := bd7.trans (b8.mono bd7.size)
        clear hl7 hc7 b8 bd7
        go_wp2_with fail
        refine (mat_4 w8 key s bd m ok c hl8 hc8).mono ?_
        rintro e w9 ⟨rfl, b9⟩
        have hl9 := hl8.below b9
        have hc9 := hc8.below b9
        have bd9 := bd8.trans (b9.mono bd8.size)
        clear hl8 hc8 b9 bd8
        go_wp2_with fail
        refine (mat_5 w9 key s bd m ok c hl9 hc9).mono ?_
        rintro e w10 ⟨rfl, b10⟩
        have bd10 := bd9.trans (b10.mono bd9.size)
        clear hl9 hc9 b10 bd9
        cases ok <;> cases c
        all_goals
          go_wp2_with fail
          go_ret
          exact ⟨rfl, bd10⟩
      · have hne : ((n3 : Int) != (n4 : Int)) = true := by simp; omega
        clear h1 h3 h4 G1 G3 G4
        go_wp2_with fail
        go_ret
        exact ⟨rfl, Below.refl _ _⟩
    · clear h1 h3 h4 G1 G3 G4
      go_wp2_with fail
      go_ret
      exact ⟨rfl, Below.refl _ _⟩

end Go.Proofs.Qxb6602505aDoor
