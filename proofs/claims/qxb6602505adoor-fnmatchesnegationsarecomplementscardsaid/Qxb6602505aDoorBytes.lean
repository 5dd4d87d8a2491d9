import Derived.Test.Qxb6602505aDoorStrs
namespace Go.Proofs.Qxb6602505aDoor
open Go.RowKit
variable {w w1 : World} {a1 a3 a4 : Option Addr} {n1 n3 n4 c1 c3 c4 : Nat} {s1 s3 s4 : Nat → ByteArray}

set_option maxHeartbeats 2000000 in
theorem zzb5 (w : World) (key : ByteArray) (bd : Int) (hkey : key.size ≤ maxLen) (h1 : SS w a1 n1 s1) (h3 : SS w a3 n3 s3) (h4 : SS w a4 n4 s4) (hn1 : n1 ≤ maxLen) (hn3 : n3 ≤ maxLen) (hn4 : n4 ≤ maxLen) :
    Calls Tryd.prog 5 #[.string key, .slice a1 n1 c1, .int .i64 bd, .slice a3 n3 c3, .slice a4 n4 c4] w fun e w' => (e = .returned (.bool true) ∨ e = .returned (.bool false)) ∧ w' = w := by
  unfold maxLen at hkey hn1 hn3 hn4
  by_cases hk0 : key.size ≤ 1048576
  · go_enter Tryd.func5, Tryd.ntmps5
    go_wp2
    all_goals first | (go_ret; exact ⟨.inr rfl, rfl⟩) | skip
    go_loop [11, 12] (fun s i => ∃ (z : Int) (k : Nat), s = .int .i64 z ∧ i = .int .i64 k ∧ (0 ≤ z ∧ z ≤ 1048576) ∧ k ≤ n1) (fun _ i => n1 - (intOf i).toNat)
    case atStart => exact ⟨_, 0, rfl, rfl, ⟨by omega, by omega⟩, by omega⟩
    case round =>
      obtain ⟨z, k, rfl, rfl, ⟨hz0, hz⟩, hk⟩ := hrel
      by_cases hlt : k < n1
      · obtain ⟨b, off, rfl, hlb, hd, hm⟩ := h1 k hlt
        have hki : (k : Int) < (n1 : Int) := by omega
        obtain ⟨S, hS⟩ : ∃ S, S = s1 k := ⟨_, rfl⟩
        rw [← hS] at hd hm
        unfold maxLen at hm
        clear hS
        by_cases q1 : S.size ≤ 1048576
        · by_cases q2 : z + (S.size : Int) ≤ 1048576
          · go_wp2
            go_round
            case rel => exact ⟨z + (S.size : Int), k + 1, by go_num, by go_num, ⟨by omega, by omega⟩, by omega⟩
            case measure => simp [intOf]; omega
          · go_wp2
            go_ret
            exact ⟨.inr rfl, rfl⟩
        · go_wp2
          go_ret
          exact ⟨.inr rfl, rfl⟩
      · go_wp2
        all_goals first | (go_ret; exact ⟨.inr rfl, rfl⟩) | skip
        go_loop [11, 13] (fun s i => ∃ (z : Int) (k : Nat), s = .int .i64 z ∧ i = .int .i64 k ∧ (0 ≤ z ∧ z ≤ 1048576) ∧ k ≤ n3) (fun _ i => n3 - (intOf i).toNat)
        case atStart => exact ⟨_, 0, rfl, rfl, ⟨by omega, by omega⟩, by omega⟩
        case round =>
          obtain ⟨z, k, rfl, rfl, ⟨hz0, hz⟩, hk⟩ := hrel
          by_cases hlt : k < n3
          · obtain ⟨b, off, rfl, hlb, hd, hm⟩ := h3 k hlt
            have hki : (k : Int) < (n3 : Int) := by omega
            obtain ⟨S, hS⟩ : ∃ S, S = s3 k := ⟨_, rfl⟩
            rw [← hS] at hd hm
            unfold maxLen at hm
            clear hS
            by_cases q1 : S.size ≤ 1048576
            · by_cases q2 : z + (S.size : Int) ≤ 1048576
              · go_wp2
                go_round
                case rel => exact ⟨z + (S.size : Int), k + 1, by go_num, by go_num, ⟨by omega, by omega⟩, by omega⟩
                case measure => simp [intOf]; omega
              · go_wp2
                go_ret
                exact ⟨.inr rfl, rfl⟩
            · go_wp2
              go_ret
              exact ⟨.inr rfl, rfl⟩
          · go_wp2
            all_goals first | (go_ret; exact ⟨.inr rfl, rfl⟩) | skip
            go_loop [11, 14] (fun s i => ∃ (z : Int) (k : Nat), s = .int .i64 z ∧ i = .int .i64 k ∧ (0 ≤ z ∧ z ≤ 1048576) ∧ k ≤ n4) (fun _ i => n4 - (intOf i).toNat)
            case atStart => exact ⟨_, 0, rfl, rfl, ⟨by omega, by omega⟩, by omega⟩
            case round =>
              obtain ⟨z, k, rfl, rfl, ⟨hz0, hz⟩, hk⟩ := hrel
              by_cases hlt : k < n4
              · obtain ⟨b, off, rfl, hlb, hd, hm⟩ := h4 k hlt
                have hki : (k : Int) < (n4 : Int) := by omega
                obtain ⟨S, hS⟩ : ∃ S, S = s4 k := ⟨_, rfl⟩
                rw [← hS] at hd hm
                unfold maxLen at hm
                clear hS
                by_cases q1 : S.size ≤ 1048576
                · by_cases q2 : z + (S.size : Int) ≤ 1048576
                  · go_wp2
                    go_round
                    case rel => exact ⟨z + (S.size : Int), k + 1, by go_num, by go_num, ⟨by omega, by omega⟩, by omega⟩
                    case measure => simp [intOf]; omega
                  · go_wp2
                    go_ret
                    exact ⟨.inr rfl, rfl⟩
                · go_wp2
                  go_ret
                  exact ⟨.inr rfl, rfl⟩
              · go_wp2
                go_ret
                exact ⟨.inl rfl, rfl⟩
  · go_enter Tryd.func5, Tryd.ntmps5
    go_wp2
    go_ret
    exact ⟨.inr rfl, rfl⟩

end Go.Proofs.Qxb6602505aDoor
