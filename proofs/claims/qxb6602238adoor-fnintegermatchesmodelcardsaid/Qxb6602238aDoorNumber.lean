import Derived.Test.Qxb6602238aDoorDigits
import Derived.Deep.DeepCutAuto
namespace Go.Proofs.Qxb6602238aDoor
open Go.RowKit
theorem hid {p : Prop} (h : p) : Hid p := h
variable {w w1 w2 : World} {sb : Nat} {ao : Option Addr} {n cap : Nat} {bs : Nat → Int} {i : Nat}

set_option maxHeartbeats 1000000 in
theorem number15 (w : World) (h : St w sb ao n cap bs i) (hn : n ≤ 2097152) :
    Calls Tryd.prog 15 #[.pointer (some ⟨sb, 0, none⟩)] w fun e w' => e = .returned (.bool (numF bs n i).1) ∧ St w' sb ao n cap bs (numF bs n i).2 ∧ w.grownBy w' (some sb) := by
  obtain ⟨i1, hi1⟩ : ∃ i1, i1 = (if atB bs n i 45 = true then i + 1 else i) := ⟨_, rfl⟩
  have H1 : Hid (i1 = (if atB bs n i 45 = true then i + 1 else i)) := hi1
  have HN : Hid (numF bs n i = intF bs n i1) := hid (by rw [hi1]; rfl)
  clear hi1
  rw [HN.out]
  clear HN
  go_enter Tryd.func15, Tryd.ntmps15
  go_wp2_with fail
  refine (at22 w 45 h).mono ?_
  rintro e wx ⟨rfl, q, rfl⟩
  go_upto_if 4 with (fail)
  go_cut [] (fun wc => St wc sb ao n cap bs i1 ∧ w.grownBy wc (some sb))
  case first =>
    have hs := h.drewN q
    have c1 := hs.c1
    have z1 := hs.z1
    have hg := gr_drewN (World.grownBy.refl w (some sb)) q
    have hle := h.le
    cases hA : atB bs n i 45 with
    | true =>
      have hlt := atB_lt hA
      have E : Hid (i1 = i + 1) := hid (by rw [H1.out, if_pos hA])
      clear hA H1
      go_wp2_with fail
      go_meet
      case rel => exact ⟨by rw [E.out]; exact hs.set (i + 1) (by omega), gr_set hg _⟩
    | false =>
      have E : Hid (i1 = i) := hid (by rw [H1.out, if_neg (by rw [hA]; decide)])
      clear hA H1
      go_wp2_with fail
      go_meet
      case rel => exact ⟨by rw [E.out]; exact hs, hg⟩
  case rest =>
    obtain ⟨hs, hg⟩ := hcut
    clear H1 h
    obtain ⟨i2, hi2⟩ : ∃ i2, i2 = (if atB bs n i1 48 = true then i1 + 1 else sk isDg bs n i1) := ⟨_, rfl⟩
    have H2 : Hid (i2 = (if atB bs n i1 48 = true then i1 + 1 else sk isDg bs n i1)) := hi2
    clear hi2
    go_wp2_with fail
    refine (at22 wc 48 hs).mono ?_
    rintro e wx ⟨rfl, q, rfl⟩
    go_upto_if 13 with (fail)
    go_cut [] (fun wd => intF bs n i1 = fracF bs n i2 ∧ St wd sb ao n cap bs i2 ∧ w.grownBy wd (some sb))
    case first =>
      have hs := hs.drewN q
      have hg := gr_drewN hg q
      have c1 := hs.c1
      have z1 := hs.z1
      have hle := hs.le
      cases hA : atB bs n i1 48 with
      | true =>
        have hlt := atB_lt hA
        have E : Hid (i2 = i1 + 1) := hid (by rw [H2.out, if_pos hA])
        have HF : Hid (intF bs n i1 = fracF bs n i2) := hid (by unfold intF; rw [if_pos hA, E.out])
        clear hA H2
        go_wp2_with fail
        go_meet
        case rel => exact ⟨HF.out, by rw [E.out]; exact hs.set (i1 + 1) (by omega), gr_set hg _⟩
      | false =>
        have E : Hid (i2 = sk isDg bs n i1) := hid (by rw [H2.out, if_neg (by rw [hA]; decide)])
        have HA : Hid (atB bs n i1 48 = false) := hA
        clear hA H2
        go_wp2_with fail
        refine (digits23 _ hs hn).mono ?_
        rintro e wy ⟨rfl, hs2, hg2⟩
        by_cases hd : i1 < sk isDg bs n i1
        · have HF : Hid (intF bs n i1 = fracF bs n i2) := hid (by unfold intF; rw [if_neg (by rw [HA.out]; decide), if_pos hd, E.out])
          rw [decide_eq_true hd]
          go_wp2_with fail
          go_meet
          case rel => exact ⟨HF.out, by rw [E.out]; exact hs2, gr_trans hg hg2⟩
        · have HF : Hid (intF bs n i1 = (false, sk isDg bs n i1)) := hid (by unfold intF; rw [if_neg (by rw [HA.out]; decide), if_neg hd])
          rw [decide_eq_false hd]
          clear hd
          go_wp2
          go_ret
          exact ⟨by rw [HF.out]; rfl, by rw [HF.out]; exact hs2, gr_trans hg hg2⟩
    case rest =>
      clear hs hg
      obtain ⟨HI0, hs, hg⟩ := hcut
      have HI : Hid (intF bs n i1 = fracF bs n i2) := HI0
      clear HI0
      obtain ⟨i3, hi3⟩ : ∃ i3, i3 = (if atB bs n i2 46 = true then sk isDg bs n (i2 + 1) else i2) := ⟨_, rfl⟩
      have H3 : Hid (i3 = (if atB bs n i2 46 = true then sk isDg bs n (i2 + 1) else i2)) := hi3
      clear hi3 H2
      go_wp2_with fail
      refine (at22 _ 46 hs).mono ?_
      rintro e wx ⟨rfl, q2, rfl⟩
      go_upto_if 25 with (fail)
      go_cut [] (fun wd => fracF bs n i2 = expF bs n i3 ∧ St wd sb ao n cap bs i3 ∧ w.grownBy wd (some sb))
      case first =>
        have hs := hs.drewN q2
        have hg := gr_drewN hg q2
        have c1 := hs.c1
        have z1 := hs.z1
        have hle := hs.le
        cases hA : atB bs n i2 46 with
        | true =>
          have hlt := atB_lt hA
          have E : Hid (i3 = sk isDg bs n (i2 + 1)) := hid (by rw [H3.out, if_pos hA])
          have HA : Hid (atB bs n i2 46 = true) := hA
          clear hA H3
          go_wp2_with fail
          have hs1 := hs.set (i2 + 1) (by omega)
          have hg1 := gr_set hg (.int .i64 (((i2 + 1 : Nat)) : Int))
          refine (digits23 _ hs1 hn).mono ?_
          rintro e wy ⟨rfl, hs2, hg2⟩
          by_cases hd : i2 + 1 < sk isDg bs n (i2 + 1)
          · have HF : Hid (fracF bs n i2 = expF bs n i3) := hid (by unfold fracF; rw [if_pos HA.out, if_pos hd, E.out])
            rw [decide_eq_true hd]
            go_wp2_with fail
            go_meet
            case rel => exact ⟨HF.out, by rw [E.out]; exact hs2, gr_trans hg1 hg2⟩
          · have HF : Hid (fracF bs n i2 = (false, sk isDg bs n (i2 + 1))) := hid (by unfold fracF; rw [if_pos HA.out, if_neg hd])
            rw [decide_eq_false hd]
            clear hd
            go_wp2
            go_ret
            exact ⟨by rw [HI.out, HF.out]; rfl, by rw [HI.out, HF.out]; exact hs2, gr_trans hg1 hg2⟩
        | false =>
          have E : Hid (i3 = i2) := hid (by rw [H3.out, if_neg (by rw [hA]; decide)])
          have HF : Hid (fracF bs n i2 = expF bs n i3) := hid (by unfold fracF; rw [if_neg (by rw [hA]; decide), E.out])
          clear hA H3
          go_wp2_with fail
          go_meet
          case rel => exact ⟨HF.out, by rw [E.out]; exact hs, hg⟩
      case rest =>
        clear hs hg
        obtain ⟨HJ0, hs, hg⟩ := hcut
        have HJ : Hid (intF bs n i1 = expF bs n i3) := hid (HI.out.trans HJ0)
        clear HJ0 HI H3
        obtain ⟨eE, heE⟩ : ∃ eE, eE = (atB bs n i3 101 || atB bs n i3 69) := ⟨_, rfl⟩
        have HE : Hid (eE = (atB bs n i3 101 || atB bs n i3 69)) := heE
        clear heE
        go_upto_region 11 with (fail)
        go_cut [41] (fun s41 wd => s41 = .bool eE ∧ St wd sb ao n cap bs i3 ∧ w.grownBy wd (some sb))
        case first =>
          go_wp2_with fail
          refine (at22 _ 101 hs).mono ?_
          rintro e wx ⟨rfl, q3, rfl⟩
          have hs0 := hs
          have hg0 := hg
          have hs := hs.drewN q3
          have hg := gr_drewN hg q3
          cases hA : atB bs n i3 101 with
          | true =>
            have E : Hid (eE = true) := hid (by rw [HE.out, hA]; rfl)
            clear hA HE
            go_wp2_with fail
            go_meet
            case rel => exact ⟨by rw [E.out], hs, hg⟩
          | false =>
            have E : Hid (eE = atB bs n i3 69) := hid (by rw [HE.out, hA]; rfl)
            clear hA HE
            go_wp2_with fail
            refine (at22 _ 69 hs).mono ?_
            rintro e wx ⟨rfl, q4, rfl⟩
            go_wp2_with fail
            go_meet
            case rel => exact ⟨by rw [E.out], hs0.drewN _, gr_drewN hg0 _⟩
        case rest =>
          clear hs hg
          obtain ⟨rfl, hs, hg⟩ := hcut
          cases eE with
          | false =>
            have HF : Hid (expF bs n i3 = (true, i3)) := hid (by unfold expF; rw [← HE.out, if_neg (by decide)])
            clear HE
            go_wp2_with fail
            go_ret
            exact ⟨by rw [HJ.out, HF.out]; rfl, by rw [HJ.out, HF.out]; exact hs, hg⟩
          | true =>
            obtain ⟨eS, heS⟩ : ∃ eS, eS = (atB bs n (i3 + 1) 43 || atB bs n (i3 + 1) 45) := ⟨_, rfl⟩
            have HS : Hid (eS = (atB bs n (i3 + 1) 43 || atB bs n (i3 + 1) 45)) := heS
            clear heS
            have hle : i3 < n := by
              have := HE.out
              rcases Bool.or_eq_true_iff.1 this.symm with h1 | h1 <;> exact atB_lt h1
            obtain ⟨j, hj⟩ : ∃ j, j = (if eS = true then i3 + 2 else i3 + 1) := ⟨_, rfl⟩
            have HF : Hid (expF bs n i3 = (decide (j < sk isDg bs n j), sk isDg bs n j)) := hid (by unfold expF; rw [← HE.out, if_pos rfl, ← HS.out, ← hj])
            have HJJ : Hid (j = (if eS = true then i3 + 2 else i3 + 1)) := hj
            clear HE hj
            have c1 := hs.c1
            have z1 := hs.z1
            go_upto_region 13 with (fail)
            have hs := hs.set (i3 + 1) (by omega)
            have hg := gr_set hg (.int .i64 (((i3 + 1 : Nat)) : Int))
            clear c1 z1
            go_cut [54] (fun s54 wd => s54 = .bool eS ∧ St wd sb ao n cap bs (i3 + 1) ∧ w.grownBy wd (some sb))
            case first =>
              go_wp2_with fail
              refine (at22 _ 43 hs).mono ?_
              rintro e wx ⟨rfl, q5, rfl⟩
              have hs0 := hs
              have hg0 := hg
              have hs := hs.drewN q5
              have hg := gr_drewN hg q5
              cases hA : atB bs n (i3 + 1) 43 with
              | true =>
                have E : Hid (eS = true) := hid (by rw [HS.out, hA]; rfl)
                clear hA HS HJJ
                go_wp2_with fail
                go_meet
                case rel => exact ⟨by rw [E.out], hs, hg⟩
              | false =>
                have E : Hid (eS = atB bs n (i3 + 1) 45) := hid (by rw [HS.out, hA]; rfl)
                clear hA HS HJJ
                go_wp2_with fail
                refine (at22 _ 45 hs).mono ?_
                rintro e wx ⟨rfl, q6, rfl⟩
                go_wp2_with fail
                go_meet
                case rel => exact ⟨by rw [E.out], hs0.drewN _, gr_drewN hg0 _⟩
            case rest =>
              clear hs hg
              obtain ⟨rfl, hs, hg⟩ := hcut
              have c1 := hs.c1
              have z1 := hs.z1
              cases eS with
              | false =>
                obtain rfl : j = i3 + 1 := HJJ.out
                clear HS HJJ
                go_wp2_with fail
                refine (digits23 _ hs hn).mono ?_
                rintro e wy ⟨rfl, hs2, hg2⟩
                go_wp2_with fail
                go_ret
                exact ⟨by rw [HJ.out, HF.out]; rfl, by rw [HJ.out, HF.out]; exact hs2, gr_trans hg hg2⟩
              | true =>
                obtain rfl : j = i3 + 2 := HJJ.out
                have hle2 : i3 + 1 < n := by
                  have := HS.out
                  rcases Bool.or_eq_true_iff.1 this.symm with h1 | h1 <;> exact atB_lt h1
                clear HS HJJ
                go_wp2_with fail
                have hs := hs.set (i3 + 2) (by omega)
                have hg := gr_set hg (.int .i64 (((i3 + 2 : Nat)) : Int))
                refine (digits23 _ hs hn).mono ?_
                rintro e wy ⟨rfl, hs2, hg2⟩
                go_wp2_with fail
                go_ret
                exact ⟨by rw [HJ.out, HF.out]; rfl, by rw [HJ.out, HF.out]; exact hs2, gr_trans hg hg2⟩

end Go.Proofs.Qxb6602238aDoor
