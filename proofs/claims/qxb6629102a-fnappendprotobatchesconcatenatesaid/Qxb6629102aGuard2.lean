import Derived.Test.Qxb6629102aSome
namespace Go.Proofs.Qxb6629102a
open Go.RowKit
set_option linter.unusedSimpArgs false
set_option linter.unusedVariables false

set_option maxHeartbeats 4000000 in
set_option maxRecDepth 100000 in
theorem bytes13_any (lo hi : Nat) (rs1 rs2 : List Re) (lv1 lv2 : Value) (ba : Option Addr) (bn bc : Nat) (w : World) (hl1 : RegsIn w lo hi lv1 rs1) (hl2 : RegsIn w lo hi lv2 rs2) (hm1 : rs1.length ≤ maxLen) (hm2 : rs2.length ≤ maxLen) (hbn : bn ≤ maxLen) :
    Calls Try.prog 13 #[lv1, lv2, .slice ba bn bc] w fun e w' => SomeBool e ∧ w' = w := by
  unfold maxLen at hbn hm1 hm2
  obtain ⟨la1, lc1, rfl⟩ := hl1.form
  obtain ⟨la2, lc2, rfl⟩ := hl2.form
  by_cases hb : (1048576 : Int) < (rs1.length : Int)
  · go_enter Try.func13, Try.ntmps13
    go_wp2
    go_ret
    exact ⟨⟨_, rfl⟩, rfl⟩
  go_enter Try.func13, Try.ntmps13
  go_wp2
  go_loop [7, 8] (fun z i => ∃ k : Nat, ∃ q : Int, k ≤ rs1.length ∧ i = .int .i64 k ∧ z = .int .i64 q ∧ 0 ≤ q ∧ q ≤ 1048576) (fun _ i => rs1.length - (intOf i).toNat)
  case atStart => exact ⟨0, _, Nat.zero_le _, rfl, rfl, by omega, by omega⟩
  case round =>
    obtain ⟨k, q, hk, rfl, rfl, q0, q1⟩ := hrel
    by_cases hlt : k < rs1.length
    · rcases hl1 with ⟨e1, e2⟩ | ⟨b, off, sp, c, e1, l1, hc⟩
      · subst e2; simp at hlt
      injection e1 with e1 _ e3
      subst e1; subst e3
      obtain ⟨rfl, _, _⟩ := l1 (by omega)
      have hr := hc k hlt
      obtain ⟨ea, hea⟩ : ∃ ea, ea = rs1[k] := ⟨_, rfl⟩
      rw [← hea] at hr
      clear hea hc
      obtain ⟨t, u, a, ve, c0, c1, c2, c3, c4, c5, p1, p2, p3, p4⟩ := hr
      obtain ⟨pt, rfl⟩ := p1.form
      obtain ⟨pu, rfl⟩ := p2.form
      obtain ⟨aa, an, ac, rfl⟩ := p3.form
      obtain ⟨va, vn, vc, rfl⟩ := p4.form
      obtain rfl := p3.len
      clear p4
      go_upto_if 66 with fail
      all_goals first | (go_ret; exact ⟨⟨false, rfl⟩, rfl⟩) | skip
      go_cut [7] (fun z wk => ∃ q : Int, z = .int .i64 q ∧ 0 ≤ q ∧ q ≤ 1048576 ∧ wk = w)
      case first =>
       as_aux_lemma =>
        rcases p1 with ⟨e1, e2⟩ | ⟨b', off', d, e1, e2, l1', l2', hd⟩
        · injection e1 with e1
          subst e1
          clear e2
          go_wp2
          go_meet
          case rel => exact ⟨_, rfl, by omega, by omega, rfl⟩
        · injection e1 with e1
          subst e1
          have d0 := hd.1
          clear hd e2
          go_wp2
          all_goals first | (go_ret; exact ⟨⟨false, rfl⟩, rfl⟩) | skip
          go_meet
          case rel => exact ⟨_, rfl, by omega, by omega, rfl⟩
      case rest =>
        obtain ⟨q2, rfl, s0, s1, hw⟩ := hcut
        obtain rfl : w = wc := hw.symm
        clear p1 c0 c1 c2 q0 q1
        go_upto_if 95 with fail
        go_cut [7] (fun z wk => ∃ q : Int, z = .int .i64 q ∧ 0 ≤ q ∧ q ≤ 1048576 ∧ wk = w)
        case first =>
         as_aux_lemma =>
          rcases p2 with ⟨e1, e2⟩ | ⟨b', off', d, e1, e2, l1', l2', hd⟩
          · injection e1 with e1
            subst e1
            clear e2
            go_wp2
            go_meet
            case rel => exact ⟨_, rfl, by omega, by omega, rfl⟩
          · injection e1 with e1
            subst e1
            have d0 := hd.1
            clear hd e2
            go_wp2
            all_goals first | (go_ret; exact ⟨⟨false, rfl⟩, rfl⟩) | skip
            go_meet
            case rel => exact ⟨_, rfl, by omega, by omega, rfl⟩
        case rest =>
          obtain ⟨q3, rfl, s2, s3, hw⟩ := hcut
          obtain rfl : w = wc := hw.symm
          clear p2 c3 s0 s1
          as_aux_lemma =>
          go_wp2
          all_goals first | (go_ret; exact ⟨⟨false, rfl⟩, rfl⟩) | skip
          go_loop [7, 9] (fun z i => ∃ j : Nat, ∃ q : Int, j ≤ ea.attrs.length ∧ i = .int .i64 j ∧ z = .int .i64 q ∧ 0 ≤ q ∧ q ≤ 1048576) (fun _ i => ea.attrs.length - (intOf i).toNat)
          case atStart => exact ⟨0, _, Nat.zero_le _, rfl, rfl, by omega, by omega⟩
          case round =>
           as_aux_lemma =>
            obtain ⟨j, q4, hj, rfl, rfl, s4, s5⟩ := hrel
            by_cases hjt : j < ea.attrs.length
            · rcases p3 with ⟨e1, e2⟩ | ⟨b', off', sp', c', e1, l1', hc'⟩
              · rw [e2] at hjt; simp at hjt
              injection e1 with e1 _ e3
              subst e1; subst e3
              obtain ⟨rfl, _, _⟩ := l1' (by omega)
              have hAt := hc' j hjt
              obtain ⟨am, ham⟩ : ∃ am, am = ea.attrs[j] := ⟨_, rfl⟩
              rw [← ham] at hAt
              clear ham hc'
              obtain ⟨d0, d1, d2, d3⟩ := hAt
              go_wp2
              all_goals first | (go_ret; exact ⟨⟨false, rfl⟩, rfl⟩) | skip
              go_round
              case rel => exact ⟨j + 1, _, by omega, by go_num, rfl, by omega, by omega⟩
              case measure => simp [intOf]; omega
            · clear p3
              go_wp2
              all_goals first | (go_ret; exact ⟨⟨false, rfl⟩, rfl⟩) | skip
              go_round
              case rel => exact ⟨k + 1, _, by omega, by go_num, rfl, by omega, by omega⟩
              case measure => simp [intOf]; omega
    · as_aux_lemma =>
      clear hl1 hk
      go_wp2
      all_goals first | (go_ret; exact ⟨⟨false, rfl⟩, rfl⟩) | skip
      go_loop [7, 10] (fun z i => ∃ k : Nat, ∃ q : Int, k ≤ rs2.length ∧ i = .int .i64 k ∧ z = .int .i64 q ∧ 0 ≤ q ∧ q ≤ 1048576) (fun _ i => rs2.length - (intOf i).toNat)
      case atStart => exact ⟨0, _, Nat.zero_le _, rfl, rfl, by omega, by omega⟩
      case round =>
        obtain ⟨k, q, hk, rfl, rfl, q0, q1⟩ := hrel
        by_cases hlt : k < rs2.length
        · rcases hl2 with ⟨e1, e2⟩ | ⟨b, off, sp, c, e1, l1, hc⟩
          · subst e2; simp at hlt
          injection e1 with e1 _ e3
          subst e1; subst e3
          obtain ⟨rfl, _, _⟩ := l1 (by omega)
          have hr := hc k hlt
          obtain ⟨ea, hea⟩ : ∃ ea, ea = rs2[k] := ⟨_, rfl⟩
          rw [← hea] at hr
          clear hea hc
          obtain ⟨t, u, a, ve, c0, c1, c2, c3, c4, c5, p1, p2, p3, p4⟩ := hr
          obtain ⟨pt, rfl⟩ := p1.form
          obtain ⟨pu, rfl⟩ := p2.form
          obtain ⟨aa, an, ac, rfl⟩ := p3.form
          obtain ⟨va, vn, vc, rfl⟩ := p4.form
          obtain rfl := p3.len
          clear p4
          go_upto_if 269 with fail
          all_goals first | (go_ret; exact ⟨⟨false, rfl⟩, rfl⟩) | skip
          go_cut [7] (fun z wk => ∃ q : Int, z = .int .i64 q ∧ 0 ≤ q ∧ q ≤ 1048576 ∧ wk = w)
          case first =>
           as_aux_lemma =>
            rcases p1 with ⟨e1, e2⟩ | ⟨b', off', d, e1, e2, l1', l2', hd⟩
            · injection e1 with e1
              subst e1
              clear e2
              go_wp2
              go_meet
              case rel => exact ⟨_, rfl, by omega, by omega, rfl⟩
            · injection e1 with e1
              subst e1
              have d0 := hd.1
              clear hd e2
              go_wp2
              all_goals first | (go_ret; exact ⟨⟨false, rfl⟩, rfl⟩) | skip
              go_meet
              case rel => exact ⟨_, rfl, by omega, by omega, rfl⟩
          case rest =>
            obtain ⟨q2, rfl, s0, s1, hw⟩ := hcut
            obtain rfl : w = wc := hw.symm
            clear p1 c0 c1 c2 q0 q1
            go_upto_if 298 with fail
            go_cut [7] (fun z wk => ∃ q : Int, z = .int .i64 q ∧ 0 ≤ q ∧ q ≤ 1048576 ∧ wk = w)
            case first =>
             as_aux_lemma =>
              rcases p2 with ⟨e1, e2⟩ | ⟨b', off', d, e1, e2, l1', l2', hd⟩
              · injection e1 with e1
                subst e1
                clear e2
                go_wp2
                go_meet
                case rel => exact ⟨_, rfl, by omega, by omega, rfl⟩
              · injection e1 with e1
                subst e1
                have d0 := hd.1
                clear hd e2
                go_wp2
                all_goals first | (go_ret; exact ⟨⟨false, rfl⟩, rfl⟩) | skip
                go_meet
                case rel => exact ⟨_, rfl, by omega, by omega, rfl⟩
            case rest =>
              obtain ⟨q3, rfl, s2, s3, hw⟩ := hcut
              obtain rfl : w = wc := hw.symm
              clear p2 c3 s0 s1
              as_aux_lemma =>
              go_wp2
              all_goals first | (go_ret; exact ⟨⟨false, rfl⟩, rfl⟩) | skip
              go_loop [7, 11] (fun z i => ∃ j : Nat, ∃ q : Int, j ≤ ea.attrs.length ∧ i = .int .i64 j ∧ z = .int .i64 q ∧ 0 ≤ q ∧ q ≤ 1048576) (fun _ i => ea.attrs.length - (intOf i).toNat)
              case atStart => exact ⟨0, _, Nat.zero_le _, rfl, rfl, by omega, by omega⟩
              case round =>
               as_aux_lemma =>
                obtain ⟨j, q4, hj, rfl, rfl, s4, s5⟩ := hrel
                by_cases hjt : j < ea.attrs.length
                · rcases p3 with ⟨e1, e2⟩ | ⟨b', off', sp', c', e1, l1', hc'⟩
                  · rw [e2] at hjt; simp at hjt
                  injection e1 with e1 _ e3
                  subst e1; subst e3
                  obtain ⟨rfl, _, _⟩ := l1' (by omega)
                  have hAt := hc' j hjt
                  obtain ⟨am, ham⟩ : ∃ am, am = ea.attrs[j] := ⟨_, rfl⟩
                  rw [← ham] at hAt
                  clear ham hc'
                  obtain ⟨d0, d1, d2, d3⟩ := hAt
                  go_wp2
                  all_goals first | (go_ret; exact ⟨⟨false, rfl⟩, rfl⟩) | skip
                  go_round
                  case rel => exact ⟨j + 1, _, by omega, by go_num, rfl, by omega, by omega⟩
                  case measure => simp [intOf]; omega
                · clear p3
                  go_wp2
                  all_goals first | (go_ret; exact ⟨⟨false, rfl⟩, rfl⟩) | skip
                  go_round
                  case rel => exact ⟨k + 1, _, by omega, by go_num, rfl, by omega, by omega⟩
                  case measure => simp [intOf]; omega
        · as_aux_lemma =>
          clear hl2
          go_wp2
          all_goals first | (go_ret; exact ⟨⟨_, rfl⟩, rfl⟩) | skip

end Go.Proofs.Qxb6629102a
