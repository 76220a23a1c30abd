import Derived.Test.Qxb6629102aSome
namespace Go.Proofs.Qxb6629102a
open Go.RowKit
set_option linter.unusedSimpArgs false
set_option linter.unusedVariables false

set_option maxHeartbeats 1000000 in
set_option maxRecDepth 100000 in
theorem bytes5_any (lo hi : Nat) (rs : List Re) (lv : Value) (ba : Option Addr) (bn bc : Nat) (w : World) (hl1 : RegsIn w lo hi lv rs) (hbn : bn ≤ maxLen) :
    Calls Try.prog 5 #[lv, .slice ba bn bc] w fun e w' => SomeBool e ∧ w' = w := by
  unfold maxLen at hbn
  obtain ⟨la, lc, rfl⟩ := hl1.form
  by_cases hb : (1048576 : Int) < (rs.length : Int)
  · go_enter Try.func5, Try.ntmps5
    go_wp2
    go_ret
    exact ⟨⟨_, rfl⟩, rfl⟩
  go_enter Try.func5, Try.ntmps5
  go_wp2
  go_loop [5, 6] (fun z i => ∃ k : Nat, ∃ q : Int, k ≤ rs.length ∧ i = .int .i64 k ∧ z = .int .i64 q ∧ 0 ≤ q ∧ q ≤ 1048576) (fun _ i => rs.length - (intOf i).toNat)
  case atStart => exact ⟨0, _, Nat.zero_le _, rfl, rfl, by omega, by omega⟩
  case round =>
    obtain ⟨k, q, hk, rfl, rfl, q0, q1⟩ := hrel
    by_cases hlt : k < rs.length
    · rcases hl1 with ⟨e1, e2⟩ | ⟨b, off, sp, c, e1, l1, hc⟩
      · subst e2; simp at hlt
      injection e1 with e1 _ e3
      subst e1; subst e3
      obtain ⟨rfl, _, _⟩ := l1 (by omega)
      have hr := hc k hlt
      obtain ⟨ea, hea⟩ : ∃ ea, ea = rs[k] := ⟨_, rfl⟩
      rw [← hea] at hr
      clear hea hc
      obtain ⟨t, u, a, ve, c0, c1, c2, c3, c4, c5, p1, p2, p3, p4⟩ := hr
      obtain ⟨pt, rfl⟩ := p1.form
      obtain ⟨pu, rfl⟩ := p2.form
      obtain ⟨aa, an, ac, rfl⟩ := p3.form
      obtain ⟨va, vn, vc, rfl⟩ := p4.form
      obtain rfl := p3.len
      clear p4
      go_upto_if 62 with fail
      all_goals first | (go_ret; exact ⟨⟨false, rfl⟩, rfl⟩) | skip
      go_cut [5] (fun z wk => ∃ q : Int, z = .int .i64 q ∧ 0 ≤ q ∧ q ≤ 1048576 ∧ wk = w)
      case first =>
       as_aux_lemma =>
        rcases p1 with ⟨e1, e2⟩ | ⟨b', off', d, e1, e2, l1', l2', hd⟩
        · injection e1 with e1
          subst e1
          clear e2
          go_wp2
          go_meet
          case rel => exact ⟨_, rfl, by omega, by omega, rfl⟩
        · injection e1 with e1
          subst e1
          have d0 := hd.1
          clear hd e2
          go_wp2
          all_goals first | (go_ret; exact ⟨⟨false, rfl⟩, rfl⟩) | skip
          go_meet
          case rel => exact ⟨_, rfl, by omega, by omega, rfl⟩
      case rest =>
        obtain ⟨q2, rfl, s0, s1, hw⟩ := hcut
        obtain rfl : w = wc := hw.symm
        clear p1 c0 c1 c2 q0 q1
        go_upto_if 91 with fail
        go_cut [5] (fun z wk => ∃ q : Int, z = .int .i64 q ∧ 0 ≤ q ∧ q ≤ 1048576 ∧ wk = w)
        case first =>
         as_aux_lemma =>
          rcases p2 with ⟨e1, e2⟩ | ⟨b', off', d, e1, e2, l1', l2', hd⟩
          · injection e1 with e1
            subst e1
            clear e2
            go_wp2
            go_meet
            case rel => exact ⟨_, rfl, by omega, by omega, rfl⟩
          · injection e1 with e1
            subst e1
            have d0 := hd.1
            clear hd e2
            go_wp2
            all_goals first | (go_ret; exact ⟨⟨false, rfl⟩, rfl⟩) | skip
            go_meet
            case rel => exact ⟨_, rfl, by omega, by omega, rfl⟩
        case rest =>
          obtain ⟨q3, rfl, s2, s3, hw⟩ := hcut
          obtain rfl : w = wc := hw.symm
          clear p2 c3 s0 s1
          as_aux_lemma =>
          go_wp2
          all_goals first | (go_ret; exact ⟨⟨false, rfl⟩, rfl⟩) | skip
          go_loop [5, 7] (fun z i => ∃ j : Nat, ∃ q : Int, j ≤ ea.attrs.length ∧ i = .int .i64 j ∧ z = .int .i64 q ∧ 0 ≤ q ∧ q ≤ 1048576) (fun _ i => ea.attrs.length - (intOf i).toNat)
          case atStart => exact ⟨0, _, Nat.zero_le _, rfl, rfl, by omega, by omega⟩
          case round =>
           as_aux_lemma =>
            obtain ⟨j, q4, hj, rfl, rfl, s4, s5⟩ := hrel
            by_cases hjt : j < ea.attrs.length
            · rcases p3 with ⟨e1, e2⟩ | ⟨b', off', sp', c', e1, l1', hc'⟩
              · rw [e2] at hjt; simp at hjt
              injection e1 with e1 _ e3
              subst e1; subst e3
              obtain ⟨rfl, _, _⟩ := l1' (by omega)
              have hAt := hc' j hjt
              obtain ⟨am, ham⟩ : ∃ am, am = ea.attrs[j] := ⟨_, rfl⟩
              rw [← ham] at hAt
              clear ham hc'
              obtain ⟨d0, d1, d2, d3⟩ := hAt
              go_wp2
              all_goals first | (go_ret; exact ⟨⟨false, rfl⟩, rfl⟩) | skip
              go_round
              case rel => exact ⟨j + 1, _, by omega, by go_num, rfl, by omega, by omega⟩
              case measure => simp [intOf]; omega
            · clear p3
              go_wp2
              all_goals first | (go_ret; exact ⟨⟨false, rfl⟩, rfl⟩) | skip
              go_round
              case rel => exact ⟨k + 1, _, by omega, by go_num, rfl, by omega, by omega⟩
              case measure => simp [intOf]; omega
    · as_aux_lemma =>
      clear hl1
      go_wp2
      all_goals first | (go_ret; exact ⟨⟨_, rfl⟩, rfl⟩) | skip

end Go.Proofs.Qxb6629102a
