import Derived.Test.Qxb6629102aProto
namespace Go.Proofs.Qxb6629102a
open Go.RowKit
set_option linter.unusedSimpArgs false
set_option linter.unusedVariables false

/-- n counts up to x, or is beyond the bound -/
def okN (n x : Int) : Prop := 0 ≤ n ∧ n ≤ 2097152 ∧ (n ≤ 1048576 → n = x)
theorem okN.add {n k x : Int} (h : okN n x) (hk : 0 ≤ k) : okN (addB n k) (x + k) := by
  obtain ⟨h0, h1, h2⟩ := h
  unfold addB okN
  split
  · omega
  · have := h2 (by omega); omega
theorem okN.big (x : Int) : okN 1048577 x := by unfold okN; omega
theorem okN.over {n x : Int} (h : okN n x) (hn : 1048576 < n) (y : Int) : okN n y := by unfold okN at *; omega

theorem zzAdd_ok (n k x : Int) (w : World) (h : okN n x) (hk : 0 ≤ k) :
    Calls Try.prog 15 #[.int .i64 n, .int .i64 k] w fun e w' => ∃ m, e = .returned (.int .i64 m) ∧ okN m (x + k) ∧ w = w' :=
  (zzAdd_any n k w h.1 hk).mono fun e w' ⟨he, hw⟩ => ⟨_, he, h.add hk, hw⟩

def optTot : Option De → Int
  | none => 0
  | some d => 16 + (d.desc.size : Int)
def Am.tot (a : Am) : Int := 32 + (a.name.size : Int) + (a.de.desc.size : Int)
def amsTot : List Am → Int
  | [] => 0
  | a :: l => a.tot + amsTot l
def verTot : Option (List UInt8) → Int
  | none => 0
  | some bs => (bs.length : Int)
def Re.tot (r : Re) : Int := 64 + (r.key.size : Int) + (r.desc.size : Int) + verTot r.ver + optTot r.tenant + optTot r.user + amsTot r.attrs
def regsTot : List Re → Int
  | [] => 0
  | r :: l => r.tot + regsTot l
theorem amsTot_take (l : List Am) (k : Nat) (h : k < l.length) : amsTot (l.take (k + 1)) = amsTot (l.take k) + l[k].tot := by
  induction l generalizing k with
  | nil => simp at h
  | cons a l ih =>
    cases k with
    | zero => simp [amsTot]
    | succ k => simp only [List.take_succ_cons, amsTot, List.getElem_cons_succ]; rw [ih k (by simpa using h)]; omega
theorem regsTot_take (l : List Re) (k : Nat) (h : k < l.length) : regsTot (l.take (k + 1)) = regsTot (l.take k) + l[k].tot := by
  induction l generalizing k with
  | nil => simp at h
  | cons a l ih =>
    cases k with
    | zero => simp [regsTot]
    | succ k => simp only [List.take_succ_cons, regsTot, List.getElem_cons_succ]; rw [ih k (by simpa using h)]; omega
theorem verLen {w : World} {lo hi : Nat} {a : Option Addr} {n c : Nat} {o : Option (List UInt8)} (h : VerIn w lo hi (.slice a n c) o) : (n : Int) = verTot o := by
  rcases h with ⟨h, rfl⟩ | ⟨b, off, sp, c, bs, h, rfl, _⟩
  · injection h with _ h; subst h; rfl
  · injection h with _ h; subst h; rfl

set_option maxHeartbeats 1000000 in
set_option maxRecDepth 100000 in
theorem zzAcc_any (lo hi : Nat) (rs : List Re) (lv : Value) (n x : Int) (w : World) (hl : RegsIn w lo hi lv rs) (hhi : hi ≤ w.heap.size) (hn : okN n x) :
    Calls Try.prog 6 #[.int .i64 n, lv] w fun e w' => ∃ m, e = .returned (.int .i64 m) ∧ okN m (x + regsTot rs) ∧ w.grownBy w' none := by
  obtain ⟨la, lc, rfl⟩ := hl.form
  by_cases hb : 1048576 < n
  · go_enter Try.func6, Try.ntmps6
    go_wp2
    go_ret
    exact ⟨_, rfl, okN.big _, World.grownBy.refl _ _⟩
  by_cases hb2 : (1048576 : Int) < (rs.length : Int)
  · go_enter Try.func6, Try.ntmps6
    go_wp2
    go_ret
    exact ⟨_, rfl, okN.big _, World.grownBy.refl _ _⟩
  go_enter Try.func6, Try.ntmps6
  go_wp2
  go_loopw [0, 5] (fun m i wr => ∃ k : Nat, ∃ q : Int, k ≤ rs.length ∧ i = .int .i64 k ∧ m = .int .i64 q ∧ okN q (x + regsTot (rs.take k)) ∧ w.grownBy wr none) (fun _ i _ => rs.length - (intOf i).toNat)
  case atStart => exact ⟨0, n, Nat.zero_le _, rfl, rfl, by simpa [regsTot] using hn, World.grownBy.refl _ _⟩
  case round =>
    obtain ⟨k, q, hk, rfl, rfl, hq, hgr⟩ := hrel
    have q0 := hq.1
    have q1 := hq.2.1
    by_cases hlt : k < rs.length
    · by_cases hbig : 1048576 < q
      · go_wp2
        go_ret
        exact ⟨q, rfl, hq.over hbig _, hgr⟩
      have S := Same.of_grown (lo := lo) hgr hhi
      rcases hl with ⟨e1, e2⟩ | ⟨b, off, sp, c, e1, l1, hc⟩
      · subst e2; simp at hlt
      injection e1 with e1 _ e3
      subst e1; subst e3
      obtain ⟨rfl, l1, l2⟩ := l1 (by omega)
      have hr := S.regAt l1 l2 (hc k hlt)
      have hT := regsTot_take rs k hlt
      obtain ⟨ea, hea⟩ : ∃ ea, ea = rs[k] := ⟨_, rfl⟩
      rw [← hea] at hr hT
      have HT : Hid (regsTot (rs.take (k + 1)) = regsTot (rs.take k) + ea.tot) := hT
      clear hT hea hc S
      have zr := hgr.size
      obtain ⟨t, u, a, ve, c0, c1, c2, c3, c4, c5, p1, p2, p3, p4⟩ := hr
      obtain ⟨pt, rfl⟩ := p1.form
      obtain ⟨pu, rfl⟩ := p2.form
      obtain ⟨aa, an, ac, rfl⟩ := p3.form
      obtain ⟨va, vn, vc, rfl⟩ := p4.form
      obtain rfl := p3.len
      have hvl := verLen p4
      obtain ⟨y, hy⟩ : ∃ y, y = x + regsTot (rs.take k) := ⟨_, rfl⟩
      rw [← hy] at hq
      have HY : Hid (y = x + regsTot (rs.take k)) := hy
      have HVL : Hid ((vn : Int) = verTot ea.ver) := hvl
      clear hy hvl p4
      go_wp2_with fail
      refine (zzAdd_ok _ _ _ _ hq (by omega)).mono ?_
      rintro e w1 ⟨m1, rfl, o1, rfl⟩
      go_wp2_with fail
      refine (zzAdd_ok _ _ _ _ o1 (by omega)).mono ?_
      rintro e w1 ⟨m2, rfl, o2, rfl⟩
      clear o1
      go_wp2_with fail
      refine (zzAdd_ok _ _ _ _ o2 (by omega)).mono ?_
      rintro e w1 ⟨m3, rfl, o3, rfl⟩
      clear o2
      go_wp2_with fail
      refine (zzAdd_ok _ _ _ _ o3 (by omega)).mono ?_
      rintro e w1 ⟨m4, rfl, o4, rfl⟩
      clear o3
      have SA : Same lo hi wr (wr.alloc (Obj.cells #[Value.string ea.key, Value.string ea.desc, .pointer pt, .pointer pu, .slice aa ea.attrs.length ac, .slice va vn vc] 43)) := fun k _ hk => Below.heap_alloc _ _ _ (by omega)
      replace p1 := SA.ptrIn p1
      replace p2 := SA.ptrIn p2
      replace p3 := SA.attrsIn p3
      have GA : w.grownBy (wr.alloc (Obj.cells #[Value.string ea.key, Value.string ea.desc, .pointer pt, .pointer pu, .slice aa ea.attrs.length ac, .slice va vn vc] 43)) none := hgr.trans (World.grownBy_alloc _ _ _)
      clear SA c0 c1 c2 c3 c4 c5 hgr
      obtain ⟨WA, hWA⟩ : ∃ WA : World, WA = wr.alloc (Obj.cells #[Value.string ea.key, Value.string ea.desc, .pointer pt, .pointer pu, .slice aa ea.attrs.length ac, .slice va vn vc] 43) := ⟨_, rfl⟩
      have b2 : WA.cell? ⟨wr.heap.size, 2, none⟩ = some (.pointer pt) := by rw [hWA]; simp
      have b3 : WA.cell? ⟨wr.heap.size, 3, none⟩ = some (.pointer pu) := by rw [hWA]; simp
      have b4 : WA.cell? ⟨wr.heap.size, 4, none⟩ = some (.slice aa ea.attrs.length ac) := by rw [hWA]; simp
      rw [← hWA] at p1 p2 p3 GA ⊢
      clear hWA
      go_upto_if 47 with fail
      go_cut [0] (fun m wk => ∃ q : Int, m = .int .i64 q ∧ okN q (y + 64 + (ea.key.size : Int) + (ea.desc.size : Int) + (vn : Int) + optTot ea.tenant) ∧ wk = WA)
      case first =>
        rcases p1 with ⟨e1, e2⟩ | ⟨b, off, d, e1, e2, l1, l2, hd⟩
        · injection e1 with e1
          subst e1
          have E2 : Hid (ea.tenant = none) := e2
          clear e2
          go_wp2
          go_meet
          case rel => exact ⟨m4, rfl, by rw [E2.out]; simpa [optTot] using o4, rfl⟩
        · injection e1 with e1
          subst e1
          have d0 := hd.1
          have E2 : Hid (ea.tenant = some d) := e2
          clear hd e2
          go_wp2_with fail
          refine (zzAdd_ok _ _ _ _ o4 (by omega)).mono ?_
          rintro e w1 ⟨m5, rfl, o5, rfl⟩
          clear o4
          go_wp2_with fail
          refine (zzAdd_ok _ _ _ _ o5 (by omega)).mono ?_
          rintro e w1 ⟨m6, rfl, o6, rfl⟩
          go_wp2
          go_meet
          case rel => exact ⟨m6, rfl, by rw [E2.out]; simpa [optTot, Int.add_assoc] using o6, rfl⟩
      case rest =>
        obtain ⟨m5, rfl, o5, rfl⟩ := hcut
        clear o4 p1 b2
        go_upto_if 60 with fail
        go_cut [0] (fun m wk => ∃ q : Int, m = .int .i64 q ∧ okN q (y + 64 + (ea.key.size : Int) + (ea.desc.size : Int) + (vn : Int) + optTot ea.tenant + optTot ea.user) ∧ wk = wc)
        case first =>
          rcases p2 with ⟨e1, e2⟩ | ⟨b, off, d, e1, e2, l1, l2, hd⟩
          · injection e1 with e1
            subst e1
            have E2 : Hid (ea.user = none) := e2
            clear e2
            go_wp2
            go_meet
            case rel => exact ⟨m5, rfl, by rw [E2.out]; simpa [optTot] using o5, rfl⟩
          · injection e1 with e1
            subst e1
            have d0 := hd.1
            have E2 : Hid (ea.user = some d) := e2
            clear hd e2
            go_wp2_with fail
            refine (zzAdd_ok _ _ _ _ o5 (by omega)).mono ?_
            rintro e w1 ⟨m6, rfl, o6, rfl⟩
            clear o5
            go_wp2_with fail
            refine (zzAdd_ok _ _ _ _ o6 (by omega)).mono ?_
            rintro e w1 ⟨m7, rfl, o7, rfl⟩
            go_wp2
            go_meet
            case rel => exact ⟨m7, rfl, by rw [E2.out]; simpa [optTot, Int.add_assoc] using o7, rfl⟩
        case rest =>
          obtain ⟨m6, rfl, o6, rfl⟩ := hcut
          clear o5 p2 b3
          have hm6 := o6.1
          have hm6' := o6.2.1
          by_cases ha : (1048576 : Int) < (ea.attrs.length : Int)
          · go_wp2
            go_ret
            exact ⟨_, rfl, okN.big _, GA⟩
          obtain ⟨z, hz⟩ : ∃ z, z = y + 64 + (ea.key.size : Int) + (ea.desc.size : Int) + (vn : Int) + optTot ea.tenant + optTot ea.user := ⟨_, rfl⟩
          rw [← hz] at o6
          have HZ : Hid (z = y + 64 + (ea.key.size : Int) + (ea.desc.size : Int) + (vn : Int) + optTot ea.tenant + optTot ea.user) := hz
          clear hz
          go_wp2
          go_loop [0, 7] (fun m i => ∃ j : Nat, ∃ q : Int, j ≤ ea.attrs.length ∧ i = .int .i64 j ∧ m = .int .i64 q ∧ okN q (z + amsTot (ea.attrs.take j))) (fun _ i => ea.attrs.length - (intOf i).toNat)
          case atStart => exact ⟨0, m6, Nat.zero_le _, rfl, rfl, by simpa [amsTot] using o6⟩
          case round =>
            obtain ⟨j, q2, hj, rfl, rfl, hq2⟩ := hrel
            have g0 := hq2.1
            have g1 := hq2.2.1
            by_cases hjt : j < ea.attrs.length
            · by_cases hbig2 : 1048576 < q2
              · go_wp2
                go_ret
                exact ⟨q2, rfl, hq2.over hbig2 _, GA⟩
              rcases p3 with ⟨e1, e2⟩ | ⟨b', off', sp', c', e1, l1', hc'⟩
              · rw [e2] at hjt; simp at hjt
              injection e1 with e1 _ e3
              subst e1; subst e3
              obtain ⟨rfl, _, _⟩ := l1' (by omega)
              have hAt := hc' j hjt
              have hTj := amsTot_take ea.attrs j hjt
              obtain ⟨am, ham⟩ : ∃ am, am = ea.attrs[j] := ⟨_, rfl⟩
              rw [← ham] at hAt hTj
              have HTJ : Hid (amsTot (ea.attrs.take (j + 1)) = amsTot (ea.attrs.take j) + am.tot) := hTj
              clear hTj ham hc'
              obtain ⟨d0, d1, d2, d3⟩ := hAt
              go_wp2_with fail
              refine (zzAdd_ok _ _ _ _ hq2 (by omega)).mono ?_
              rintro e w1 ⟨m7, rfl, o7, rfl⟩
              go_wp2_with fail
              refine (zzAdd_ok _ _ _ _ o7 (by omega)).mono ?_
              rintro e w1 ⟨m8, rfl, o8, rfl⟩
              clear o7
              go_wp2_with fail
              refine (zzAdd_ok _ _ _ _ o8 (by omega)).mono ?_
              rintro e w1 ⟨m9, rfl, o9, rfl⟩
              clear o8
              have O9 : okN m9 (z + amsTot (ea.attrs.take (j + 1))) := by
                rw [HTJ.out]; unfold Am.tot
                have e : z + (amsTot (ea.attrs.take j) + (32 + (am.name.size : Int) + (am.de.desc.size : Int))) = z + amsTot (ea.attrs.take j) + 32 + (am.name.size : Int) + (am.de.desc.size : Int) := by omega
                rw [e]; exact o9
              clear o9 hq2
              go_wp2
              go_round
              case rel => exact ⟨j + 1, m9, by omega, by go_num, rfl, O9⟩
              case measure => simp [intOf]; omega
            · have ej : ea.attrs.take j = ea.attrs := List.take_of_length_le (by omega)
              rw [ej] at hq2
              have R : okN q2 (x + regsTot (rs.take (k + 1))) := by
                rw [HT.out]; unfold Re.tot
                have e : x + (regsTot (rs.take k) + (64 + (ea.key.size : Int) + (ea.desc.size : Int) + verTot ea.ver + optTot ea.tenant + optTot ea.user + amsTot ea.attrs)) = z + amsTot ea.attrs := by
                  rw [HZ.out, HY.out, ← HVL.out]; omega
                rw [e]; exact hq2
              clear ej hq2 p3
              go_wp2
              go_roundw
              case rel => exact ⟨k + 1, q2, by omega, by go_num, rfl, R, GA⟩
              case measure => simp [intOf]; omega
    · have ek : rs.take k = rs := List.take_of_length_le (by omega)
      rw [ek] at hq
      clear ek hl
      go_wp2
      go_ret
      exact ⟨q, rfl, hq, hgr⟩

end Go.Proofs.Qxb6629102a
