import Derived.Test.Qxb6629102aDr
namespace Go.Proofs.Qxb6629102a
open Go.RowKit
set_option linter.unusedSimpArgs false
set_option linter.unusedVariables false

theorem Try.info43 : (Try.prog.info? 43).map (fun i => (i.zero, i.size, i.bytes)) = some (some (.agg #[.string ByteArray.empty, .string ByteArray.empty, .pointer none, .pointer none, .slice none 0 0, .slice none 0 0]), 6, 96) := by kernel_rfl

/-- the j-th registration of the row xs, what it points to in blocks from lo on, below hi -/
def RegOf (W : World) (xs : List Value) (j lo hi : Nat) (r : Re) : Prop := ∃ t u a ve, xs[j * 6]? = some (.string r.key) ∧ xs[j * 6 + 1]? = some (.string r.desc) ∧ xs[j * 6 + 2]? = some t ∧ xs[j * 6 + 3]? = some u ∧ xs[j * 6 + 4]? = some a ∧ xs[j * 6 + 5]? = some ve ∧
  PtrIn W lo hi t r.tenant ∧ PtrIn W lo hi u r.user ∧ AttrsIn W lo hi a r.attrs ∧ VerIn W lo hi ve r.ver
/-- the list that grows: k registrations stand in it -/
def LAll (W : World) (N : Nat) (v : Value) (xs : List Value) (k : Nat) (rs : List Re) : Prop :=
  ∀ j (h : j < rs.length), j < k → ∃ lo hi, N ≤ lo ∧ hi ≤ W.heap.size ∧ (∀ g, v.ownBlock = some g → g < lo ∨ hi ≤ g) ∧ RegOf W xs j lo hi rs[j]
theorem RegOf.same {W W' : World} {xs : List Value} {j lo hi : Nat} {r : Re} (h : RegOf W xs j lo hi r) (S : Same lo hi W W') : RegOf W' xs j lo hi r := by
  obtain ⟨t, u, a, ve, c0, c1, c2, c3, c4, c5, p1, p2, p3, p4⟩ := h
  exact ⟨t, u, a, ve, c0, c1, c2, c3, c4, c5, S.ptrIn p1, S.ptrIn p2, S.attrsIn p3, S.verIn p4⟩
theorem RegOf.more {W : World} {xs ys : List Value} {j lo hi : Nat} {r : Re} (h : RegOf W xs j lo hi r) (hl : j * 6 + 5 < xs.length) : RegOf W (xs ++ ys) j lo hi r := by
  obtain ⟨t, u, a, ve, c0, c1, c2, c3, c4, c5, p⟩ := h
  refine ⟨t, u, a, ve, ?_, ?_, ?_, ?_, ?_, ?_, p⟩ <;> (rw [List.getElem?_append_left (by omega)]; assumption)
theorem LAll.next {W W1 W2 W3 : World} {N k g : Nat} {v v' : Value} {xs : List Value} {rs : List Re} {ea : Re} {t u a ve : Value} (h : LAll W N v xs k rs) (hN : N ≤ W.heap.size) (hxs : xs.length = k * 6) (hk : k < rs.length) (hea : ea = rs[k]) (hv : ∀ g, v.ownBlock = some g → g < W.heap.size)
    (g1 : W.grownBy W1 none) (p1 : PtrIn W1 W.heap.size W1.heap.size t ea.tenant) (p2 : PtrIn W1 W.heap.size W1.heap.size u ea.user) (p3 : AttrsIn W1 W.heap.size W1.heap.size a ea.attrs) (p4 : VerIn W1 W.heap.size W1.heap.size ve ea.ver)
    (g2 : W1.grownBy W2 none) (g3 : W2.grownBy W3 v.ownBlock) (hat : v.ownBlock = some g ∨ g = W2.heap.size) (hv' : v'.ownBlock = some g) :
    LAll W3 N v' (xs ++ [.string ea.key, .string ea.desc, t, u, a, ve]) (k + 1) rs := by
  have z1 := g1.size
  have z2 := g2.size
  have z3 := g3.size
  intro j hj hjk
  by_cases e : j = k
  · subst e
    have S : Same W.heap.size W1.heap.size W1 W3 := (Same.of_grown g2 (Nat.le_refl _)).trans (fun i h1 h2 => g3.block i (by omega) (by intro e; have := hv i e.symm; omega))
    refine ⟨W.heap.size, W1.heap.size, hN, by omega, ?_, ?_⟩
    · intro g' e'
      rw [hv'] at e'
      injection e' with e'
      subst e'
      rcases hat with hat | hat
      · left; exact hv _ hat
      · right; omega
    · rw [← hea]
      refine ⟨t, u, a, ve, ?_, ?_, ?_, ?_, ?_, ?_, S.ptrIn p1, S.ptrIn p2, S.attrsIn p3, S.verIn p4⟩
      · rw [List.getElem?_append_right (by omega), hxs, Nat.sub_self]; rfl
      · rw [List.getElem?_append_right (by omega), hxs, Nat.add_sub_cancel_left]; rfl
      · rw [List.getElem?_append_right (by omega), hxs, Nat.add_sub_cancel_left]; rfl
      · rw [List.getElem?_append_right (by omega), hxs, Nat.add_sub_cancel_left]; rfl
      · rw [List.getElem?_append_right (by omega), hxs, Nat.add_sub_cancel_left]; rfl
      · rw [List.getElem?_append_right (by omega), hxs, Nat.add_sub_cancel_left]; rfl
  · obtain ⟨lo, hi, h1, h2, h3, h4⟩ := h j hj (by omega)
    have S : Same lo hi W W3 := (Same.of_grown (none_trans g1 g2) h2).trans (fun i i1 i2 => g3.block i (by omega) (by intro e; have := h3 i e.symm; omega))
    refine ⟨lo, hi, h1, by omega, ?_, (h4.same S).more (by omega)⟩
    intro g' e'
    rw [hv'] at e'
    injection e' with e'
    subst e'
    rcases hat with hat | hat
    · exact h3 _ hat
    · right; omega
theorem LAll.done {W : World} {N : Nat} {v : Value} {xs : List Value} {rs : List Re} (h : LAll W N v xs rs.length rs) (ho : W.ownsRow N 43 6 v rs.length xs) : RegsIn W N W.heap.size v rs := by
  rcases ho.2 with ⟨e, h0⟩ | ⟨g, cap, cur, rfl, hb, hg, _⟩
  · exact .inl ⟨e, List.length_eq_zero_iff.1 h0⟩
  · have hlt : g < W.heap.size := (Array.getElem?_eq_some_iff.1 hg).1
    refine .inr ⟨g, 0, none, cap, rfl, fun _ => ⟨rfl, hb, hlt⟩, ?_⟩
    intro j hj
    obtain ⟨lo, hi, h1, h2, h3, t, u, a, ve, c0, c1, c2, c3, c4, c5, p1, p2, p3, p4⟩ := h j hj hj
    have hc : ∀ i, i < 6 → W.cell? ⟨g, 0 + j * 6 + i, none⟩ = xs[j * 6 + i]? := by
      intro i hi
      rw [← ho.cellAt (j * 6 + i) (by omega), Nat.zero_add]
    exact ⟨t, u, a, ve, (hc 0 (by omega)).trans c0, (hc 1 (by omega)).trans c1, (hc 2 (by omega)).trans c2, (hc 3 (by omega)).trans c3, (hc 4 (by omega)).trans c4, (hc 5 (by omega)).trans c5, p1.wide h1 h2, p2.wide h1 h2, p3.wide h1 h2, p4.wide h1 h2⟩
theorem regsEnc_drop (l : List Re) (k : Nat) (h : k < l.length) : regsEnc (l.drop k) = fld 10 (l[k]).enc ++ regsEnc (l.drop (k + 1)) := by
  rw [List.drop_eq_getElem_cons h]; unfold regsEnc; rw [List.map_cons, List.flatten_cons]
theorem Re.enc_pos (r : Re) : 0 < r.enc.length := by unfold Re.enc fld; simp
theorem regsEnc_zero (l : List Re) (h : (regsEnc l).length = 0) : l = [] := by
  have := regsEnc_ge l
  exact List.length_eq_zero_iff.1 (by omega)

set_option maxHeartbeats 2000000 in
set_option maxRecDepth 100000 in
/-- zzDecodeList, at an empty slice -/
theorem decList_nil (w : World) (a : Option Addr) (c : Nat) :
    Calls Try.prog 11 #[.slice a 0 c] w fun e w' => e = .returned (.tuple #[.slice none 0 0, .bool true]) ∧ w' = w := by
  go_enter Try.func11, Try.ntmps11
  go_wp2_with fail
  refine wp_loop_rounds 1 ?_
  rw [rounds_succ]
  go_wp2
  refine bodyPost_ret (v := .tuple #[.slice none 0 0, .bool true]) (by simp [results, Try.results11, go_sem]) rfl ⟨rfl, rfl⟩

set_option maxHeartbeats 2000000 in
set_option maxRecDepth 100000 in
/-- zzDecodeList, at the bytes of registrations -/
theorem decList_some (w : World) (b off c : Nat) (rs : List Re) (hok : ∀ r ∈ rs, r.ok) (hat : At w b off (regsEnc rs)) (hc : (regsEnc rs).length ≤ c) (hl : (regsEnc rs).length < 67108864) :
    Calls Try.prog 11 #[.slice (some ⟨b, off, none⟩) (regsEnc rs).length c] w fun e w' => ∃ a' c', e = .returned (.tuple #[.slice a' rs.length c', .bool true]) ∧ RegsIn w' w.heap.size w'.heap.size (.slice a' rs.length c') rs ∧ w.grownBy w' none := by
  have hge := regsEnc_ge rs
  obtain ⟨p, hp⟩ : ∃ p : List UInt8, p = regsEnc rs := ⟨_, rfl⟩
  rw [← hp] at hat hc hl hge ⊢
  have D0 : p.drop 0 = regsEnc (rs.drop 0) := by rw [hp]; simp
  have hat2 : ∀ {wx : World}, w.grownBy wx none → At wx b off p := fun hg => hat.kept hg (fun _ => by simp)
  clear hp
  go_enter Try.func11, Try.ntmps11
  go_wp2_with fail
  go_loopw [4, 5] (fun s4 s5 wr => ∃ (k P : Nat) (aa : Option Addr) (ac : Nat) (xs : List Value), k ≤ rs.length ∧ s4 = .slice aa k ac ∧ s5 = .int .i64 (P : Int) ∧ p.drop P = regsEnc (rs.drop k) ∧ P ≤ p.length ∧ w.grownBy wr none ∧ wr.ownsRow w.heap.size 43 6 (.slice aa k ac) k xs ∧ LAll wr w.heap.size (.slice aa k ac) xs k rs) (fun _ s5 _ => p.length - (intOf s5).toNat)
  case atStart => exact ⟨0, 0, none, 0, [], Nat.zero_le _, rfl, rfl, D0, Nat.zero_le _, World.grownBy.refl _ _, ⟨rfl, .inl ⟨rfl, rfl⟩⟩, fun j h hj => absurd hj (Nat.not_lt_zero _)⟩
  case round =>
    obtain ⟨k, P, aa, ac, xs, hk, rfl, rfl, dP, hP, hgr, hown, hall⟩ := hrel
    have hA0 := hat2 hgr
    by_cases hlt : k < rs.length
    · rw [regsEnc_drop rs k hlt] at dP
      have hao := hok rs[k] (List.getElem_mem hlt)
      obtain ⟨ea, hea⟩ : ∃ ea, ea = rs[k] := ⟨_, rfl⟩
      rw [← hea] at dP hao
      have HEA : Hid (ea = rs[k]) := hea
      obtain ⟨R5, hR5⟩ : ∃ R, R = regsEnc (rs.drop (k + 1)) := ⟨_, rfl⟩
      rw [← hR5] at dP
      obtain ⟨A3, hA3⟩ : ∃ A, A = P + 1 + (vb ea.enc.length).length := ⟨_, rfl⟩
      obtain ⟨E3, hE3⟩ : ∃ E, E = A3 + ea.enc.length := ⟨_, rfl⟩
      have hin := drop_in dP hA3
      have hnx := drop_next dP (E := E3) (by omega)
      rw [hR5] at hnx
      have lpos := Re.enc_pos ea
      have hsub := hA0.sub A3 hin
      have lin := congrArg List.length hin
      rw [List.length_drop, List.length_append] at lin
      have hE3l : E3 ≤ p.length := by omega
      have hA3c : ¬ A3 = c := by omega
      have hcl : ea.enc.length ≤ c - A3 := by omega
      have iAE : A3 ≤ E3 := by omega
      have iPE : P < E3 := by omega
      have iPp : (P : Int) < (p.length : Int) := by omega
      have hlim : k + 1 ≤ 67108864 := by omega
      have L3 : Hid (E3 - A3 = ea.enc.length) := (by omega : E3 - A3 = ea.enc.length)
      have K1 : Hid (A3 = P + 1 + (vb ea.enc.length).length) := hA3
      have K2 : Hid (E3 = A3 + ea.enc.length) := hE3
      have HD : Hid (p.drop P = fld 10 ea.enc ++ R5) := dP
      have HNX : Hid (p.drop E3 = regsEnc (rs.drop (k + 1))) := hnx
      have zw := hgr.size
      clear hin hnx dP hA3 hE3 lin hR5 hea
      go_wp2_with fail
      refine (fieldE _ b off c p ea.enc _ _ _ P 10 A3 E3 rfl rfl K1.out K2.out hA0 HD.out (by omega) (by omega)).mono ?_
      rintro e w1 ⟨rfl, rfl⟩
      go_wp2_with fail
      rw [L3.out]
      refine (decReg_any _ b (off + A3) _ ea hao hsub hcl).mono ?_
      rintro e w1 ⟨t', u', a', ve', rfl, d1, d2, d3, d4, g1⟩
      obtain ⟨pt, rfl⟩ := d1.form
      obtain ⟨pu, rfl⟩ := d2.form
      obtain ⟨a4, n4, c4, rfl⟩ := d3.form
      obtain ⟨va, vn, vc, rfl⟩ := d4.form
      have own1 := hown.kept g1 (by cases (Value.slice aa k ac).ownBlock <;> simp)
      have z1 := g1.size
      obtain ⟨i0, hi, hz0, hz1, hz2⟩ := info_parts Try.info43
      go_wp2_with (at_builtin; go_loud (refine wpList_append_lies _ rfl _ _ 22 rfl w.heap.size 43 i0 _ 6 96 Try.underlying22 hi hz0 hz1 hz2 rfl (by decide) (.slice aa k ac) k xs rfl ((own1.alloc _).alloc _) ⟨w1.heap.size + 1, 0, none⟩ 1 1 [.string ea.key, .string ea.desc, .pointer pt, .pointer pu, .slice a4 n4 c4, .slice va vn vc] rfl rfl (cells_newT _ 43 #[.string ea.key, .string ea.desc, .pointer pt, .pointer pu, .slice a4 n4 c4, .slice va vn vc] _ (by simp)) (by simp [Value.oneCell']) (by decide) (by unfold maxLen; omega) (by omega) (by simp; omega) (w1.heap.size + 2) (by simp) ?_; intro g cap w2 hown2 hgrow hat hlt2))
      have hall2 := hall.next (v' := .slice (some ⟨g, 0, none⟩) (k + 1) cap) zw hown.1 hlt HEA.out (fun j e => (World.ownsRow.lt hown j e).2) g1 d1 d2 d3 d4 (none_alloc2 _ _ _) hgrow (by simpa using hat) rfl
      have hg2 : w.grownBy w2 none := World.grownBy.andThen (none_trans hgr (none_trans g1 (none_alloc2 _ _ _))) hgrow (fun j e => .inl (World.ownsRow.lt hown j e).1)
      go_roundw
      case rel => exact ⟨k + 1, E3, _, _, _, hlt, rfl, rfl, HNX.out, hE3l, hg2, hown2, hall2⟩
      case measure => simp [intOf]; omega
    · have hkk : k = rs.length := by omega
      subst hkk
      rw [List.drop_length] at dP
      have lp := congrArg List.length dP
      rw [List.length_drop] at lp
      have iPp : (p.length : Int) ≤ (P : Int) := by simp [regsEnc] at lp; omega
      clear dP lp hlt
      go_wp2
      refine bodyPost_ret (v := .tuple #[.slice aa rs.length ac, .bool true]) (by simp [results, Try.results11, go_sem]) rfl ⟨_, _, rfl, hall.done hown, hgr⟩

end Go.Proofs.Qxb6629102a
