import Derived.Test.Qxb6629102aReg
namespace Go.Proofs.Qxb6629102a
open Go.RowKit
set_option linter.unusedSimpArgs false
set_option linter.unusedVariables false

def RegAt (w : World) (lo hi b off : Nat) (r : Re) : Prop := ∃ t u a ve,
  w.cell? ⟨b, off, none⟩ = some (.string r.key) ∧ w.cell? ⟨b, off + 1, none⟩ = some (.string r.desc) ∧ w.cell? ⟨b, off + 2, none⟩ = some t ∧ w.cell? ⟨b, off + 3, none⟩ = some u ∧ w.cell? ⟨b, off + 4, none⟩ = some a ∧ w.cell? ⟨b, off + 5, none⟩ = some ve ∧
  PtrIn w lo hi t r.tenant ∧ PtrIn w lo hi u r.user ∧ AttrsIn w lo hi a r.attrs ∧ VerIn w lo hi ve r.ver
def RegsIn (w : World) (lo hi : Nat) (v : Value) (rs : List Re) : Prop :=
  (v = .slice none 0 0 ∧ rs = []) ∨ ∃ b off sp c, v = .slice (some ⟨b, off, sp⟩) rs.length c ∧ (0 < rs.length → sp = none ∧ lo ≤ b ∧ b < hi) ∧ ∀ i (h : i < rs.length), RegAt w lo hi b (off + i * 6) rs[i]

theorem Same.regAt {lo hi : Nat} {w w' : World} (h : Same lo hi w w') {b off : Nat} {r : Re} (h1 : lo ≤ b) (h2 : b < hi) (hr : RegAt w lo hi b off r) : RegAt w' lo hi b off r := by
  obtain ⟨t, u, a, ve, c0, c1, c2, c3, c4, c5, p1, p2, p3, p4⟩ := hr
  exact ⟨t, u, a, ve, h.cell h1 h2 c0, h.cell h1 h2 c1, h.cell h1 h2 c2, h.cell h1 h2 c3, h.cell h1 h2 c4, h.cell h1 h2 c5, h.ptrIn p1, h.ptrIn p2, h.attrsIn p3, h.verIn p4⟩
theorem Same.regsIn {lo hi : Nat} {w w' : World} (h : Same lo hi w w') {v : Value} {rs : List Re} (hp : RegsIn w lo hi v rs) : RegsIn w' lo hi v rs := by
  rcases hp with hp | ⟨b, off, sp, c, h1, h2, h3⟩
  · exact .inl hp
  · refine .inr ⟨b, off, sp, c, h1, h2, fun j hj => ?_⟩
    have ⟨_, a1, a2⟩ := h2 (by omega)
    exact h.regAt a1 a2 (h3 j hj)
theorem RegsIn.form {w : World} {lo hi : Nat} {v : Value} {rs : List Re} (h : RegsIn w lo hi v rs) : ∃ a c, v = .slice a rs.length c := by
  rcases h with ⟨h, rfl⟩ | ⟨b, off, sp, c, h, _⟩
  · exact ⟨_, _, h⟩
  · exact ⟨_, _, h⟩

def regsEnc (rs : List Re) : List UInt8 := (rs.map fun r => fld 10 r.enc).flatten
theorem regsEnc_take (rs : List Re) (k : Nat) (h : k < rs.length) : regsEnc (rs.take (k + 1)) = regsEnc (rs.take k) ++ fld 10 (rs[k]).enc := by
  unfold regsEnc
  rw [List.take_succ_eq_append_getElem h, List.map_append, List.flatten_append]
  simp
theorem regsEnc_append (a b : List Re) : regsEnc (a ++ b) = regsEnc a ++ regsEnc b := by
  unfold regsEnc
  rw [List.map_append, List.flatten_append]
theorem regsEnc_ge (rs : List Re) : rs.length ≤ (regsEnc rs).length := by
  unfold regsEnc
  induction rs with
  | nil => simp
  | cons a l ih =>
    simp only [List.map_cons, List.flatten_cons, List.length_append, List.length_cons]
    have : 1 ≤ (fld 10 a.enc).length := by simp [fld]
    omega
theorem regsEnc_le (rs : List Re) (k : Nat) : (regsEnc (rs.take k)).length ≤ (regsEnc rs).length := by
  have e : regsEnc rs = regsEnc (rs.take k) ++ regsEnc (rs.drop k) := by
    rw [← regsEnc_append, List.take_append_drop]
  rw [e, List.length_append]; omega

/-- v does not lie in the blocks from lo on below hi -/
def Out (lo hi : Nat) (v : Value) : Prop := ∀ g, v.ownBlock = some g → g < lo ∨ hi ≤ g
theorem App.same {lo hi : Nat} {w w' : World} {v v' : Value} (h : App w v w' v') (ho : Out lo hi v) (hhi : hi ≤ w.heap.size) : Same lo hi w w' :=
  fun k h1 h2 => h.grown.block k (by omega) (fun e => by have := ho k e.symm; omega)
theorem App.out {lo hi : Nat} {w w' : World} {v v' : Value} (h : App w v w' v') (ho : Out lo hi v) (hhi : hi ≤ w.heap.size) : Out lo hi v' := by
  intro g e
  rcases h.lies with e2 | ⟨g2, e2, hg⟩
  · exact ho g (e2 ▸ e)
  · rw [e2] at e; cases e; omega

theorem App.of_alloc0 {w w' : World} {v v' : Value} {o : Obj} (h : App (w.alloc o) v w' v') : App w v w' v' := by
  refine ⟨(World.grownBy_alloc w o _).trans h.grown, ?_⟩
  rcases h.lies with e | ⟨g, e, hg⟩
  · exact .inl e
  · exact .inr ⟨g, e, by simp at hg; omega⟩
theorem App.of_none {w w' : World} {v : Value} (h : w.grownBy w' none) : App w v w' v :=
  ⟨⟨h.os, h.tape, h.output, h.size, fun k hk _ => h.block k hk (by simp)⟩, .inl rfl⟩

set_option maxHeartbeats 1000000 in
theorem appendProto_any (lo hi base : Nat) (rs : List Re) (lv v : Value) (bs : List UInt8) (w : World) (hl : RegsIn w lo hi lv rs) (hhi : hi ≤ w.heap.size) (hok : ∀ r ∈ rs, r.ok)
    (hown : OB base w v bs) (hb : base ≤ w.heap.size) (hdis : Out lo hi v) (hlen : bs.length + (regsEnc rs).length < 134217728) :
    Calls Try.prog 9 #[lv, v] w fun e w' => ∃ v', e = .returned v' ∧ OB base w' v' (bs ++ regsEnc rs) ∧ App w v w' v' := by
  obtain ⟨la, lc, rfl⟩ := hl.form
  have lA := regsEnc_ge rs
  go_enter Try.func9, Try.ntmps9
  go_wp2_with fail
  go_loopw [1, 9] (fun b i wr => ∃ k : Nat, k ≤ rs.length ∧ i = .int .i64 k ∧ OB base wr b (bs ++ regsEnc (rs.take k)) ∧ App w v wr b) (fun _ i _ => rs.length - (intOf i).toNat)
  case atStart => exact ⟨0, Nat.zero_le _, rfl, by simpa [regsEnc] using hown, App.refl _ _⟩
  case round =>
    obtain ⟨k, hk, rfl, or, Ar⟩ := hrel
    have zr := Ar.grown.size
    have lk := regsEnc_le rs k
    by_cases hlt : k < rs.length
    · have S := Ar.same hdis hhi
      have D := Ar.out hdis hhi
      rcases hl with ⟨e1, e2⟩ | ⟨b, off, sp, c, e1, l1, hc⟩
      · subst e2; simp at hlt
      injection e1 with e1 _ e3
      subst e1; subst e3
      obtain ⟨rfl, l1, l2⟩ := l1 (by omega)
      have hr := S.regAt l1 l2 (hc k hlt)
      have ka := hok rs[k] (List.getElem_mem hlt)
      obtain ⟨ea, hea⟩ : ∃ ea, ea = rs[k] := ⟨_, rfl⟩
      rw [← hea] at hr ka
      have HEA : Hid (ea = rs[k]) := hea
      obtain ⟨t, u, a, ve, c0, c1, c2, c3, c4, c5, p1, p2, p3, p4⟩ := hr
      clear hea hc S hown hok
      obtain ⟨pt, rfl⟩ := p1.form
      obtain ⟨pu, rfl⟩ := p2.form
      obtain ⟨aa, an, ac, rfl⟩ := p3.form
      obtain ⟨va, vn, vc, rfl⟩ := p4.form
      have SA : Same lo hi wr (wr.alloc (.cells #[.string ea.key, .string ea.desc, .pointer pt, .pointer pu, .slice aa an ac, .slice va vn vc] 38)) := fun k _ hk => Below.heap_alloc _ _ _ (by omega)
      replace p1 := SA.ptrIn p1
      replace p2 := SA.ptrIn p2
      replace p3 := SA.attrsIn p3
      replace p4 := SA.verIn p4
      have hk1 := regsEnc_take rs k hlt
      rw [← HEA.out] at hk1
      have lk1 := regsEnc_le rs (k + 1)
      rw [hk1, List.length_append] at lk1
      have hel1 : ea.enc.length ≤ (fld 10 ea.enc).length := by simp [fld]; omega
      have HK : Hid (regsEnc (rs.take (k + 1)) = regsEnc (rs.take k) ++ fld 10 ea.enc) := hk1
      have orl := or.lt
      clear hk1 HEA SA
      go_wp2_with fail
      refine (appendTag_any base _ _ _ _ _ (by omega) (by omega) (by omega) (or.alloc _) (by simp; omega) (by simp; omega)).mono ?_
      rintro e w1 ⟨v1, rfl, o1, a1⟩
      have S1 := a1.same D (by simp; omega)
      replace p1 := S1.ptrIn p1
      replace p2 := S1.ptrIn p2
      replace p3 := S1.attrsIn p3
      replace p4 := S1.verIn p4
      have z1 := a1.grown.size
      simp at z1
      have bx : w1.heap[wr.heap.size]? = some (.cells #[.string ea.key, .string ea.desc, .pointer pt, .pointer pu, .slice aa an ac, .slice va vn vc] 38) :=
        (a1.grown.block wr.heap.size (by simp) (fun e => by have := orl _ e.symm; omega)).trans (heap_alloc_new wr _)
      have f0 : w1.cell? ⟨wr.heap.size, 0, none⟩ = some (.string ea.key) := by rw [cell_of_row w1 _ 0 _ _ _ bx]; rfl
      have f1 : w1.cell? ⟨wr.heap.size, 1, none⟩ = some (.string ea.desc) := by rw [cell_of_row w1 _ 1 _ _ _ bx]; rfl
      have f2 : w1.cell? ⟨wr.heap.size, 2, none⟩ = some (.pointer pt) := by rw [cell_of_row w1 _ 2 _ _ _ bx]; rfl
      have f3 : w1.cell? ⟨wr.heap.size, 3, none⟩ = some (.pointer pu) := by rw [cell_of_row w1 _ 3 _ _ _ bx]; rfl
      have f4 : w1.cell? ⟨wr.heap.size, 4, none⟩ = some (.slice aa an ac) := by rw [cell_of_row w1 _ 4 _ _ _ bx]; rfl
      have f5 : w1.cell? ⟨wr.heap.size, 5, none⟩ = some (.slice va vn vc) := by rw [cell_of_row w1 _ 5 _ _ _ bx]; rfl
      clear bx c0 c1 c2 c3 c4 c5
      go_wp2_with fail
      refine (appendReg_any lo hi ea _ _ _ _ _ p1 p2 p3 p4 (by omega) ka).mono ?_
      rintro e w2 ⟨m2, rfl, o2, g2⟩
      have z2 := g2.size
      have o1l := o1.lt
      have o12 := o1.kept g2 (by cases v1.ownBlock <;> simp)
      obtain ⟨g, cap, hm2, hg2, hg2'⟩ := World.ownsRow.form o2 (by simp [Re.enc, fld])
      subst hm2
      have At2 : At w2 g 0 ea.enc := At.of_own o2
      have hne2 : some g ≠ v1.ownBlock := fun e => by have := o1l g e.symm; omega
      clear f0 f1 f2 f3 f4 f5 p1 p2 p3 p4 S1
      go_wp2_with fail
      refine (appendBytes_any base _ _ ea.enc _ _ _ _ _ o12 (by omega) At2 (fun _ => rfl) (fun _ => hne2) (by simp; omega)).mono ?_
      rintro e w3 ⟨v3, rfl, o3, a3⟩
      have A3 : App w v w3 v3 := Ar.trans ((App.of_alloc0 a1).trans ((App.of_none g2).trans a3))
      have O3 : OB base w3 v3 (bs ++ regsEnc (rs.take (k + 1))) := by rw [HK.out]; simpa [fld] using o3
      clear o1 a1 o12 a3 o3 At2
      go_wp2
      go_roundw
      case rel => exact ⟨k + 1, by omega, by go_num, O3, A3⟩
      case measure => simp [intOf]; omega
    · have ek : rs.take k = rs := List.take_of_length_le (by omega)
      rw [ek] at or
      clear ek hl hown
      go_wp2
      go_ret
      exact ⟨u1, rfl, or, Ar⟩

end Go.Proofs.Qxb6629102a
