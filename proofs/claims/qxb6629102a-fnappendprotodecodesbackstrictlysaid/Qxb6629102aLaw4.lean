import Derived.Test.Qxb6629102aAud
import Derived.Test.Qxb6629102aAcc
import Derived.Test.Qxb6629102aDec
import Derived.Test.Qxb6629102aSome
namespace Go.Proofs.Qxb6629102a
open Go.RowKit
set_option linter.unusedSimpArgs false
set_option linter.unusedVariables false

/-- zzClone, of a buffer: a row of the call's own, or nil -/
theorem cloneB_any (lo hi : Nat) (v : Value) (o : Option (List UInt8)) (w : World) (hv : VerIn w lo hi v o) (hl : (o.getD []).length ≤ 1048576) :
    Calls Try.prog 7 #[v] w fun e w' => ∃ v', e = .returned v' ∧ OB w.heap.size w' v' (o.getD []) ∧ w.grownBy w' none := by
  rcases hv with ⟨rfl, rfl⟩ | ⟨b, off, sp, c, bs, rfl, rfl, h1, h2⟩
  · refine (clone_nil w).mono ?_
    rintro e w' ⟨rfl, rfl⟩
    exact ⟨_, rfl, OB.nil _ _, World.grownBy.refl _ _⟩
  · refine (clone_some w b off c sp bs h2 (fun h => (h1 h).1) hl).mono ?_
    rintro e w' ⟨rfl, ho, hg⟩
    exact ⟨_, rfl, ho, hg⟩

/-- a slice value that reads as the bytes bs -/
def RB (w : World) (v : Value) (bs : List UInt8) : Prop := ∃ a c, v = .slice a bs.length c ∧ (0 < bs.length → ∃ b off, a = some ⟨b, off, none⟩ ∧ At w b off bs)
theorem OB.form {base : Nat} {w : World} {v : Value} {bs : List UInt8} (h : OB base w v bs) : (v = .slice none 0 0 ∧ bs = []) ∨ ∃ g cap, v = .slice (some ⟨g, 0, none⟩) bs.length cap ∧ bs.length ≤ cap ∧ base ≤ g ∧ g < w.heap.size ∧ At w g 0 bs := by
  have h0 := h
  have hlt := h.lt
  rcases h.2 with ⟨h1, h2⟩ | ⟨g, cap, cur, rfl, hb, hg, hnc, _⟩
  · exact .inl ⟨h1, List.eq_nil_of_length_eq_zero h2⟩
  · exact .inr ⟨g, cap, rfl, hnc, hb, hlt g rfl, At.of_own h0⟩

set_option maxHeartbeats 400000 in
theorem countNil (w : World) : Calls Try.prog 14 #[.slice none 0 0] w fun e w' => e = .returned (.int .i64 0) ∧ w = w' := by
  go_enter Try.func14, Try.ntmps14
  go_wp2
  refine wp_loop_rounds 1 ?_
  rw [rounds_succ]
  go_wp2
  go_ret
  exact ⟨rfl, rfl⟩

/-! ### the sizes that the counter bounds -/
def De.wf (d : De) : Prop := d.ty < 256 ∧ d.card < 256
def Re.wf (r : Re) : Prop := (∀ d, r.tenant = some d → d.wf) ∧ (∀ d, r.user = some d → d.wf) ∧ (∀ a ∈ r.attrs, a.de.wf)
theorem De.enc_tot (d : De) : (d.enc.length : Int) ≤ (d.desc.size : Int) + 15 := by
  have a := vb_length d.ty
  have b := vb_length d.card
  have c := fld_length 10 d.desc.data.toList
  have e : d.desc.data.toList.length = d.desc.size := rfl
  unfold De.enc
  split <;> simp <;> omega
theorem optEnc_tot (tag : Nat) (o : Option De) : ((optEnc tag o).length : Int) ≤ 2 * optTot o := by
  cases o with
  | none => simp [optEnc, optTot]
  | some d =>
    have a := De.enc_tot d
    have b := fld_length tag d.enc
    simp only [optEnc, optTot]; omega
theorem optTot_nonneg (o : Option De) : 0 ≤ optTot o := by cases o <;> simp [optTot]; omega
theorem Am.enc_tot (a : Am) : ((fld 42 a.enc).length : Int) ≤ a.tot := by
  have h1 := fld_length 42 a.enc
  have h2 := fld_length 10 a.name.data.toList
  have h3 := fld_length 18 a.de.enc
  have h4 := De.enc_tot a.de
  have e : a.name.data.toList.length = a.name.size := rfl
  have h5 : a.enc.length = (fld 10 a.name.data.toList).length + (fld 18 a.de.enc).length := by simp [Am.enc]
  unfold Am.tot; omega
theorem amsTot_nonneg (l : List Am) : 0 ≤ amsTot l := by
  induction l with
  | nil => simp [amsTot]
  | cons a l ih => simp only [amsTot, Am.tot]; omega
theorem amsEnc_tot (l : List Am) : ((attrsEnc l).length : Int) ≤ amsTot l := by
  induction l with
  | nil => simp [attrsEnc, amsTot]
  | cons a l ih =>
    have h := Am.enc_tot a
    have e : (attrsEnc (a :: l)).length = (fld 42 a.enc).length + (attrsEnc l).length := by simp [attrsEnc]
    simp only [amsTot]; omega
theorem amsTot_mem (l : List Am) (a : Am) (h : a ∈ l) : a.tot ≤ amsTot l := by
  induction l with
  | nil => cases h
  | cons b l ih =>
    have h0 := amsTot_nonneg l
    simp only [amsTot]
    rcases List.mem_cons.1 h with rfl | h
    · omega
    · have := ih h; simp only [Am.tot] at this ⊢; omega
theorem amsTot_len (l : List Am) : (l.length : Int) ≤ amsTot l := by
  induction l with
  | nil => simp [amsTot]
  | cons b l ih => simp only [amsTot, Am.tot, List.length_cons]; omega
theorem verTot_nonneg (o : Option (List UInt8)) : 0 ≤ verTot o := by cases o <;> simp [verTot]
theorem Re.tot_pos (r : Re) : 64 ≤ r.tot := by
  have a := optTot_nonneg r.tenant
  have b := optTot_nonneg r.user
  have c := amsTot_nonneg r.attrs
  have d := verTot_nonneg r.ver
  unfold Re.tot; omega
theorem Re.enc_tot (r : Re) : (r.enc.length : Int) ≤ 2 * r.tot - 5 := by
  have h1 := fld_length 10 r.key.data.toList
  have h2 := fld_length 18 r.desc.data.toList
  have h3 := optEnc_tot 26 r.tenant
  have h4 := optEnc_tot 34 r.user
  have h5 := amsEnc_tot r.attrs
  have e1 : r.key.data.toList.length = r.key.size := rfl
  have e2 : r.desc.data.toList.length = r.desc.size := rfl
  have h6 : ((verEnc r.ver).length : Int) ≤ verTot r.ver + 5 := by
    cases hv : r.ver with
    | none => simp [verEnc, verTot]
    | some bs => have := fld_length 50 bs; simp only [verEnc, verTot]; omega
  have e3 : r.enc.length = (fld 10 r.key.data.toList).length + (fld 18 r.desc.data.toList).length + (optEnc 26 r.tenant).length + (optEnc 34 r.user).length + (attrsEnc r.attrs).length + (verEnc r.ver).length := by simp [Re.enc]; omega
  have a := optTot_nonneg r.tenant
  have b := optTot_nonneg r.user
  have c := amsTot_nonneg r.attrs
  have d := verTot_nonneg r.ver
  unfold Re.tot; omega
theorem Re.ok_of (r : Re) (hw : r.wf) (ht : r.tot ≤ 1048576) : r.ok := by
  have a := optTot_nonneg r.tenant
  have b := optTot_nonneg r.user
  have c := amsTot_nonneg r.attrs
  have d := verTot_nonneg r.ver
  have e := r.enc_tot
  obtain ⟨w1, w2, w3⟩ := hw
  have ht' := ht
  unfold Re.tot at ht
  refine ⟨fun d hd => ?_, fun d hd => ?_, fun a ha => ?_, by omega, by omega, by omega⟩
  · have := w1 d hd
    have e2 : optTot r.tenant = 16 + (d.desc.size : Int) := by rw [hd]; rfl
    exact ⟨this.1, this.2, by omega⟩
  · have := w2 d hd
    have e2 : optTot r.user = 16 + (d.desc.size : Int) := by rw [hd]; rfl
    exact ⟨this.1, this.2, by omega⟩
  · have h1 := w3 a ha
    have h2 := amsTot_mem r.attrs a ha
    unfold Am.tot at h2
    exact ⟨⟨h1.1, h1.2, by omega⟩, by omega⟩
theorem regsTot_nonneg (l : List Re) : 0 ≤ regsTot l := by
  induction l with
  | nil => simp [regsTot]
  | cons a l ih => have := a.tot_pos; simp only [regsTot]; omega
theorem regsEnc_tot (l : List Re) : ((regsEnc l).length : Int) ≤ 2 * regsTot l := by
  induction l with
  | nil => simp [regsEnc, regsTot]
  | cons a l ih =>
    have h := a.enc_tot
    have h2 := fld_length 10 a.enc
    have e : (regsEnc (a :: l)).length = (fld 10 a.enc).length + (regsEnc l).length := by simp [regsEnc]
    simp only [regsTot]; omega
theorem regsTot_mem (l : List Re) (a : Re) (h : a ∈ l) : a.tot ≤ regsTot l := by
  induction l with
  | nil => cases h
  | cons b l ih =>
    have h0 := regsTot_nonneg l
    have h1 := b.tot_pos
    simp only [regsTot]
    rcases List.mem_cons.1 h with rfl | h
    · omega
    · have := ih h; omega
theorem regsTot_len (l : List Re) : (l.length : Int) ≤ regsTot l := by
  induction l with
  | nil => simp [regsTot]
  | cons b l ih => have := b.tot_pos; simp only [regsTot, List.length_cons]; omega
theorem Re.small (r : Re) (ht : r.tot ≤ 1048576) : (∀ bs, r.ver = some bs → bs.length ≤ 1048576) ∧ r.attrs.length ≤ 1048576 := by
  have a := optTot_nonneg r.tenant
  have b := optTot_nonneg r.user
  have c := amsTot_len r.attrs
  have c' := amsTot_nonneg r.attrs
  have d := verTot_nonneg r.ver
  unfold Re.tot at ht
  refine ⟨fun bs hb => ?_, by omega⟩
  rw [hb] at ht
  simp only [verTot] at ht
  omega

end Go.Proofs.Qxb6629102a
