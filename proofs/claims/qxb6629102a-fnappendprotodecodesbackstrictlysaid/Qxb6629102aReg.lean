import Derived.Test.Qxb6629102aDef
import Derived.Deep.DeepCutAuto
namespace Go.Proofs.Qxb6629102a
open Go.RowKit
set_option linter.unusedSimpArgs false
set_option linter.unusedVariables false

/-- an attribute -/
structure Am where
  name : ByteArray
  de : De
/-- a registration -/
structure Re where
  key : ByteArray
  desc : ByteArray
  tenant : Option De
  user : Option De
  attrs : List Am
  ver : Option (List UInt8)

/-! ### how they lie in memory -/
def DefAt (w : World) (b off : Nat) (d : De) : Prop :=
  w.cell? ⟨b, off, none⟩ = some (.string d.desc) ∧ w.cell? ⟨b, off + 1, none⟩ = some (.int .u8 (d.ty : Int)) ∧ w.cell? ⟨b, off + 2, none⟩ = some (.int .u8 (d.card : Int))
def AttrAt (w : World) (b off : Nat) (a : Am) : Prop := w.cell? ⟨b, off, none⟩ = some (.string a.name) ∧ DefAt w b (off + 1) a.de
def PtrIn (w : World) (lo hi : Nat) (p : Value) (o : Option De) : Prop :=
  (p = .pointer none ∧ o = none) ∨ ∃ b off d, p = .pointer (some ⟨b, off, none⟩) ∧ o = some d ∧ lo ≤ b ∧ b < hi ∧ DefAt w b off d
def AttrsIn (w : World) (lo hi : Nat) (v : Value) (ams : List Am) : Prop :=
  (v = .slice none 0 0 ∧ ams = []) ∨ ∃ b off sp c, v = .slice (some ⟨b, off, sp⟩) ams.length c ∧ (0 < ams.length → sp = none ∧ lo ≤ b ∧ b < hi) ∧ ∀ j (h : j < ams.length), AttrAt w b (off + j * 4) ams[j]
def VerIn (w : World) (lo hi : Nat) (v : Value) (o : Option (List UInt8)) : Prop :=
  (v = .slice none 0 0 ∧ o = none) ∨ ∃ b off sp c bs, v = .slice (some ⟨b, off, sp⟩) bs.length c ∧ o = some bs ∧ (0 < bs.length → sp = none ∧ lo ≤ b ∧ b < hi) ∧ At w b off bs

/-- the blocks from lo on, below hi, are ams they were -/
def Same (lo hi : Nat) (w w' : World) : Prop := ∀ k, lo ≤ k → k < hi → w'.heap[k]? = w.heap[k]?

theorem Same.cell {lo hi : Nat} {w w' : World} (h : Same lo hi w w') {b off : Nat} {v : Value} (h1 : lo ≤ b) (h2 : b < hi) (hc : w.cell? ⟨b, off, none⟩ = some v) : w'.cell? ⟨b, off, none⟩ = some v :=
  (World.cell?_of_block (h b h1 h2)).trans hc
theorem Same.defAt {lo hi : Nat} {w w' : World} (h : Same lo hi w w') {b off : Nat} {d : De} (h1 : lo ≤ b) (h2 : b < hi) (hc : DefAt w b off d) : DefAt w' b off d :=
  ⟨h.cell h1 h2 hc.1, h.cell h1 h2 hc.2.1, h.cell h1 h2 hc.2.2⟩
theorem Same.ptrIn {lo hi : Nat} {w w' : World} (h : Same lo hi w w') {p : Value} {o : Option De} (hp : PtrIn w lo hi p o) : PtrIn w' lo hi p o := by
  rcases hp with hp | ⟨b, off, d, h1, h2, h3, h4, h5⟩
  · exact .inl hp
  · exact .inr ⟨b, off, d, h1, h2, h3, h4, h.defAt h3 h4 h5⟩
theorem Same.attrsIn {lo hi : Nat} {w w' : World} (h : Same lo hi w w') {v : Value} {ams : List Am} (hp : AttrsIn w lo hi v ams) : AttrsIn w' lo hi v ams := by
  rcases hp with hp | ⟨b, off, sp, c, h1, h2, h3⟩
  · exact .inl hp
  · refine .inr ⟨b, off, sp, c, h1, h2, fun j hj => ?_⟩
    have ⟨_, a1, a2⟩ := h2 (by omega)
    exact ⟨h.cell a1 a2 (h3 j hj).1, h.defAt a1 a2 (h3 j hj).2⟩
theorem Same.verIn {lo hi : Nat} {w w' : World} (h : Same lo hi w w') {v : Value} {o : Option (List UInt8)} (hp : VerIn w lo hi v o) : VerIn w' lo hi v o := by
  rcases hp with hp | ⟨b, off, sp, c, bs, h1, h2, h3, h4⟩
  · exact .inl hp
  · refine .inr ⟨b, off, sp, c, bs, h1, h2, h3, fun j hj => ?_⟩
    have ⟨_, a1, a2⟩ := h3 (by omega)
    exact h.cell a1 a2 (h4 j hj)
theorem Same.of_grown {lo hi : Nat} {w w' : World} (hg : w.grownBy w' none) (hhi : hi ≤ w.heap.size) : Same lo hi w w' := fun k _ hk => hg.block k (by omega) (by simp)

theorem PtrIn.form {w : World} {lo hi : Nat} {p : Value} {o : Option De} (h : PtrIn w lo hi p o) : ∃ a, p = .pointer a := by
  rcases h with h | ⟨b, off, d, h, _⟩
  · exact ⟨_, h.1⟩
  · exact ⟨_, h⟩
theorem AttrsIn.form {w : World} {lo hi : Nat} {v : Value} {ams : List Am} (h : AttrsIn w lo hi v ams) : ∃ a n c, v = .slice a n c := by
  rcases h with h | ⟨b, off, sp, c, h, _⟩
  · exact ⟨_, _, _, h.1⟩
  · exact ⟨_, _, _, h⟩
theorem VerIn.form {w : World} {lo hi : Nat} {v : Value} {o : Option (List UInt8)} (h : VerIn w lo hi v o) : ∃ a n c, v = .slice a n c := by
  rcases h with h | ⟨b, off, sp, c, bs, h, _⟩
  · exact ⟨_, _, _, h.1⟩
  · exact ⟨_, _, _, h⟩

/-! ### what is written -/
def optEnc (tag : Nat) : Option De → List UInt8
  | none => []
  | some d => fld tag d.enc
def Am.enc (a : Am) : List UInt8 := fld 10 a.name.data.toList ++ fld 18 a.de.enc
def attrsEnc (ams : List Am) : List UInt8 := (ams.map fun a => fld 42 a.enc).flatten
def verEnc : Option (List UInt8) → List UInt8
  | none => []
  | some bs => fld 50 bs
def Re.enc (r : Re) : List UInt8 := fld 10 r.key.data.toList ++ fld 18 r.desc.data.toList ++ optEnc 26 r.tenant ++ optEnc 34 r.user ++ attrsEnc r.attrs ++ verEnc r.ver
def Am.ok (a : Am) : Prop := a.de.ok ∧ a.name.size ≤ 1048576
def Re.ok (r : Re) : Prop := (∀ d, r.tenant = some d → d.ok) ∧ (∀ d, r.user = some d → d.ok) ∧ (∀ a ∈ r.attrs, a.ok) ∧ r.key.size ≤ 1048576 ∧ r.desc.size ≤ 1048576 ∧ r.enc.length < 67108864

theorem OB.base {base base' : Nat} {w : World} {v : Value} {bs : List UInt8} (h : OB base w v bs) (hb : base' ≤ base) : OB base' w v bs := by
  refine ⟨h.1, ?_⟩
  rcases h.2 with h2 | ⟨g, cap, cur, h1, h2, h3⟩
  · exact .inl h2
  · exact .inr ⟨g, cap, cur, h1, by omega, h3⟩
theorem fld_length (tag : Nat) (m : List UInt8) : (fld tag m).length ≤ m.length + 5 := by
  have := vb_length m.length
  simp [fld]; omega
theorem De.enc_length (d : De) (h : d.ok) : d.enc.length ≤ 1048591 := by
  obtain ⟨h1, h2, h3⟩ := h
  have a := vb_length d.ty
  have b := vb_length d.card
  have c := fld_length 10 d.desc.data.toList
  have e : d.desc.data.toList.length = d.desc.size := rfl
  unfold De.enc
  split <;> simp <;> omega
theorem optEnc_length (tag : Nat) (o : Option De) (h : ∀ d, o = some d → d.ok) : (optEnc tag o).length ≤ 1048600 := by
  cases o with
  | none => simp [optEnc]
  | some d =>
    have a := De.enc_length d (h d rfl)
    have b := fld_length tag d.enc
    simp [optEnc]; omega
theorem attrsEnc_take (ams : List Am) (k : Nat) (h : k < ams.length) : attrsEnc (ams.take (k + 1)) = attrsEnc (ams.take k) ++ fld 42 (ams[k]).enc := by
  unfold attrsEnc
  rw [List.take_succ_eq_append_getElem h, List.map_append, List.flatten_append]
  simp
theorem attrsEnc_ge (ams : List Am) : ams.length ≤ (attrsEnc ams).length := by
  unfold attrsEnc
  induction ams with
  | nil => simp
  | cons a l ih =>
    simp only [List.map_cons, List.flatten_cons, List.length_append, List.length_cons]
    have : 1 ≤ (fld 42 a.enc).length := by simp [fld]
    omega
theorem attrsEnc_le (ams : List Am) (k : Nat) : (attrsEnc (ams.take k)).length ≤ (attrsEnc ams).length := by
  have e : attrsEnc ams = attrsEnc (ams.take k) ++ attrsEnc (ams.drop k) := by
    unfold attrsEnc
    rw [← List.flatten_append, ← List.map_append, List.take_append_drop]
  rw [e, List.length_append]; omega
theorem AttrsIn.len {w : World} {lo hi : Nat} {a : Option Addr} {n c : Nat} {ams : List Am} (h : AttrsIn w lo hi (.slice a n c) ams) : n = ams.length := by
  rcases h with ⟨h, rfl⟩ | ⟨b, off, sp, c, h, _⟩
  · injection h
  · injection h

set_option maxHeartbeats 1000000 in
theorem appendReg_any (lo hi : Nat) (r : Re) (t u a ve : Value) (w : World) (h1 : PtrIn w lo hi t r.tenant) (h2 : PtrIn w lo hi u r.user) (h3 : AttrsIn w lo hi a r.attrs) (h4 : VerIn w lo hi ve r.ver)
    (hhi : hi ≤ w.heap.size) (hok : r.ok) :
    Calls Try.prog 19 #[.slice none 0 0, .agg #[.string r.key, .string r.desc, t, u, a, ve]] w fun e w' => ∃ v', e = .returned v' ∧ OB w.heap.size w' v' r.enc ∧ w.grownBy w' none := by
  obtain ⟨key, desc, tn, us, ams, vr⟩ := r
  obtain ⟨k1, k2, k3, k4, k5, k6⟩ := hok
  simp only at h1 h2 h3 h4 k1 k2 k3 k4 k5
  obtain ⟨tg, htg⟩ : ∃ tg : List UInt8, tg = Re.enc ⟨key, desc, tn, us, ams, vr⟩ := ⟨_, rfl⟩
  rw [← htg] at k6 ⊢
  simp only
  have HT : Hid (tg = Re.enc ⟨key, desc, tn, us, ams, vr⟩) := htg
  clear htg
  have lk4 := vb_length key.size
  have ld4 := vb_length desc.size
  obtain ⟨pt, rfl⟩ := h1.form
  obtain ⟨pu, rfl⟩ := h2.form
  obtain ⟨aa, an, ac, rfl⟩ := h3.form
  obtain ⟨va, vn, vc, rfl⟩ := h4.form
  have SA : Same lo hi w (w.alloc (Obj.cells #[Value.string key, Value.string desc, .pointer pt, .pointer pu, .slice aa an ac, .slice va vn vc] 38)) := fun k _ hk => Below.heap_alloc _ _ _ (by omega)
  replace h1 := SA.ptrIn h1
  replace h2 := SA.ptrIn h2
  replace h3 := SA.attrsIn h3
  replace h4 := SA.verIn h4
  clear SA
  go_enter Try.func19, Try.ntmps19
  go_wp2_with fail
  refine (appendTag_any (w.heap.size + 1) _ [] _ _ _ (by omega) (by omega) (by omega) (OB.nil _ _) (by simp) (by simp)).mono ?_
  rintro e w1 ⟨m1, rfl, o1, A1⟩
  have q1 := A1.grown.cell (a := ⟨w.heap.size, 0, none⟩) (v := .string key) (by simp) (by simp [Value.ownBlock])
  have z1 := A1.grown.size
  simp at z1
  go_wp2_with fail
  refine (appendString_any (w.heap.size + 1) _ _ key _ o1 (by omega) (by simp; omega)).mono ?_
  rintro e w2 ⟨m2, rfl, o2, a2⟩
  have A2 := A1.trans a2
  clear o1 A1 a2 q1
  have z2 := A2.grown.size
  simp at z2
  go_wp2_with fail
  refine (appendTag_any (w.heap.size + 1) _ _ _ _ _ (by omega) (by omega) (by omega) o2 (by omega) (by simp; omega)).mono ?_
  rintro e w3 ⟨m3, rfl, o3, a3⟩
  have A3 := A2.trans a3
  clear o2 A2 a3
  have q3 := A3.grown.cell (a := ⟨w.heap.size, 1, none⟩) (v := .string desc) (by simp) (by simp [Value.ownBlock])
  have z3 := A3.grown.size
  simp at z3
  go_wp2_with fail
  refine (appendString_any (w.heap.size + 1) _ _ desc _ o3 (by omega) (by simp; omega)).mono ?_
  rintro e w4 ⟨m4, rfl, o4, a4⟩
  have A4 := A3.trans a4
  clear o3 A3 a4 q3
  have z4 := A4.grown.size
  simp at z4
  have q2 := A4.grown.cell (a := ⟨w.heap.size, 2, none⟩) (v := .pointer pt) (by simp) (by simp [Value.ownBlock])
  go_upto_if 22 with fail
  obtain ⟨b4, hb4⟩ : ∃ b4 : List UInt8, b4 = fld 10 key.data.toList ++ fld 18 desc.data.toList := ⟨_, rfl⟩
  replace o4 : OB (w.heap.size + 1) w4 m4 b4 := by rw [hb4]; simpa [fld] using o4
  have p4 : b4.length < 4194304 := by rw [hb4]; simp [fld]; omega
  have HB4 : Hid (b4 = fld 10 key.data.toList ++ fld 18 desc.data.toList) := hb4
  clear hb4
  go_cut [0] (fun b wk => OB (w.heap.size + 1) wk b (b4 ++ optEnc 26 tn) ∧ App (w.alloc (Obj.cells #[Value.string key, Value.string desc, .pointer pt, .pointer pu, .slice aa an ac, .slice va vn vc] 38)) (.slice none 0 0) wk b)
  case first =>
    rcases h1 with ⟨e1, e2⟩ | ⟨b, off, d, e1, e2, l1, l2, hd⟩
    · injection e1 with e1
      subst e1; subst e2
      go_wp2
      go_meet
      case rel => exact ⟨by simpa [optEnc] using o4, A4⟩
    · injection e1 with e1
      subst e1; subst e2
      have hdo := k1 d rfl
      obtain ⟨c0, c1, c2⟩ := (Same.of_grown (lo := lo) A4.grown (by simp; omega)).defAt l1 l2 hd
      clear hd h2 h3 h4
      go_wp2_with fail
      refine (appendDef_any (w.heap.size + 1) _ _ _ d _ (by omega) (by omega) hdo o4 (by omega) (by omega)).mono ?_
      rintro e w5 ⟨m5, rfl, o5, a5⟩
      go_wp2
      go_meet
      case rel => exact ⟨by simpa [optEnc] using o5, A4.trans a5⟩
  case rest =>
    obtain ⟨o5, A5⟩ := hcut
    clear o4 A4 q2
    have l5 := optEnc_length 26 tn k1
    have z5 := A5.grown.size
    simp at z5
    have q3 := A5.grown.cell (a := ⟨w.heap.size, 3, none⟩) (v := .pointer pu) (by simp) (by simp [Value.ownBlock])
    go_upto_if 31 with fail
    go_cut [0] (fun b wk => OB (w.heap.size + 1) wk b (b4 ++ optEnc 26 tn ++ optEnc 34 us) ∧ App (w.alloc (Obj.cells #[Value.string key, Value.string desc, .pointer pt, .pointer pu, .slice aa an ac, .slice va vn vc] 38)) (.slice none 0 0) wk b)
    case first =>
      rcases h2 with ⟨e1, e2⟩ | ⟨b, off, d, e1, e2, l1, l2, hd⟩
      · injection e1 with e1
        subst e1; subst e2
        go_wp2
        go_meet
        case rel => exact ⟨by simpa [optEnc] using o5, A5⟩
      · injection e1 with e1
        subst e1; subst e2
        have hdo := k2 d rfl
        obtain ⟨c0, c1, c2⟩ := (Same.of_grown (lo := lo) A5.grown (by simp; omega)).defAt l1 l2 hd
        clear hd h1 h3 h4
        go_wp2_with fail
        refine (appendDef_any (w.heap.size + 1) _ _ _ d _ (by omega) (by omega) hdo o5 (by omega) (by simp; omega)).mono ?_
        rintro e w6 ⟨m6, rfl, o6, a6⟩
        go_wp2
        go_meet
        case rel => exact ⟨by simpa [optEnc] using o6, A5.trans a6⟩
    case rest =>
      obtain ⟨o6, A6⟩ := hcut
      clear o5 A5 q3 h1 h2
      have l6 := optEnc_length 34 us k2
      have z6 := A6.grown.size
      simp at z6
      obtain ⟨b6, hb6⟩ : ∃ b6 : List UInt8, b6 = b4 ++ optEnc 26 tn ++ optEnc 34 us := ⟨_, rfl⟩
      rw [← hb6] at o6
      have eT : tg = b6 ++ attrsEnc ams ++ verEnc vr := by rw [HT.out, hb6, HB4.out]; simp [Re.enc]
      have lT : b6.length + (attrsEnc ams).length + (verEnc vr).length < 67108864 := by
        have := congrArg List.length eT
        simp at this; omega
      have ET : Hid (tg = b6 ++ attrsEnc ams ++ verEnc vr) := eT
      clear eT hb6 HT HB4 l6 l5 k1 k2 p4 b4 k4 k5 lk4 ld4 z1 z2 z3 z4 w1 w2 w3 w4 m1 m2 m3 m4
      obtain rfl := h3.len
      have q4 := A6.grown.cell (a := ⟨w.heap.size, 4, none⟩) (v := .slice aa ams.length ac) (by simp) (by simp [Value.ownBlock])
      have lA := attrsEnc_ge ams
      go_wp2_with fail
      go_loopw [0, 41] (fun b i wr => ∃ k : Nat, k ≤ ams.length ∧ i = .int .i64 k ∧ OB (w.heap.size + 1) wr b (b6 ++ attrsEnc (ams.take k)) ∧ App (w.alloc (Obj.cells #[Value.string key, Value.string desc, .pointer pt, .pointer pu, .slice aa ams.length ac, .slice va vn vc] 38)) (.slice none 0 0) wr b) (fun _ i _ => ams.length - (intOf i).toNat)
      case atStart => exact ⟨0, Nat.zero_le _, rfl, by simpa [attrsEnc] using o6, A6⟩
      case round =>
        obtain ⟨k, hk, rfl, or, Ar⟩ := hrel
        have zr := Ar.grown.size
        simp at zr
        have lk := attrsEnc_le ams k
        clear o6 A6 q4 z6
        by_cases hlt : k < ams.length
        · rcases h3 with ⟨e1, e2⟩ | ⟨b, off, sp, c, e1, l1, hc⟩
          · subst e2; simp at hlt
          injection e1 with e1 _ e3
          subst e1; subst e3
          obtain ⟨rfl, l1, l2⟩ := l1 (by omega)
          have S := Same.of_grown (lo := lo) (hi := hi) Ar.grown (by simp; omega)
          have hc0 := (hc k hlt).1
          have hc1 := (hc k hlt).2
          have ka := k3 ams[k] (List.getElem_mem hlt)
          obtain ⟨ea, hea⟩ : ∃ ea, ea = ams[k] := ⟨_, rfl⟩
          rw [← hea] at hc0 hc1 ka
          replace hc0 := S.cell l1 l2 hc0
          obtain ⟨g0, g1, g2⟩ := S.defAt l1 l2 hc1
          obtain ⟨ka1, ka2⟩ := ka
          have HEA : Hid (ea = ams[k]) := hea
          clear hea hc hc1 S h4
          have ln4 := vb_length ea.name.size
          go_wp2_with fail
          refine (appendTag_any (wr.heap.size + 1) _ [] _ _ _ (by omega) (by omega) (by omega) (OB.nil _ _) (by simp) (by simp)).mono ?_
          rintro e w1 ⟨m1, rfl, o1, A1⟩
          have y1 := A1.grown.size
          simp at y1
          have x1 := A1.grown.cell (a := ⟨wr.heap.size, 0, none⟩) (v := .string ea.name) (by simp) (by simp [Value.ownBlock])
          clear hc0 g0 g1 g2
          go_wp2_with fail
          refine (appendString_any (wr.heap.size + 1) _ _ ea.name _ o1 (by omega) (by simp; omega)).mono ?_
          rintro e w2 ⟨m2, rfl, o2, a2⟩
          have A2 := A1.trans a2
          clear o1 A1 a2 x1
          have y2 := A2.grown.size
          simp at y2
          have x2 := A2.grown.cell (a := ⟨wr.heap.size, 1, none⟩) (v := .string ea.de.desc) (by simp) (by simp [Value.ownBlock])
          have x3 := A2.grown.cell (a := ⟨wr.heap.size, 2, none⟩) (v := .int .u8 (ea.de.ty : Int)) (by simp) (by simp [Value.ownBlock])
          have x4 := A2.grown.cell (a := ⟨wr.heap.size, 3, none⟩) (v := .int .u8 (ea.de.card : Int)) (by simp) (by simp [Value.ownBlock])
          go_wp2_with fail
          refine (appendDef_any (wr.heap.size + 1) _ _ _ ea.de _ (by omega) (by omega) ka1 o2 (by omega) (by simp; omega)).mono ?_
          rintro e w3 ⟨m3, rfl, o3, a3⟩
          have A3 := A2.trans a3
          clear o2 A2 a3 x2 x3 x4
          obtain ⟨en, hen⟩ : ∃ en : List UInt8, en = ea.enc := ⟨_, rfl⟩
          have O3 : OB (wr.heap.size + 1) w3 m3 en := by rw [hen]; simpa [Am.enc, fld] using o3
          have hk1 := attrsEnc_take ams k hlt
          rw [← HEA.out, ← hen] at hk1
          have lk1 := attrsEnc_le ams (k + 1)
          rw [hk1, List.length_append] at lk1
          have hel : 0 < en.length := by rw [hen]; simp [Am.enc, fld]
          have hel1 : en.length ≤ (fld 42 en).length := by simp [fld]; omega
          have HK : Hid (attrsEnc (ams.take (k + 1)) = attrsEnc (ams.take k) ++ fld 42 en) := hk1
          clear hk1 hen o3 HEA
          have y3 := A3.grown.size
          simp at y3
          have orl := or.lt
          have or3 : OB (w.heap.size + 1) w3 u0 (b6 ++ attrsEnc (ams.take k)) := (or.alloc _).kept A3.grown (by cases u0.ownBlock <;> simp [Value.ownBlock])
          go_wp2_with fail
          refine (appendTag_any (w.heap.size + 1) _ _ _ _ _ (by omega) (by omega) (by omega) or3 (by omega) (by simp; omega)).mono ?_
          rintro e w4 ⟨v4, rfl, o4, a4⟩
          obtain ⟨g, cap, hm3, hg3, hg3'⟩ := World.ownsRow.form O3 hel
          subst hm3
          have At3 : At w3 g 0 en := At.of_own O3
          have hne3 : some g ≠ u0.ownBlock := fun e => by have := orl g e.symm; omega
          have At4 := a4.at_ At3 (fun _ => hne3)
          have hne4 : some g ≠ v4.ownBlock := a4.ne hg3' hne3
          have y4 := a4.grown.size
          go_wp2_with fail
          refine (appendBytes_any (w.heap.size + 1) _ _ en _ _ _ _ _ o4 (by omega) At4 (fun _ => rfl) (fun _ => hne4) (by simp; omega)).mono ?_
          rintro e w5 ⟨v5, rfl, o5, a5⟩
          have A5 := Ar.trans ((App.behind A3).trans (a4.trans a5))
          have O5 : OB (w.heap.size + 1) w5 v5 (b6 ++ attrsEnc (ams.take (k + 1))) := by rw [HK.out]; simpa [fld] using o5
          clear o4 a4 a5 o5 A3 or3 At3 At4 or
          go_wp2
          go_roundw
          case rel => exact ⟨k + 1, by omega, by go_num, O5, A5⟩
          case measure => simp [intOf]; omega
        · have ek : ams.take k = ams := List.take_of_length_le (by omega)
          rw [ek] at or
          have q5 := Ar.grown.cell (a := ⟨w.heap.size, 5, none⟩) (v := .slice va vn vc) (by simp) (by simp [Value.ownBlock])
          have hn := fun (wx : World) => run_neq_slice_nil_any (P := Try.prog) wx 23 5 va vn vc 0 0 Try.underlying23
          have wl := Ar.grown.block
          have nb : w.grownBy wr none := (World.grownBy_alloc w _ _).trans Ar.grown
          clear ek wl h3 lk
          rcases h4 with ⟨e1, e2⟩ | ⟨b, off, sp, c, bs, e1, e2, l1, hc⟩
          · injection e1 with e1 e1' e1''
            subst e1; subst e1'; subst e1''; subst e2
            go_wp2
            go_ret
            refine ⟨u0, rfl, ?_, nb⟩
            rw [ET.out]
            simpa [verEnc] using or.base (by omega)
          · injection e1 with e1 e1' e1''
            subst e1; subst e1'; subst e1''; subst e2
            have orl := or.lt
            have l2 : bs.length ≤ (verEnc (some bs)).length := by simp [verEnc, fld]; omega
            have hcr : At wr b off bs := hc.kept Ar.grown (fun _ => by simp [Value.ownBlock])
            have hne : 0 < bs.length → some b ≠ u0.ownBlock := fun h e => by
              have := l1 h
              have e2 : u0.ownBlock = some b := e.symm
              have := World.ownsRow.lt or b e2
              omega
            go_wp2_with fail
            refine (appendTag_any (w.heap.size + 1) _ _ _ _ _ (by omega) (by omega) (by omega) or (by omega) (by simp; omega)).mono ?_
            rintro e w4 ⟨v4, rfl, o4, a4⟩
            have At4 := a4.at_ hcr hne
            have hne4 : 0 < bs.length → some b ≠ v4.ownBlock := fun h => a4.ne (by have := l1 h; omega) (hne h)
            have y4 := a4.grown.size
            have q6 := a4.grown.cell q5 (by intro e; have := World.ownsRow.lt or _ e.symm; simp at this; omega)
            go_wp2_with fail
            refine (appendBytes_any (w.heap.size + 1) _ _ bs _ _ _ _ _ o4 (by omega) At4 (fun h => (l1 h).1) hne4 (by simp; omega)).mono ?_
            rintro e w5 ⟨v5, rfl, o5, a5⟩
            have A5 := Ar.trans (a4.trans a5)
            go_wp2
            go_ret
            refine ⟨v5, rfl, ?_, (World.grownBy_alloc w _ _).trans A5.grown⟩
            rw [ET.out]
            have o6 := o5.base (base' := w.heap.size) (by omega)
            simpa [verEnc, fld] using o6

end Go.Proofs.Qxb6629102a
