import Derived.Test.Qxb6629102aDd
import Derived.Test.Qxb6629102aAud
namespace Go.Proofs.Qxb6629102a
open Go.RowKit
set_option linter.unusedSimpArgs false
set_option linter.unusedVariables false

/-- while a registration is read: nothing old turned; the result's row; what the variable r holds -/
structure DS (w wk : World) (cs : Array Value) : Prop where
  grown : w.grownBy wk none
  res : Row wk w.heap.size 43 6
  box : wk.heap[w.heap.size + 1]? = some (.cells cs 43 (0, 0))
theorem DS.lt {w wk : World} {cs : Array Value} (h : DS w wk cs) : w.heap.size + 1 < wk.heap.size := (Array.getElem?_eq_some_iff.1 h.box).1
theorem DS.step {w wk wl : World} {cs : Array Value} (h : DS w wk cs) (hg : wk.grownBy wl none) : DS w wl cs :=
  ⟨none_trans h.grown hg, h.res.kept hg (by simp), (hg.block _ h.lt (by simp)).trans h.box⟩
theorem DS.cell {w wk : World} {cs : Array Value} (h : DS w wk cs) (j : Nat) {v : Value} (hj : j < cs.size) (hv : cs[j] = v) : wk.cell? ⟨w.heap.size + 1, j, none⟩ = some v := by
  rw [cell_of_row wk _ j cs 43 _ h.box, Array.getElem?_eq_getElem hj, hv]
theorem DS.frozen {w wk : World} {cs : Array Value} (h : DS w wk cs) (j : Nat) : wk.frozen? ⟨w.heap.size + 1, j, none⟩ = false := Row.frozen ⟨cs, h.box, rfl⟩ j
theorem grownBy_setCell1 (w : World) (g o : Nat) (v : Value) : w.grownBy (w.setCell ⟨g, o, none⟩ v) (some g) := grownBy_setCells g [v] o w
theorem DS.set {w wk : World} {cs : Array Value} (h : DS w wk cs) (j : Nat) (v : Value) : DS w (wk.setCell ⟨w.heap.size + 1, j, none⟩ v) (cs.setIfInBounds j v) := by
  have hg := grownBy_setCell1 wk (w.heap.size + 1) j v
  refine ⟨none_of_some h.grown hg (by omega), h.res.kept hg (by intro e; injection e; omega), ?_⟩
  show (wk.heap.modify (w.heap.size + 1) _)[w.heap.size + 1]? = _
  rw [Array.getElem?_modify, if_pos rfl, h.box]
  rfl
theorem DS.mk0 (w : World) (z cs : Array Value) (hz : z.size = 6) : DS w ((w.alloc (.cells z 43)).alloc (.cells cs 43)) cs := by
  refine ⟨none_alloc2 _ _ _, ⟨z, ?_, hz⟩, ?_⟩
  · rw [Below.heap_alloc _ _ _ (by simp)]; exact heap_alloc_new w _
  · have h := heap_alloc_new (w.alloc (.cells z 43)) (.cells cs 43)
    simpa using h
/-- all that the walk asks of the box -/
theorem DS.all {w wk : World} {a b c d e f : Value} (h : DS w wk #[a, b, c, d, e, f]) :
    wk.cell? ⟨w.heap.size + 1, 0, none⟩ = some a ∧ wk.cell? ⟨w.heap.size + 1, 1, none⟩ = some b ∧ wk.cell? ⟨w.heap.size + 1, 2, none⟩ = some c ∧ wk.cell? ⟨w.heap.size + 1, 3, none⟩ = some d ∧ wk.cell? ⟨w.heap.size + 1, 4, none⟩ = some e ∧ wk.cell? ⟨w.heap.size + 1, 5, none⟩ = some f :=
  ⟨h.cell 0 (by simp) rfl, h.cell 1 (by simp) rfl, h.cell 2 (by simp) rfl, h.cell 3 (by simp) rfl, h.cell 4 (by simp) rfl, h.cell 5 (by simp) rfl⟩

/-- R begins with another byte than tag, or is empty -/
def NoTag (R : List UInt8) (tag : Nat) : Prop := R = [] ∨ ∃ x R', R = x :: R' ∧ x.toNat ≠ tag
theorem ofNat_toNat (n : Nat) (h : n < 256) : (UInt8.ofNat n).toNat = n := UInt8.toNat_ofNat_of_lt' (by simpa using h)
theorem NoTag.fld {tag t : Nat} {m rest : List UInt8} (h : t ≠ tag) (ht : t < 256) : NoTag (Go.Proofs.Qxb6629102a.fld t m ++ rest) tag := .inr ⟨_, _, rfl, by rw [ofNat_toNat t ht]; exact h⟩
theorem NoTag.opt {tag t : Nat} {o : Option De} {rest : List UInt8} (h : t ≠ tag) (ht : t < 256) (hr : NoTag rest tag) : NoTag (optEnc t o ++ rest) tag := by
  cases o with
  | none => exact hr
  | some d => exact NoTag.fld h ht
theorem NoTag.attrs {tag : Nat} {l : List Am} {rest : List UInt8} (h : 42 ≠ tag) (hr : NoTag rest tag) : NoTag (attrsEnc l ++ rest) tag := by
  cases l with
  | nil => exact hr
  | cons a l =>
    have e : attrsEnc (a :: l) ++ rest = Go.Proofs.Qxb6629102a.fld 42 a.enc ++ (attrsEnc l ++ rest) := by simp [attrsEnc]
    rw [e]; exact NoTag.fld h (by omega)
theorem NoTag.ver {tag : Nat} (o : Option (List UInt8)) (h : 50 ≠ tag) : NoTag (verEnc o) tag := by
  cases o with
  | none => exact .inl rfl
  | some bs =>
    have e : verEnc (some bs) = Go.Proofs.Qxb6629102a.fld 50 bs ++ [] := by simp [verEnc]
    rw [e]; exact NoTag.fld h (by omega)
/-- what the test finds that finds no such tag -/
theorem NoTag.at_ {w : World} {b off P tag : Nat} {p R : List UInt8} (h : NoTag R tag) (hat : At w b off p) (hd : p.drop P = R) (hP : P ≤ p.length) :
    P = p.length ∨ ∃ x : UInt8, P < p.length ∧ w.cell? ⟨b, off + P, none⟩ = some (.int .u8 (x.toNat : Int)) ∧ (((x.toNat : Int) == (tag : Int)) = false) := by
  rcases h with h | ⟨x, R', h, hx⟩
  · left
    rw [h] at hd
    have := congrArg List.length hd
    rw [List.length_drop] at this
    simp at this; omega
  · right
    rw [h] at hd
    have hc := hat.cellAt P hd 0 x rfl
    exact ⟨x, hc.1, hc.2, by rw [beq_eq_false_iff_ne]; omega⟩
/-- what the test finds that finds the tag -/
theorem tag_at {w : World} {b off P tag : Nat} {p m rest : List UInt8} (hat : At w b off p) (hd : p.drop P = fld tag m ++ rest) (ht : tag < 256) : P < p.length ∧ w.cell? ⟨b, off + P, none⟩ = some (.int .u8 (tag : Int)) := by
  have hc := hat.cellAt P hd 0 (UInt8.ofNat tag) rfl
  rw [bv_ofNat tag ht] at hc
  exact hc

theorem De.enc_pos (d : De) : 0 < d.enc.length := by unfold De.enc; simp; omega
theorem lt_more {a b : Nat} (h : a < b) : a < b + 1 ∧ a < b + 1 + 1 := ⟨by omega, by omega⟩
theorem drop_next {p m rest : List UInt8} {i tag E : Nat} (h : p.drop i = fld tag m ++ rest) (hE : E = i + 1 + (vb m.length).length + m.length) : p.drop E = rest := by
  have h1 : (p.drop i).drop (1 + (vb m.length).length + m.length) = rest := by
    rw [h, ← List.drop_drop, drop_fld0]; simp
  rw [List.drop_drop] at h1
  rw [hE, ← h1]; congr 1; omega
theorem drop_in {p m rest : List UInt8} {i tag A : Nat} (h : p.drop i = fld tag m ++ rest) (hA : A = i + 1 + (vb m.length).length) : p.drop A = m ++ rest := by
  have h1 : (p.drop i).drop (1 + (vb m.length).length) = m ++ rest := by rw [h, drop_fld0]
  rw [List.drop_drop] at h1
  rw [hA, ← h1]; congr 1; omega

theorem setCell_size (w : World) (a : Addr) (v : Value) : (w.setCell a v).heap.size = w.heap.size := by simp [World.setCell]
/-- the new definition's block, stored in the box -/
theorem DS.def_ {w wc : World} {cs : Array Value} (D : DS w wc cs) (j : Nat) (v : Value) (o1 o2 : Obj) (d : De) :
    DS w ((((wc.setCell ⟨w.heap.size + 1, j, none⟩ v).alloc o1).alloc o2).alloc (.cells #[.string d.desc, .int .u8 (d.ty : Int), .int .u8 (d.card : Int)] 45)) (cs.setIfInBounds j v) ∧
    ∀ pt, pt = Value.pointer (some ⟨wc.heap.size + 1 + 1, 0, none⟩) → ∀ L : Nat, L = (((wc.setCell ⟨w.heap.size + 1, j, none⟩ v).alloc o1).alloc o2).heap.size + 1 → PtrIn ((((wc.setCell ⟨w.heap.size + 1, j, none⟩ v).alloc o1).alloc o2).alloc (.cells #[.string d.desc, .int .u8 (d.ty : Int), .int .u8 (d.card : Int)] 45)) (w.heap.size + 2) L pt (some d) := by
  refine ⟨(D.set j v).step (none_trans (none_alloc2 _ _ _) (World.grownBy_alloc _ _ _)), ?_⟩
  rintro pt rfl L rfl
  have hs : (((wc.setCell ⟨w.heap.size + 1, j, none⟩ v).alloc o1).alloc o2).heap.size = wc.heap.size + 1 + 1 := by simp [World.setCell]
  have hl := D.lt
  refine .inr ⟨_, _, d, rfl, rfl, by omega, by omega, ?_⟩
  rw [← hs]
  refine ⟨?_, ?_, ?_⟩ <;> (rw [cell_of_row _ _ _ _ _ _ (heap_alloc_new _ _)]; rfl)

theorem Same.trans {lo hi : Nat} {a b c : World} (h : Same lo hi a b) (k : Same lo hi b c) : Same lo hi a c := fun i h1 h2 => (k i h1 h2).trans (h i h1 h2)
theorem same_set {w wc : World} (j : Nat) (v : Value) {W : World} (h : (wc.setCell ⟨w.heap.size + 1, j, none⟩ v).grownBy W none) : Same (w.heap.size + 2) wc.heap.size wc W :=
  Same.of_grownS ((grownBy_setCell1 wc (w.heap.size + 1) j v).trans (h.but _)) (by omega) (Nat.le_refl _)
theorem none_alloc3 (w : World) (o1 o2 o3 : Obj) : w.grownBy (((w.alloc o1).alloc o2).alloc o3) none := none_trans (none_alloc2 _ _ _) (World.grownBy_alloc _ _ _)
theorem DS.far {w wk wl : World} {cs : Array Value} {row : Option Nat} (h : DS w wk cs) (hg : wk.grownBy wl row) (hr : ∀ g, row = some g → w.heap.size + 2 ≤ g) : DS w wl cs := by
  refine ⟨⟨hg.os.trans h.grown.os, hg.tape.trans h.grown.tape, hg.output.trans h.grown.output, Nat.le_trans h.grown.size hg.size, fun i hi _ => ?_⟩, h.res.kept hg ?_, (hg.block _ h.lt ?_).trans h.box⟩
  · refine (hg.block i (Nat.lt_of_lt_of_le hi h.grown.size) ?_).trans (h.grown.block i hi (by simp))
    intro e; have := hr i e.symm; omega
  · intro e; have := hr _ e.symm; omega
  · intro e; have := hr _ e.symm; omega

def amCells (a : Am) : List Value := [.string a.name, .string a.de.desc, .int .u8 (a.de.ty : Int), .int .u8 (a.de.card : Int)]
def amsCells (l : List Am) : List Value := (l.map amCells).flatten
theorem amsCells_take (l : List Am) (k : Nat) (h : k < l.length) : amsCells (l.take (k + 1)) = amsCells (l.take k) ++ amCells l[k] := by
  unfold amsCells; rw [List.take_succ_eq_append_getElem h, List.map_append, List.flatten_append]; simp
theorem attrsEnc_drop (l : List Am) (k : Nat) (h : k < l.length) (R : List UInt8) : attrsEnc (l.drop k) ++ R = fld 42 (l[k]).enc ++ (attrsEnc (l.drop (k + 1)) ++ R) := by
  rw [List.drop_eq_getElem_cons h]; unfold attrsEnc; rw [List.map_cons, List.flatten_cons, List.append_assoc]
theorem same_far {lo hi : Nat} {w w' : World} {row : Option Nat} (hg : w.grownBy w' row) (hr : ∀ g, row = some g → hi ≤ g) (hhi : hi ≤ w.heap.size) : Same lo hi w w' := fun k _ hk => hg.block k (by omega) (by intro e; have := hr k e.symm; omega)
theorem Am.enc_pos (a : Am) : 0 < a.enc.length := by unfold Am.enc fld; simp
theorem amsCells_len (l : List Am) : (amsCells l).length = l.length * 4 := by
  induction l with
  | nil => rfl
  | cons a l ih =>
    have e : amsCells (a :: l) = amCells a ++ amsCells l := rfl
    rw [e, List.length_append, ih]; simp [amCells]; omega
theorem amsCells_get (l : List Am) : ∀ (j : Nat) (h : j < l.length) (i : Nat), i < 4 → (amsCells l)[j * 4 + i]? = (amCells l[j])[i]? := by
  induction l with
  | nil => intro j h; cases h
  | cons a l ih =>
    intro j h i hi
    have e : amsCells (a :: l) = amCells a ++ amsCells l := rfl
    have le : (amCells a).length = 4 := rfl
    rw [e]
    cases j with
    | zero => rw [List.getElem?_append_left (by omega)]; simp
    | succ j =>
      rw [List.getElem?_append_right (by omega), le, show (j + 1) * 4 + i - 4 = j * 4 + i by omega]
      exact ih j (by simpa using h) i hi
theorem AttrsIn.of_own {w : World} {base lo : Nat} {v : Value} {l : List Am} (h : w.ownsRow base 47 4 v l.length (amsCells l)) (hlo : lo ≤ base) : AttrsIn w lo w.heap.size v l := by
  rcases h.2 with ⟨e, h0⟩ | ⟨g, cap, cur, rfl, hb, hg, _⟩
  · exact .inl ⟨e, List.length_eq_zero_iff.1 h0⟩
  · have hlt : g < w.heap.size := (Array.getElem?_eq_some_iff.1 hg).1
    refine .inr ⟨g, 0, none, cap, rfl, fun _ => ⟨rfl, by omega, hlt⟩, ?_⟩
    intro j hj
    have hc : ∀ i, i < 4 → w.cell? ⟨g, 0 + j * 4 + i, none⟩ = (amCells l[j])[i]? := by
      intro i hi
      rw [← amsCells_get l j hj i hi, ← h.cellAt (j * 4 + i) (by omega), Nat.zero_add]
    exact ⟨hc 0 (by omega), hc 1 (by omega), hc 2 (by omega), hc 3 (by omega)⟩
theorem cells_newT (w : World) (t : TypeId) (cs : Array Value) (a : Nat) (ha : a = w.heap.size) : ∀ (j : Nat) (u : Value), cs.toList[j]? = some u → (w.alloc (.cells cs t)).cell? ((⟨a, 0, none⟩ : Addr).add j) = some u := by
  subst ha; exact World.news_of_block (heap_alloc_new w (.cells cs t))
theorem Try.info47 : (Try.prog.info? 47).map (fun i => (i.zero, i.size, i.bytes)) = some (some (.agg #[.string ByteArray.empty, .string ByteArray.empty, .int .u8 0, .int .u8 0]), 4, 40) := by kernel_rfl

/-- the result is laid: what is handed back -/
theorem dec_fin {w wk : World} {x0 x1 t u a ve : Value} {r : Re} (D : DS w wk #[x0, x1, t, u, a, ve]) (hT : PtrIn wk (w.heap.size + 2) wk.heap.size t r.tenant) (hU : PtrIn wk (w.heap.size + 2) wk.heap.size u r.user) (hA : AttrsIn wk (w.heap.size + 2) wk.heap.size a r.attrs) (hV : VerIn wk (w.heap.size + 2) wk.heap.size ve r.ver) {W : World}
    (hW : W = ((((((wk.setCell ⟨w.heap.size, 0, none⟩ x0).setCell ⟨w.heap.size, 1, none⟩ x1).setCell ⟨w.heap.size, 2, none⟩ t).setCell ⟨w.heap.size, 3, none⟩ u).setCell ⟨w.heap.size, 4, none⟩ a).setCell ⟨w.heap.size, 5, none⟩ ve)) :
    (W.cell? ⟨w.heap.size, 0, none⟩ = some x0 ∧ W.cell? ⟨w.heap.size, 1, none⟩ = some x1 ∧ W.cell? ⟨w.heap.size, 2, none⟩ = some t ∧ W.cell? ⟨w.heap.size, 3, none⟩ = some u ∧ W.cell? ⟨w.heap.size, 4, none⟩ = some a ∧ W.cell? ⟨w.heap.size, 5, none⟩ = some ve) ∧
    PtrIn W w.heap.size W.heap.size t r.tenant ∧ PtrIn W w.heap.size W.heap.size u r.user ∧ AttrsIn W w.heap.size W.heap.size a r.attrs ∧ VerIn W w.heap.size W.heap.size ve r.ver ∧ w.grownBy W none := by
  have L := laid6 x0 x1 t u a ve D.res
  rw [← hW] at L
  have S : Same (w.heap.size + 2) wk.heap.size wk W := Same.of_grownS L.grown (by omega) (Nat.le_refl _)
  have z := L.grown.size
  refine ⟨⟨?_, ?_, ?_, ?_, ?_, ?_⟩, (S.ptrIn hT).wide (by omega) z, (S.ptrIn hU).wide (by omega) z, (S.attrsIn hA).wide (by omega) z, (S.verIn hV).wide (by omega) z, none_of_some D.grown L.grown (Nat.le_refl _)⟩
  · have := L.new 0 (by simp); simpa using this
  · have := L.new 1 (by simp); simpa using this
  · have := L.new 2 (by simp); simpa using this
  · have := L.new 3 (by simp); simpa using this
  · have := L.new 4 (by simp); simpa using this
  · have := L.new 5 (by simp); simpa using this

theorem dec_ver {w wc w1 w2 : World} {x0 x1 t u a v0 : Value} {n : Nat} {r : Re} {bs : List UInt8} (D2 : DS w w2 #[x0, x1, t, u, a, v0]) (hT : PtrIn wc (w.heap.size + 2) wc.heap.size t r.tenant) (hU : PtrIn wc (w.heap.size + 2) wc.heap.size u r.user) (hA : AttrsIn wc (w.heap.size + 2) wc.heap.size a r.attrs)
    (hgrow : wc.grownBy w1 none) (hg : w1.grownBy w2 (some wc.heap.size)) (ho : OB wc.heap.size w2 (.slice (some ⟨wc.heap.size, 0, none⟩) bs.length bs.length) bs) (hv : r.ver = some bs) (hn : n = bs.length) (zN : w.heap.size + 2 ≤ wc.heap.size) {W : World}
    (hW : W = (((((((w2.setCell ⟨w.heap.size + 1, 5, none⟩ (.slice (some ⟨wc.heap.size, 0, none⟩) n n)).setCell ⟨w.heap.size, 0, none⟩ x0).setCell ⟨w.heap.size, 1, none⟩ x1).setCell ⟨w.heap.size, 2, none⟩ t).setCell ⟨w.heap.size, 3, none⟩ u).setCell ⟨w.heap.size, 4, none⟩ a).setCell ⟨w.heap.size, 5, none⟩ (.slice (some ⟨wc.heap.size, 0, none⟩) n n))) :
    (W.cell? ⟨w.heap.size, 0, none⟩ = some x0 ∧ W.cell? ⟨w.heap.size, 1, none⟩ = some x1 ∧ W.cell? ⟨w.heap.size, 2, none⟩ = some t ∧ W.cell? ⟨w.heap.size, 3, none⟩ = some u ∧ W.cell? ⟨w.heap.size, 4, none⟩ = some a ∧ W.cell? ⟨w.heap.size, 5, none⟩ = some (.slice (some ⟨wc.heap.size, 0, none⟩) n n)) ∧
    PtrIn W w.heap.size W.heap.size t r.tenant ∧ PtrIn W w.heap.size W.heap.size u r.user ∧ AttrsIn W w.heap.size W.heap.size a r.attrs ∧ VerIn W w.heap.size W.heap.size (.slice (some ⟨wc.heap.size, 0, none⟩) n n) r.ver ∧ w.grownBy W none := by
  subst hn
  have D3 := D2.set 5 (.slice (some ⟨wc.heap.size, 0, none⟩) bs.length bs.length)
  have hs := grownBy_setCell1 w2 (w.heap.size + 1) 5 (.slice (some ⟨wc.heap.size, 0, none⟩) bs.length bs.length)
  have y1 := hgrow.size
  have y2 := hg.size
  have y3 := hs.size
  have S : Same (w.heap.size + 2) wc.heap.size wc (w2.setCell ⟨w.heap.size + 1, 5, none⟩ (.slice (some ⟨wc.heap.size, 0, none⟩) bs.length bs.length)) :=
    ((Same.of_grown hgrow (Nat.le_refl _)).trans (same_far hg (fun j e => by injection e; omega) y1)).trans (Same.of_grownS hs (by omega) (by omega))
  have hlt := (World.ownsRow.lt ho wc.heap.size rfl).2
  refine dec_fin D3 ((S.ptrIn hT).wide (Nat.le_refl _) (by omega)) ((S.ptrIn hU).wide (Nat.le_refl _) (by omega)) ((S.attrsIn hA).wide (Nat.le_refl _) (by omega)) ?_ hW
  exact .inr ⟨_, _, _, _, bs, rfl, hv, fun _ => ⟨rfl, zN, by omega⟩, (At.of_own ho).kept hs (fun _ => by intro e; injection e; omega)⟩

set_option maxHeartbeats 4000000 in
set_option maxRecDepth 100000 in
/-- zzDecodeReg, at the bytes of a registration -/
theorem decReg_any (w : World) (b off c : Nat) (r : Re) (hr : r.ok) (hat : At w b off r.enc) (hc : r.enc.length ≤ c) :
    Calls Try.prog 21 #[.slice (some ⟨b, off, none⟩) r.enc.length c] w fun e w' => ∃ t u a ve, e = .returned (.tuple #[.agg #[.string r.key, .string r.desc, t, u, a, ve], .bool true]) ∧
      PtrIn w' w.heap.size w'.heap.size t r.tenant ∧ PtrIn w' w.heap.size w'.heap.size u r.user ∧ AttrsIn w' w.heap.size w'.heap.size a r.attrs ∧ VerIn w' w.heap.size w'.heap.size ve r.ver ∧ w.grownBy w' none := by
  obtain ⟨s, s2, tn, us, ams, vr⟩ := r
  obtain ⟨k1, k2, k3, k4, k5, k6⟩ := hr
  simp only at k1 k2 k3 k4 k5 ⊢
  have lv1 := vb_length s.data.toList.length
  have lv2 := vb_length s2.data.toList.length
  obtain ⟨p, hp⟩ : ∃ p : List UInt8, p = Re.enc ⟨s, s2, tn, us, ams, vr⟩ := ⟨_, rfl⟩
  obtain ⟨R2, hR2⟩ : ∃ R : List UInt8, R = optEnc 26 tn ++ (optEnc 34 us ++ (attrsEnc ams ++ verEnc vr)) := ⟨_, rfl⟩
  have hpe : p = fld 10 s.data.toList ++ (fld 18 s2.data.toList ++ R2) := by rw [hp, hR2]; unfold Re.enc; simp
  have hal : ams.length ≤ p.length := by
    have h1 := attrsEnc_ge ams
    rw [hpe, hR2]; simp only [List.length_append]; omega
  rw [← hp] at hat hc k6 ⊢
  obtain ⟨A, hA⟩ : ∃ A, A = 0 + 1 + (vb s.data.toList.length).length := ⟨_, rfl⟩
  obtain ⟨E, hE⟩ : ∃ E, E = A + s.data.toList.length := ⟨_, rfl⟩
  obtain ⟨A2, hA2⟩ : ∃ A2, A2 = E + 1 + (vb s2.data.toList.length).length := ⟨_, rfl⟩
  obtain ⟨E2, hE2⟩ : ∃ E2, E2 = A2 + s2.data.toList.length := ⟨_, rfl⟩
  have d0 : p.drop 0 = fld 10 s.data.toList ++ (fld 18 s2.data.toList ++ R2) := by rw [List.drop_zero]; exact hpe
  have dE : p.drop E = fld 18 s2.data.toList ++ R2 := drop_next d0 (by omega)
  have dE2 : p.drop E2 = R2 := drop_next dE (by omega)
  have dA : p.drop A = s.data.toList ++ (fld 18 s2.data.toList ++ R2) := drop_in d0 (by omega)
  have dA2 : p.drop A2 = s2.data.toList ++ R2 := drop_in dE (by omega)
  have lR := congrArg List.length dE2
  have lE := congrArg List.length dE
  rw [List.length_drop] at lR lE
  have hE2l : E2 ≤ p.length := by
    simp only [fld, List.length_cons, List.length_append] at lE; omega
  have iAE : A ≤ E := by omega
  have iAE2 : A2 ≤ E2 := by omega
  have iE : E < A2 := by omega
  have hAc : ¬ A = c := by omega
  have bP : p.length < 67108864 := k6
  have hs1 := fun (o1 o2 : Obj) (cc : Nat) => piece_str hat dA hE _ (none_alloc2 w o1 o2) cc
  have hs2 := fun (o1 o2 : Obj) (cc : Nat) => piece_str hat dA2 hE2 _ (none_alloc2 w o1 o2) cc
  have hs3 : A2 = c → ∀ (o1 o2 : Obj) (cc : Nat), Sem.run Try.prog (convert 23 9 (.slice (some ⟨b, off, none⟩) (E2 - A2) cc)) ((w.alloc o1).alloc o2) = .ok (.string s2) ((w.alloc o1).alloc o2) := by
    intro h o1 o2 cc
    have h0 : s2.data.toList.length = 0 := by omega
    have h1 := run_str ((w.alloc o1).alloc o2) b off (E2 - A2) cc none s2.data.toList (fun j hj => by omega) (by omega) (fun _ => rfl)
    rw [eta_str] at h1
    exact h1
  have K1 : Hid (A = 0 + 1 + (vb s.data.toList.length).length) := hA
  have K2 : Hid (E = A + s.data.toList.length) := hE
  have K3 : Hid (A2 = E + 1 + (vb s2.data.toList.length).length) := hA2
  have K4 : Hid (E2 = A2 + s2.data.toList.length) := hE2
  have D0 : Hid (p.drop 0 = fld 10 s.data.toList ++ (fld 18 s2.data.toList ++ R2)) := d0
  have D1 : Hid (p.drop E = fld 18 s2.data.toList ++ R2) := dE
  have D2 : Hid (p.drop E2 = R2) := dE2
  have HR2 : Hid (R2 = optEnc 26 tn ++ (optEnc 34 us ++ (attrsEnc ams ++ verEnc vr))) := hR2
  have hb : b < w.heap.size := hat.lt (by omega)
  have hb2 : b < w.heap.size + 1 := by omega
  clear d0 dE dE2 dA dA2 lR lE hA hE hA2 hE2 hpe hp hR2
  go_enter Try.func21, Try.ntmps21
  go_wp2_with fail
  refine (fieldE _ b off c p s.data.toList _ _ _ 0 10 A E rfl rfl K1.out K2.out ((hat.alloc _).alloc _) D0.out (by omega) (by omega)).mono ?_
  rintro e w1 ⟨rfl, rfl⟩
  go_wp2_with fail
  refine (fieldE _ b off c p s2.data.toList _ _ _ E 18 A2 E2 rfl rfl K3.out K4.out ((hat.alloc _).alloc _) D1.out (by omega) (by omega)).mono ?_
  rintro e w1 ⟨rfl, rfl⟩
  go_upto_region 10 with fail
  go_cut [6] (fun s6 wk => s6 = .int .i64 (E2 : Int) ∧ DS w wk #[.string s, .string s2, .pointer none, .pointer none, .slice none 0 0, .slice none 0 0])
  case first =>
    as_aux_lemma =>
      have R0 : DS w ((w.alloc (Obj.cells #[Value.string ⟨#[]⟩, Value.string ⟨#[]⟩, Value.pointer none, Value.pointer none, Value.slice none 0 0, Value.slice none 0 0] 43)).alloc (Obj.cells #[Value.string s, Value.string s2, Value.pointer none, Value.pointer none, Value.slice none 0 0, Value.slice none 0 0] 43)) #[.string s, .string s2, .pointer none, .pointer none, .slice none 0 0, .slice none 0 0] := DS.mk0 w _ _ rfl
      by_cases hA2c : A2 = c
      · have hs3 := hs3 hA2c
        subst hA2c
        go_wp2
        go_meet
        case rel => exact ⟨rfl, R0⟩
      · clear hs3
        go_wp2
        go_meet
        case rel => exact ⟨rfl, R0⟩
  case rest =>
    obtain ⟨rfl, D⟩ := hcut
    clear hs1 hs2 hs3
    have hat2 : ∀ {wx : World}, w.grownBy wx none → At wx b off p := fun hg => hat.kept hg (fun _ => by simp)
    have N1 : NoTag (optEnc 34 us ++ (attrsEnc ams ++ verEnc vr)) 26 := NoTag.opt (by omega) (by omega) (NoTag.attrs (by omega) (NoTag.ver _ (by omega)))
    have N2 : NoTag (attrsEnc ams ++ verEnc vr) 34 := NoTag.attrs (by omega) (NoTag.ver _ (by omega))
    have N3 : NoTag (verEnc vr) 42 := NoTag.ver _ (by omega)
    obtain ⟨R3, hR3⟩ : ∃ R : List UInt8, R = optEnc 34 us ++ (attrsEnc ams ++ verEnc vr) := ⟨_, rfl⟩
    obtain ⟨R4, hR4⟩ : ∃ R : List UInt8, R = attrsEnc ams ++ verEnc vr := ⟨_, rfl⟩
    rw [← hR3] at N1
    rw [← hR4] at N2
    have D2' : p.drop E2 = optEnc 26 tn ++ R3 := by rw [D2.out, HR2.out, hR3]
    have HR3 : Hid (R3 = optEnc 34 us ++ R4) := (by rw [hR3, hR4] : R3 = optEnc 34 us ++ R4)
    have HR4 : Hid (R4 = attrsEnc ams ++ verEnc vr) := hR4
    clear D0 D1 D2 HR2 hR3 hR4 K1 K2 K3 K4 iAE iAE2 iE hAc lv1 lv2 k4 k5
    have D2 : Hid (p.drop E2 = optEnc 26 tn ++ R3) := D2'
    clear D2'
    have hA0 := hat2 D.grown
    go_upto_region 12 with fail
    go_cut [59] (fun s59 wk => s59 = .bool tn.isSome ∧ wk = wc)
    case first =>
      as_aux_lemma =>
        have hbc : b < wc.heap.size := Nat.lt_of_lt_of_le hb D.grown.size
        cases tn with
        | none =>
          have hd : p.drop E2 = R3 := D2.out
          rcases N1.at_ hA0 hd hE2l with h | ⟨x, h1, h2, h3⟩
          · have h' : (p.length : Int) ≤ (E2 : Int) := by omega
            clear hd h
            go_wp2
            go_meet
            case rel => exact ⟨rfl, rfl⟩
          · have h3' : ((x.toNat : Int) == 26) = false := h3
            clear hd h3
            go_wp2
            go_meet
            case rel => exact ⟨rfl, rfl⟩
        | some d =>
          have hd : p.drop E2 = fld 26 d.enc ++ R3 := D2.out
          obtain ⟨h1, h2⟩ := tag_at hA0 hd (by omega)
          clear hd
          go_wp2
          go_meet
          case rel => exact ⟨rfl, rfl⟩
    case rest =>
      obtain ⟨rfl, rfl⟩ := hcut
      go_upto_if 59 with fail
      go_cut [8] (fun s8 wk => ∃ (P3 : Nat) (pt : Option Addr), s8 = .int .i64 (P3 : Int) ∧ p.drop P3 = R3 ∧ P3 ≤ p.length ∧ DS w wk #[.string s, .string s2, .pointer pt, .pointer none, .slice none 0 0, .slice none 0 0] ∧ PtrIn wk (w.heap.size + 2) wk.heap.size (.pointer pt) tn)
      case first =>
        as_aux_lemma =>
          cases tn with
          | none =>
            go_wp2
            go_meet
            case rel => exact ⟨E2, none, rfl, D2.out, hE2l, D, .inl ⟨rfl, rfl⟩⟩
          | some d =>
            have hd : p.drop E2 = fld 26 d.enc ++ R3 := D2.out
            obtain ⟨A3, hA3⟩ : ∃ A, A = E2 + 1 + (vb d.enc.length).length := ⟨_, rfl⟩
            obtain ⟨E3, hE3⟩ : ∃ E, E = A3 + d.enc.length := ⟨_, rfl⟩
            have hin := drop_in hd hA3
            have hnx := drop_next hd (E := E3) (by omega)
            have hdo := k1 d rfl
            have lpos := De.enc_pos d
            have hsub := hA0.sub A3 hin
            have lin := congrArg List.length hin
            rw [List.length_drop, List.length_append] at lin
            have hE3l : E3 ≤ p.length := by omega
            have hA3c : ¬ A3 = c := by omega
            have hcl : d.enc.length ≤ c - A3 := by omega
            have iAE : A3 ≤ E3 := by omega
            have L3 : Hid (E3 - A3 = d.enc.length) := (by omega : E3 - A3 = d.enc.length)
            have K1 : Hid (A3 = E2 + 1 + (vb d.enc.length).length) := hA3
            have K2 : Hid (E3 = A3 + d.enc.length) := hE3
            have HD : Hid (p.drop E2 = fld 26 d.enc ++ R3) := hd
            have HNX : Hid (p.drop E3 = R3) := hnx
            obtain ⟨q0, q1, q2, q3, q4, q5⟩ := D.all
            have f2 := D.frozen 2
            have Dlt := D.lt
            obtain ⟨Dlt1, Dlt2⟩ := lt_more Dlt
            clear hin hnx hd hA3 hE3 lin
            go_wp2_with fail
            refine (fieldE _ b off c p d.enc _ _ _ E2 26 A3 E3 rfl rfl K1.out K2.out hA0 HD.out (by omega) (by omega)).mono ?_
            rintro e w1 ⟨rfl, rfl⟩
            go_wp2_with fail
            rw [L3.out]
            refine (decDef_any _ b (off + A3) _ d hdo hsub hcl).mono ?_
            rintro e w1 ⟨rfl, o1, o2, rfl⟩
            go_wp2
            go_meet
            case rel =>
              have hh := D.def_ 2 (.pointer (some ⟨wc.heap.size + 1 + 1, 0, none⟩)) o1 o2 d
              exact ⟨E3, _, rfl, HNX.out, hE3l, hh.1, hh.2 _ rfl _ (by simp [World.setCell])⟩
      case rest =>
        obtain ⟨P3, pt, rfl, hd3, hP3, D, HT⟩ := hcut
        have D3 : Hid (p.drop P3 = optEnc 34 us ++ R4) := (by rw [hd3, HR3.out] : p.drop P3 = optEnc 34 us ++ R4)
        clear hd3 N1 D2 HR3 hA0
        have hA0 := hat2 D.grown
        go_upto_region 21 with fail
        go_cut [93] (fun s93 wk => s93 = .bool us.isSome ∧ wk = wc)
        case first =>
          as_aux_lemma =>
            have hbc : b < wc.heap.size := Nat.lt_of_lt_of_le hb D.grown.size
            cases us with
            | none =>
              have hd : p.drop P3 = R4 := D3.out
              rcases N2.at_ hA0 hd hP3 with h | ⟨x, h1, h2, h3⟩
              · have h' : (p.length : Int) ≤ (P3 : Int) := by omega
                clear hd h
                go_wp2
                go_meet
                case rel => exact ⟨rfl, rfl⟩
              · have h3' : ((x.toNat : Int) == 34) = false := h3
                clear hd h3
                go_wp2
                go_meet
                case rel => exact ⟨rfl, rfl⟩
            | some d =>
              have hd : p.drop P3 = fld 34 d.enc ++ R4 := D3.out
              obtain ⟨h1, h2⟩ := tag_at hA0 hd (by omega)
              clear hd
              go_wp2
              go_meet
              case rel => exact ⟨rfl, rfl⟩
        case rest =>
          obtain ⟨rfl, rfl⟩ := hcut
          go_upto_if 93 with fail
          go_cut [8] (fun s8 wk => ∃ (P4 : Nat) (pu : Option Addr), s8 = .int .i64 (P4 : Int) ∧ p.drop P4 = R4 ∧ P4 ≤ p.length ∧ DS w wk #[.string s, .string s2, .pointer pt, .pointer pu, .slice none 0 0, .slice none 0 0] ∧ PtrIn wk (w.heap.size + 2) wk.heap.size (.pointer pt) tn ∧ PtrIn wk (w.heap.size + 2) wk.heap.size (.pointer pu) us)
          case first =>
            as_aux_lemma =>
              cases us with
              | none =>
                go_wp2
                go_meet
                case rel => exact ⟨P3, none, rfl, D3.out, hP3, D, HT, .inl ⟨rfl, rfl⟩⟩
              | some d =>
                have hd : p.drop P3 = fld 34 d.enc ++ R4 := D3.out
                obtain ⟨A3, hA3⟩ : ∃ A, A = P3 + 1 + (vb d.enc.length).length := ⟨_, rfl⟩
                obtain ⟨E3, hE3⟩ : ∃ E, E = A3 + d.enc.length := ⟨_, rfl⟩
                have hin := drop_in hd hA3
                have hnx := drop_next hd (E := E3) (by omega)
                have hdo := k2 d rfl
                have lpos := De.enc_pos d
                have hsub := hA0.sub A3 hin
                have lin := congrArg List.length hin
                rw [List.length_drop, List.length_append] at lin
                have hE3l : E3 ≤ p.length := by omega
                have hA3c : ¬ A3 = c := by omega
                have hcl : d.enc.length ≤ c - A3 := by omega
                have iAE : A3 ≤ E3 := by omega
                have L3 : Hid (E3 - A3 = d.enc.length) := (by omega : E3 - A3 = d.enc.length)
                have K1 : Hid (A3 = P3 + 1 + (vb d.enc.length).length) := hA3
                have K2 : Hid (E3 = A3 + d.enc.length) := hE3
                have HD : Hid (p.drop P3 = fld 34 d.enc ++ R4) := hd
                have HNX : Hid (p.drop E3 = R4) := hnx
                obtain ⟨q0, q1, q2, q3, q4, q5⟩ := D.all
                have f3 := D.frozen 3
                have Dlt := D.lt
                obtain ⟨Dlt1, Dlt2⟩ := lt_more Dlt
                clear hin hnx hd hA3 hE3 lin
                go_wp2_with fail
                refine (fieldE _ b off c p d.enc _ _ _ P3 34 A3 E3 rfl rfl K1.out K2.out hA0 HD.out (by omega) (by omega)).mono ?_
                rintro e w1 ⟨rfl, rfl⟩
                go_wp2_with fail
                rw [L3.out]
                refine (decDef_any _ b (off + A3) _ d hdo hsub hcl).mono ?_
                rintro e w1 ⟨rfl, o1, o2, rfl⟩
                go_wp2
                go_meet
                case rel =>
                  have hh := D.def_ 3 (.pointer (some ⟨wc.heap.size + 1 + 1, 0, none⟩)) o1 o2 d
                  exact ⟨E3, _, rfl, HNX.out, hE3l, hh.1, ((same_set 3 _ (none_alloc3 _ _ _ _)).ptrIn HT).wide (Nat.le_refl _) (by simp [World.setCell]; omega), hh.2 _ rfl _ (by simp [World.setCell])⟩
          case rest =>
            obtain ⟨P4, pu, rfl, hd4, hP4, D, HT, HU⟩ := hcut
            obtain ⟨HI, hHI⟩ : ∃ HI, HI = wc.heap.size := ⟨_, rfl⟩
            have zHI : w.heap.size + 2 ≤ HI := by have := D.lt; omega
            rw [← hHI] at HT HU
            obtain ⟨wc1, hwc1⟩ : ∃ wx, wx = wc := ⟨_, rfl⟩
            rw [← hwc1] at HT HU
            have SS : Same (w.heap.size + 2) HI wc1 wc := by rw [hwc1]; exact fun _ _ _ => rfl
            have D4 : p.drop P4 = attrsEnc (ams.drop 0) ++ verEnc vr := by rw [hd4, HR4.out, List.drop_zero]
            have zHI2 : HI ≤ wc.heap.size := by omega
            clear hd4 N2 D3 HR4 hA0 hHI hwc1
            go_wp2_with fail
            go_loopw [8] (fun s8 wr => ∃ (k P4 : Nat) (aa : Option Addr) (ac : Nat), k ≤ ams.length ∧ s8 = .int .i64 (P4 : Int) ∧ p.drop P4 = attrsEnc (ams.drop k) ++ verEnc vr ∧ P4 ≤ p.length ∧ DS w wr #[.string s, .string s2, .pointer pt, .pointer pu, .slice aa k ac, .slice none 0 0] ∧ wr.ownsRow HI 47 4 (.slice aa k ac) k (amsCells (ams.take k)) ∧ Same (w.heap.size + 2) HI wc1 wr ∧ HI ≤ wr.heap.size) (fun s8 _ => p.length - (intOf s8).toNat)
            case atStart => exact ⟨0, P4, none, 0, Nat.zero_le _, rfl, D4, hP4, D, ⟨rfl, .inl ⟨rfl, rfl⟩⟩, SS, zHI2⟩
            case round =>
              clear D4 D hP4
              obtain ⟨k, P, aa, ac, hk, rfl, dP, hP, D, hown, S, zr⟩ := hrel
              have hA0 := hat2 D.grown
              go_upto_region 30 with fail
              go_cut [127] from 117 to 155 (fun s127 wk => s127 = .bool (decide (k < ams.length)) ∧ wk = wr)
              case first =>
                as_aux_lemma =>
                  have hbc : b < wr.heap.size := Nat.lt_of_lt_of_le hb D.grown.size
                  by_cases hlt : k < ams.length
                  · rw [attrsEnc_drop ams k hlt] at dP
                    obtain ⟨h1, h2⟩ := tag_at hA0 dP (by omega)
                    have e1 : Hid (Value.bool true = Value.bool (decide (k < ams.length))) := (by rw [decide_eq_true hlt] : Value.bool true = Value.bool (decide (k < ams.length)))
                    clear dP hlt
                    go_wp2
                    go_meet
                    case rel => exact ⟨e1.out, rfl⟩
                  · have hkk : k = ams.length := by omega
                    have e1 : Hid (Value.bool false = Value.bool (decide (k < ams.length))) := (by rw [decide_eq_false hlt] : Value.bool false = Value.bool (decide (k < ams.length)))
                    rw [hkk, List.drop_length] at dP
                    rcases N3.at_ hA0 dP hP with h | ⟨x, h1, h2, h3⟩
                    · have h' : (p.length : Int) ≤ (P : Int) := by omega
                      clear dP h hkk hlt
                      go_wp2
                      go_meet
                      case rel => exact ⟨e1.out, rfl⟩
                    · have h3' : ((x.toNat : Int) == 42) = false := h3
                      clear dP h3 hkk hlt
                      go_wp2
                      go_meet
                      case rel => exact ⟨e1.out, rfl⟩
              case rest =>
                obtain ⟨rfl, rfl⟩ := hcut
                by_cases hlt : k < ams.length
                · rw [decide_eq_true hlt]
                  as_aux_lemma =>
                    have hlim : k + 1 ≤ 67108864 := by omega
                    rw [attrsEnc_drop ams k hlt] at dP
                    have hao := k3 ams[k] (List.getElem_mem hlt)
                    have hcl2 := amsCells_take ams k hlt
                    obtain ⟨ea, hea⟩ : ∃ ea, ea = ams[k] := ⟨_, rfl⟩
                    rw [← hea] at dP hao hcl2
                    obtain ⟨R5, hR5⟩ : ∃ R, R = attrsEnc (ams.drop (k + 1)) ++ verEnc vr := ⟨_, rfl⟩
                    rw [← hR5] at dP
                    obtain ⟨A3, hA3⟩ : ∃ A, A = P + 1 + (vb ea.enc.length).length := ⟨_, rfl⟩
                    obtain ⟨E3, hE3⟩ : ∃ E, E = A3 + ea.enc.length := ⟨_, rfl⟩
                    have hin := drop_in dP hA3
                    have hnx := drop_next dP (E := E3) (by omega)
                    rw [hR5] at hnx
                    have lpos := Am.enc_pos ea
                    have hsub := hA0.sub A3 hin
                    have lin := congrArg List.length hin
                    rw [List.length_drop, List.length_append] at lin
                    have hE3l : E3 ≤ p.length := by omega
                    have hA3c : ¬ A3 = c := by omega
                    have hcl : ea.enc.length ≤ c - A3 := by omega
                    have iAE : A3 ≤ E3 := by omega
                    have iPE : P < E3 := by omega
                    have L3 : Hid (E3 - A3 = ea.enc.length) := (by omega : E3 - A3 = ea.enc.length)
                    have K1 : Hid (A3 = P + 1 + (vb ea.enc.length).length) := hA3
                    have K2 : Hid (E3 = A3 + ea.enc.length) := hE3
                    have HD : Hid (p.drop P = fld 42 ea.enc ++ R5) := dP
                    have HNX : Hid (p.drop E3 = attrsEnc (ams.drop (k + 1)) ++ verEnc vr) := hnx
                    have HCL : Hid (amsCells (ams.take (k + 1)) = amsCells (ams.take k) ++ amCells ea) := hcl2
                    clear hin hnx dP hA3 hE3 lin hR5 hea hcl2
                    go_wp2_with fail
                    refine (fieldE _ b off c p ea.enc _ _ _ P 42 A3 E3 rfl rfl K1.out K2.out hA0 HD.out (by omega) (by omega)).mono ?_
                    rintro e w1 ⟨rfl, rfl⟩
                    go_wp2_with fail
                    rw [L3.out]
                    refine (decAttr_any _ b (off + A3) _ ea hao hsub hcl).mono ?_
                    rintro e w1 ⟨rfl, g1⟩
                    have D1 := D.step g1
                    have Dlt := D1.lt
                    obtain ⟨Dlt1, Dlt2⟩ := lt_more Dlt
                    obtain ⟨q0, q1, q2, q3, q4, q5⟩ := D1.all
                    have own1 := hown.kept g1 (by cases (Value.slice aa k ac).ownBlock <;> simp)
                    have z1 := g1.size
                    obtain ⟨i0, hi, hz0, hz1, hz2⟩ := info_parts Try.info47
                    go_wp2_with (at_builtin; go_loud (refine wpList_append_lies _ rfl _ _ 41 rfl HI 47 i0 _ 4 40 Try.underlying41 hi hz0 hz1 hz2 rfl (by decide) (.slice aa k ac) k (amsCells (ams.take k)) rfl ((own1.alloc _).alloc _) ⟨w1.heap.size + 1, 0, none⟩ 1 1 (amCells ea) rfl rfl (cells_newT _ 47 (amCells ea).toArray _ (by simp)) (by simp [amCells, Value.oneCell']) (by decide) (by unfold maxLen; omega) (by omega) (by simp; omega) (w1.heap.size + 2) (by simp) ?_; intro g cap w2 hown2 hgrow hat hlt2; have D2 := (D1.step (none_alloc2 _ _ _)).far hgrow (fun j e => Nat.le_trans zHI (World.ownsRow.lt own1 j e).1); have r4 := D2.cell 4 (by simp) rfl; have f4 := D2.frozen 4))
                    have S2 : Same (w.heap.size + 2) HI wc1 (w2.setCell ⟨w.heap.size + 1, 4, none⟩ (.slice (some ⟨g, 0, none⟩) (k + 1) cap)) := by
                      refine S.trans (((Same.of_grown (none_trans g1 (none_alloc2 _ _ _)) zr).trans (same_far hgrow (fun j e => (World.ownsRow.lt own1 j e).1) (by simp; omega))).trans (Same.of_grownS (grownBy_setCell1 _ _ _ _) (by omega) ?_))
                      have := hgrow.size
                      simp at this
                      omega
                    have own3 := ownsRow_setCell_below hown2 (a := ⟨w.heap.size + 1, 4, none⟩) (by show w.heap.size + 1 < HI; omega) (.slice (some ⟨g, 0, none⟩) (k + 1) cap)
                    rw [← HCL.out] at own3
                    have D3 := D2.set 4 (.slice (some ⟨g, 0, none⟩) (k + 1) cap)
                    have zS : HI ≤ (w2.setCell ⟨w.heap.size + 1, 4, none⟩ (.slice (some ⟨g, 0, none⟩) (k + 1) cap)).heap.size := by
                      have := hgrow.size
                      simp [setCell_size] at this ⊢
                      omega
                    go_roundw
                    case rel => exact ⟨k + 1, E3, _, _, hlt, rfl, HNX.out, hE3l, D3, own3, S2, zS⟩
                    case measure => simp [intOf]; omega
                · rw [decide_eq_false hlt]
                  have hkk : k = ams.length := by omega
                  subst hkk
                  rw [List.drop_length] at dP
                  rw [List.take_length] at hown
                  have DP : Hid (p.drop P = verEnc vr) := dP
                  have HA := AttrsIn.of_own hown (Nat.le_refl HI)
                  have HT2 := (S.ptrIn HT).wide (Nat.le_refl _) zr
                  have HU2 := (S.ptrIn HU).wide (Nat.le_refl _) zr
                  have HA2 := HA.wide zHI (Nat.le_refl _)
                  clear dP hown S HT HU HA hlt hk
                  go_upto_region 39 with fail
                  go_cut [166] (fun s166 wk => s166 = .bool vr.isSome ∧ wk = wc)
                  case first =>
                    as_aux_lemma =>
                      have hbc : b < wc.heap.size := Nat.lt_of_lt_of_le hb D.grown.size
                      cases vr with
                      | none =>
                        have h := congrArg List.length DP.out
                        rw [List.length_drop] at h
                        have h' : (p.length : Int) ≤ (P : Int) := by simp [verEnc] at h; omega
                        clear h
                        go_wp2
                        go_meet
                        case rel => exact ⟨rfl, rfl⟩
                      | some bs =>
                        have hd : p.drop P = fld 50 bs ++ [] := by rw [DP.out]; simp [verEnc]
                        obtain ⟨h1, h2⟩ := tag_at hA0 hd (by omega)
                        clear hd
                        go_wp2
                        go_meet
                        case rel => exact ⟨rfl, rfl⟩
                  case rest =>
                    obtain ⟨rfl, rfl⟩ := hcut
                    obtain ⟨q0, q1, q2, q3, q4, q5⟩ := D.all
                    obtain ⟨y0, r0⟩ := D.res.cell 0 (by omega)
                    obtain ⟨y1, r1⟩ := D.res.cell 1 (by omega)
                    obtain ⟨y2, r2⟩ := D.res.cell 2 (by omega)
                    obtain ⟨y3, r3⟩ := D.res.cell 3 (by omega)
                    obtain ⟨y4, r4⟩ := D.res.cell 4 (by omega)
                    obtain ⟨y5, r5⟩ := D.res.cell 5 (by omega)
                    have z0 := D.res.frozen 0
                    have z1 := D.res.frozen 1
                    have z2 := D.res.frozen 2
                    have z3 := D.res.frozen 3
                    have z4 := D.res.frozen 4
                    have z5 := D.res.frozen 5
                    cases vr with
                    | none =>
                      have h := congrArg List.length DP.out
                      rw [List.length_drop] at h
                      have hPe : ((P : Int) == (p.length : Int)) = true := by rw [beq_iff_eq]; simp [verEnc] at h; omega
                      clear h
                      go_wp2
                      obtain ⟨e, F1, F2, F3, F4, F5⟩ := dec_fin (r := ⟨s, s2, tn, us, ams, none⟩) D HT2 HU2 HA2 (.inl ⟨rfl, rfl⟩) rfl
                      obtain ⟨e0, e1, e2, e3, e4, e5⟩ := e
                      refine bodyPost_ret (v := .tuple #[.agg #[.string s, .string s2, .pointer pt, .pointer pu, .slice aa ams.length ac, .slice none 0 0], .bool true]) (by simp [results, Try.results21, go_sem, e0, e1, e2, e3, e4, e5]) rfl ⟨_, _, _, _, rfl, F1, F2, F3, F4, F5⟩
                    | some bs =>
                      have hd : p.drop P = fld 50 bs ++ [] := by rw [DP.out]; simp [verEnc]
                      obtain ⟨A3, hA3⟩ : ∃ A, A = P + 1 + (vb bs.length).length := ⟨_, rfl⟩
                      obtain ⟨E3, hE3⟩ : ∃ E, E = A3 + bs.length := ⟨_, rfl⟩
                      have hin := drop_in hd hA3
                      have hsub := hA0.sub A3 hin
                      have lin := congrArg List.length hd
                      rw [List.length_drop, List.length_append] at lin
                      have lpe : p.length = E3 := by simp only [fld, List.length_cons, List.length_append, List.length_nil] at lin; omega
                      have hE3l : E3 ≤ p.length := by omega
                      have iAE : A3 ≤ E3 := by omega
                      have hPe : ((E3 : Int) == (p.length : Int)) = true := by rw [beq_iff_eq]; omega
                      have zN : w.heap.size + 2 ≤ wc.heap.size := by have := D.lt; omega
                      have L3 : Hid (E3 - A3 = bs.length) := (by omega : E3 - A3 = bs.length)
                      have K1 : Hid (A3 = P + 1 + (vb bs.length).length) := hA3
                      have K2 : Hid (E3 = A3 + bs.length) := hE3
                      have HD : Hid (p.drop P = fld 50 bs ++ []) := hd
                      obtain ⟨i0, hi, hz0, hz1, hz2⟩ := info_parts Try.info5
                      clear hin hd hA3 hE3 lin lpe q0 q1 q2 q3 q4 q5 r0 r1 r2 r3 r4 r5 z0 z1 z2 z3 z4 z5
                      go_wp2_with fail
                      refine (fieldE _ b off c p bs _ _ _ P 50 A3 E3 rfl rfl K1.out K2.out hA0 HD.out (by omega) (by omega)).mono ?_
                      rintro e w1 ⟨rfl, rfl⟩
                      by_cases hA3c : A3 = c
                      · have hb0 : bs = [] := by have := L3.out; exact List.length_eq_zero_iff.1 (by omega)
                        subst hA3c
                        go_wp2_with (at_make; go_loud (refine wpList_make_full _ rfl _ _ 23 rfl wc.heap.size 5 i0 (.int .u8 0) 1 Try.underlying23 hi hz0 hz1 _ _ _ _ (E3 - A3) rfl rfl (by go_num) (by go_num) (by rw [hz2]; omega) (by unfold maxLen; omega) (Nat.le_refl _) ?_; intro w1 hown hgrow; obtain ⟨w2, hrun, ho, hg⟩ := run_copy_ob (c := 0) (b := b) (off := off) 3 (by rw [L3.out] at hown; exact hown) (by rw [hb0]; exact fun j hj => absurd hj (Nat.not_lt_zero _)) (fun _ => rfl); rw [← L3.out] at hrun; have D2 := (D.step hgrow).far hg (fun j e => by injection e; omega); obtain ⟨q0, q1, q2, q3, q4, q5⟩ := D2.all; have f5 := D2.frozen 5; obtain ⟨y0, r0⟩ := D2.res.cell 0 (by omega); obtain ⟨y1, r1⟩ := D2.res.cell 1 (by omega); obtain ⟨y2, r2⟩ := D2.res.cell 2 (by omega); obtain ⟨y3, r3⟩ := D2.res.cell 3 (by omega); obtain ⟨y4, r4⟩ := D2.res.cell 4 (by omega); obtain ⟨y5, r5⟩ := D2.res.cell 5 (by omega); have z0 := D2.res.frozen 0; have z1 := D2.res.frozen 1; have z2 := D2.res.frozen 2; have z3 := D2.res.frozen 3; have z4 := D2.res.frozen 4; have z5 := D2.res.frozen 5))
                        obtain ⟨e, F1, F2, F3, F4, F5⟩ := dec_ver (r := ⟨s, s2, tn, us, ams, some bs⟩) D2 HT2 HU2 HA2 hgrow hg ho rfl L3.out zN rfl
                        obtain ⟨e0, e1, e2, e3, e4, e5⟩ := e
                        refine bodyPost_ret (v := .tuple #[.agg #[.string s, .string s2, .pointer pt, .pointer pu, .slice aa ams.length ac, .slice (some ⟨wc.heap.size, 0, none⟩) (E3 - A3) (E3 - A3)], .bool true]) (by simp [results, Try.results21, go_sem, e0, e1, e2, e3, e4, e5]) rfl ⟨_, _, _, _, rfl, F1, F2, F3, F4, F5⟩
                      · go_wp2_with (at_make; go_loud (refine wpList_make_full _ rfl _ _ 23 rfl wc.heap.size 5 i0 (.int .u8 0) 1 Try.underlying23 hi hz0 hz1 _ _ _ _ (E3 - A3) rfl rfl (by go_num) (by go_num) (by rw [hz2]; omega) (by unfold maxLen; omega) (Nat.le_refl _) ?_; intro w1 hown hgrow; obtain ⟨w2, hrun, ho, hg⟩ := run_copy_ob (c := c - A3) 3 (by rw [L3.out] at hown; exact hown) (hsub.kept hgrow (fun _ => by simp)) (fun _ => rfl); rw [← L3.out] at hrun; have D2 := (D.step hgrow).far hg (fun j e => by injection e; omega); obtain ⟨q0, q1, q2, q3, q4, q5⟩ := D2.all; have f5 := D2.frozen 5; obtain ⟨y0, r0⟩ := D2.res.cell 0 (by omega); obtain ⟨y1, r1⟩ := D2.res.cell 1 (by omega); obtain ⟨y2, r2⟩ := D2.res.cell 2 (by omega); obtain ⟨y3, r3⟩ := D2.res.cell 3 (by omega); obtain ⟨y4, r4⟩ := D2.res.cell 4 (by omega); obtain ⟨y5, r5⟩ := D2.res.cell 5 (by omega); have z0 := D2.res.frozen 0; have z1 := D2.res.frozen 1; have z2 := D2.res.frozen 2; have z3 := D2.res.frozen 3; have z4 := D2.res.frozen 4; have z5 := D2.res.frozen 5))
                        obtain ⟨e, F1, F2, F3, F4, F5⟩ := dec_ver (r := ⟨s, s2, tn, us, ams, some bs⟩) D2 HT2 HU2 HA2 hgrow hg ho rfl L3.out zN rfl
                        obtain ⟨e0, e1, e2, e3, e4, e5⟩ := e
                        refine bodyPost_ret (v := .tuple #[.agg #[.string s, .string s2, .pointer pt, .pointer pu, .slice aa ams.length ac, .slice (some ⟨wc.heap.size, 0, none⟩) (E3 - A3) (E3 - A3)], .bool true]) (by simp [results, Try.results21, go_sem, e0, e1, e2, e3, e4, e5]) rfl ⟨_, _, _, _, rfl, F1, F2, F3, F4, F5⟩

end Go.Proofs.Qxb6629102a
