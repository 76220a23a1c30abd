import Derived.Test.Qxb6629102aLaw4
import Derived.ProofKit
import Derived.OpenShut
import Derived.Deep.Slices
namespace Go.Proofs.Qxb6629102a
open Go.ChangeShapes Go.WideShapes Go.ChangeAt Go.RowKit
set_option linter.unusedSimpArgs false
set_option linter.unusedVariables false

theorem Try.cells9 : Try.prog.cellsOf 9 = 1 := by kernel_rfl
theorem Try.cells5 : Try.prog.cellsOf 5 = 1 := by kernel_rfl
theorem Try.cells40 : Try.prog.cellsOf 40 = 1 := by kernel_rfl
theorem Try.cells41 : Try.prog.cellsOf 41 = 1 := by kernel_rfl
theorem Try.cells23 : Try.prog.cellsOf 23 = 1 := by kernel_rfl
theorem Try.cells45 : Try.prog.cellsOf 45 = 3 := by kernel_rfl
theorem Try.cells47 : Try.prog.cellsOf 47 = 4 := by kernel_rfl
theorem Try.cells43 : Try.prog.cellsOf 43 = 6 := by kernel_rfl

section
variable {H : Type} {enc : TypeId × Value → H} {w : World} {sp : Nat → Bool} {held : Bool}

theorem field_of {t : TypeId} {fs : Array Field} {fuel : Nat} {cs : List Value} {x : DataW H × List MemPlace} (ht : Try.prog.underlying t = some (.struct fs)) (h : DataW.trod enc Try.prog w 0 sp held fuel t cs = some x) (i : Nat) {tt : TypeId} {off : Nat}
    (hi : (fs[i]?).map (fun f => (f.type, f.offset)) = some (tt, off)) : ∃ n y, DataW.trod enc Try.prog w 0 sp held n tt ((cs.drop off).take (Try.prog.cellsOf tt)) = some y := by
  obtain ⟨xs, n, _, rfl, hl, hxl, hf⟩ := DataW.trod_struct ht h
  obtain ⟨f, h1, h2⟩ := Option.map_eq_some_iff.1 hi
  have hlt : i < fs.size := (Array.getElem?_eq_some_iff.1 h1).1
  have g := hf i f h1
  rw [List.getElem?_eq_getElem (by omega)] at g
  injection h2 with h3 h4
  subst h3; subst h4
  exact ⟨n, _, g⟩
theorem len_of {t : TypeId} {fs : Array Field} {fuel : Nat} {cs : List Value} {x : DataW H × List MemPlace} (ht : Try.prog.underlying t = some (.struct fs)) (h : DataW.trod enc Try.prog w 0 sp held fuel t cs = some x) : cs.length = Try.prog.cellsOf t := by
  obtain ⟨xs, n, _, rfl, hl, hxl, hf⟩ := DataW.trod_struct ht h
  exact hl
theorem pick {α : Type} {p : Nat → α → Prop} (n : Nat) (h : ∀ i, i < n → ∃ x, p i x) : ∃ l : List α, l.length = n ∧ ∀ i (hi : i < l.length), p i l[i] := by
  induction n with
  | zero => exact ⟨[], rfl, fun i hi => absurd hi (Nat.not_lt_zero _)⟩
  | succ n ih =>
    obtain ⟨l, hl, hp⟩ := ih (fun i hi => h i (by omega))
    obtain ⟨x, hx⟩ := h n (by omega)
    refine ⟨l ++ [x], by simp [hl], fun i hi => ?_⟩
    by_cases e : i < l.length
    · rw [List.getElem_append_left e]; exact hp i e
    · have : i = n := by simp at hi; omega
      subst this
      rw [List.getElem_append_right (by omega)]
      simpa using hx

theorem open9 {fuel : Nat} {c : Value} {x : DataW H × List MemPlace} (h : DataW.trod enc Try.prog w 0 sp held fuel 9 [c] = some x) : ∃ s : ByteArray, c = .string s ∧ s.size ≤ maxLen := by
  obtain ⟨s, e, _, hs⟩ := DataW.trod_string Try.underlying9 h
  injection e with e _
  exact ⟨s, e, hs⟩
theorem open5 {fuel : Nat} {c : Value} {x : DataW H × List MemPlace} (h : DataW.trod enc Try.prog w 0 sp held fuel 5 [c] = some x) : ∃ n : Nat, c = .int .u8 (n : Int) ∧ n < 256 := by
  obtain ⟨n, e, _, hw⟩ := DataW.trod_int Try.underlying5 h
  injection e with e _
  have hb := bounds_u8 hw
  exact ⟨n.toNat, by rw [e, Int.toNat_of_nonneg hb.1], by omega⟩

theorem open45 {fuel : Nat} {cs : List Value} {x : DataW H × List MemPlace} (h : DataW.trod enc Try.prog w 0 sp held fuel 45 cs = some x) :
    ∃ d : De, d.wf ∧ cs = [.string d.desc, .int .u8 (d.ty : Int), .int .u8 (d.card : Int)] := by
  have hl := len_of Try.underlying45 h
  rw [Try.cells45] at hl
  match cs, hl with
  | [c0, c1, c2], _ =>
    obtain ⟨n0, y0, f0⟩ := field_of (tt := 9) (off := 0) Try.underlying45 h 0 rfl
    obtain ⟨n1, y1, f1⟩ := field_of (tt := 5) (off := 1) Try.underlying45 h 1 rfl
    obtain ⟨n2, y2, f2⟩ := field_of (tt := 5) (off := 2) Try.underlying45 h 2 rfl
    simp only [Try.cells9, Try.cells5, List.drop_zero, List.drop_succ_cons, List.take_succ_cons, List.take_zero] at f0 f1 f2
    obtain ⟨s, rfl, _⟩ := open9 f0
    obtain ⟨t, rfl, ht⟩ := open5 f1
    obtain ⟨c, rfl, hc⟩ := open5 f2
    exact ⟨⟨s, t, c⟩, ⟨ht, hc⟩, rfl⟩

theorem open47 {fuel : Nat} {cs : List Value} {x : DataW H × List MemPlace} (h : DataW.trod enc Try.prog w 0 sp held fuel 47 cs = some x) :
    ∃ a : Am, a.de.wf ∧ cs = [.string a.name, .string a.de.desc, .int .u8 (a.de.ty : Int), .int .u8 (a.de.card : Int)] := by
  have hl := len_of Try.underlying47 h
  rw [Try.cells47] at hl
  match cs, hl with
  | [c0, c1, c2, c3], _ =>
    obtain ⟨n0, y0, f0⟩ := field_of (tt := 9) (off := 0) Try.underlying47 h 0 rfl
    obtain ⟨n1, y1, f1⟩ := field_of (tt := 45) (off := 1) Try.underlying47 h 1 rfl
    simp only [Try.cells9, Try.cells45, List.drop_zero, List.drop_succ_cons, List.take_succ_cons, List.take_zero] at f0 f1
    obtain ⟨s, rfl, _⟩ := open9 f0
    obtain ⟨d, hd, e⟩ := open45 f1
    exact ⟨⟨s, d⟩, hd, by rw [e]⟩

theorem none_is_not {d : De} {p : Prop} (h : (none : Option De) = some d) : p := by cases h
theorem add_lit (b off k : Nat) : (⟨b, off, none⟩ : Addr).add k = ⟨b, off + k, none⟩ := by unfold Addr.add; split <;> simp_all

/-- the cells of an element, at its place -/
theorem cells_at {a : Addr} {n : Nat} {cs : List Value} (h : w.cells? 0 a n = some cs) (hn : 0 < n) : a.spot = none ∧ a.block < w.heap.size ∧ ∀ i (hi : i < cs.length), w.cell? ⟨a.block, a.off + i, none⟩ = some cs[i] := by
  obtain ⟨_, hlen, hc⟩ := World.cells?_some h
  obtain ⟨b, off, s⟩ := a
  have h0 := hc 0 hn
  rw [List.getElem?_eq_getElem (by omega)] at h0
  have hs : s = none := by simpa [Addr.add] using World.cell?_spot h0
  subst hs
  refine ⟨rfl, ?_, fun i hi => ?_⟩
  · rw [add_lit] at h0
    exact World.block_lt_of_cell? w _ h0
  · have := hc i (by omega)
    rw [add_lit, List.getElem?_eq_getElem hi] at this
    exact this

theorem open40 {fuel : Nat} {c : Value} {x : DataW H × List MemPlace} (h : DataW.trod enc Try.prog w 0 sp held fuel 40 [c] = some x) :
    ∃ o : Option De, (∀ d, o = some d → d.wf) ∧ PtrIn w 0 w.heap.size c o := by
  rcases DataW.trod_pointer Try.underlying40 h with ⟨e, _⟩ | ⟨a, cs', y, n, _, e, _, hcells, hy⟩
  · injection e with e _
    exact ⟨none, (fun _ h => none_is_not h), .inl ⟨e, rfl⟩⟩
  · injection e with e _
    rw [Try.cells45] at hcells
    obtain ⟨d, hd, rfl⟩ := open45 hy
    obtain ⟨hs, hb, hc⟩ := cells_at hcells (by omega)
    obtain ⟨b, off, s⟩ := a
    simp only at hs hb hc
    subst hs
    refine ⟨some d, fun d' h => by injection h with h; subst h; exact hd, .inr ⟨b, off, d, e, rfl, Nat.zero_le _, hb, hc 0 (by simp), hc 1 (by simp), hc 2 (by simp)⟩⟩

theorem open23 {fuel : Nat} {c : Value} {x : DataW H × List MemPlace} (h : DataW.trod enc Try.prog w 0 sp held fuel 23 [c] = some x) :
    ∃ o : Option (List UInt8), VerIn w 0 w.heap.size c o := by
  rcases Deep.open_slice Try.underlying23 h with ⟨e, _⟩ | ⟨a, len, cap, m, n, D, Pl, e, hb, hl, hm, hmm, _, hx⟩
  · injection e with e _
    exact ⟨none, .inl ⟨e, rfl⟩⟩
  · injection e with e _
    rw [Try.cells5] at hx
    have hle : len ≤ m := by rw [hmm]; split <;> omega
    have hel : ∀ i, i < len → ∃ q : UInt8, (a.add i).spot = none ∧ (a.add i).block < w.heap.size ∧ w.cell? ⟨(a.add i).block, (a.add i).off, none⟩ = some (bv q) := by
      intro i hi
      obtain ⟨cs', h1, h2⟩ := hx i (by omega)
      rw [Nat.mul_one] at h1
      obtain ⟨hs, hbk, hc⟩ := cells_at h1 (by omega)
      obtain ⟨_, hlen, _⟩ := World.cells?_some h1
      match cs', hlen with
      | [c'], _ =>
        obtain ⟨q, rfl, hq⟩ := open5 h2
        refine ⟨UInt8.ofNat q, hs, hbk, ?_⟩
        rw [bv_ofNat q hq]
        exact hc 0 (by simp)
    obtain ⟨bs, hbl, hf⟩ := pick len hel
    obtain ⟨b, off, s⟩ := a
    subst hbl
    have hsp : 0 < bs.length → s = none := fun h0 => by have := (hf 0 h0).1; simpa [Addr.add] using this
    refine ⟨some bs, .inr ⟨b, off, s, cap, bs, e, rfl, fun h0 => ?_, fun j hj => ?_⟩⟩
    · have := (hf 0 h0).2.1
      exact ⟨hsp h0, Nat.zero_le _, by simpa [Addr.add] using this⟩
    · obtain rfl := hsp (by omega)
      have := (hf j hj).2.2
      rw [add_lit] at this
      rw [this, List.getD_eq_getElem?_getD, List.getElem?_eq_getElem hj]
      rfl

theorem open41 {fuel : Nat} {c : Value} {x : DataW H × List MemPlace} (h : DataW.trod enc Try.prog w 0 sp held fuel 41 [c] = some x) :
    ∃ ams : List Am, (∀ a ∈ ams, a.de.wf) ∧ AttrsIn w 0 w.heap.size c ams := by
  rcases Deep.open_slice Try.underlying41 h with ⟨e, _⟩ | ⟨a, len, cap, m, n, D, Pl, e, hb, hl, hm, hmm, _, hx⟩
  · injection e with e _
    exact ⟨[], by simp, .inl ⟨e, rfl⟩⟩
  · injection e with e _
    rw [Try.cells47] at hx
    have hle : len ≤ m := by rw [hmm]; split <;> omega
    have hel : ∀ i, i < len → ∃ q : Am, q.de.wf ∧ (a.add (i * 4)).spot = none ∧ (a.add (i * 4)).block < w.heap.size ∧ AttrAt w (a.add (i * 4)).block (a.add (i * 4)).off q := by
      intro i hi
      obtain ⟨cs', h1, h2⟩ := hx i (by omega)
      obtain ⟨hs, hbk, hc⟩ := cells_at h1 (by omega)
      obtain ⟨q, hq, rfl⟩ := open47 h2
      exact ⟨q, hq, hs, hbk, hc 0 (by simp), hc 1 (by simp), hc 2 (by simp), hc 3 (by simp)⟩
    obtain ⟨ams, hbl, hf⟩ := pick len hel
    obtain ⟨b, off, s⟩ := a
    subst hbl
    have hsp : 0 < ams.length → s = none := fun h0 => by have := (hf 0 h0).2.1; simpa [Addr.add] using this
    refine ⟨ams, ?_, .inr ⟨b, off, s, cap, e, fun h0 => ?_, fun j hj => ?_⟩⟩
    · intro q hq
      obtain ⟨i, hi, rfl⟩ := List.mem_iff_getElem.1 hq
      exact (hf i hi).1
    · have := (hf 0 h0).2.2.1
      exact ⟨hsp h0, Nat.zero_le _, by simpa [Addr.add] using this⟩
    · obtain rfl := hsp (by omega)
      have := (hf j hj).2.2.2
      rw [add_lit] at this
      exact this

theorem open43 {fuel : Nat} {cs : List Value} {x : DataW H × List MemPlace} (h : DataW.trod enc Try.prog w 0 sp held fuel 43 cs = some x) :
    ∃ (r : Re) (t u a ve : Value), r.wf ∧ cs = [.string r.key, .string r.desc, t, u, a, ve] ∧ PtrIn w 0 w.heap.size t r.tenant ∧ PtrIn w 0 w.heap.size u r.user ∧ AttrsIn w 0 w.heap.size a r.attrs ∧ VerIn w 0 w.heap.size ve r.ver := by
  have hl := len_of Try.underlying43 h
  rw [Try.cells43] at hl
  match cs, hl with
  | [c0, c1, c2, c3, c4, c5], _ =>
    obtain ⟨n0, y0, f0⟩ := field_of (tt := 9) (off := 0) Try.underlying43 h 0 rfl
    obtain ⟨n1, y1, f1⟩ := field_of (tt := 9) (off := 1) Try.underlying43 h 1 rfl
    obtain ⟨n2, y2, f2⟩ := field_of (tt := 40) (off := 2) Try.underlying43 h 2 rfl
    obtain ⟨n3, y3, f3⟩ := field_of (tt := 40) (off := 3) Try.underlying43 h 3 rfl
    obtain ⟨n4, y4, f4⟩ := field_of (tt := 41) (off := 4) Try.underlying43 h 4 rfl
    obtain ⟨n5, y5, f5⟩ := field_of (tt := 23) (off := 5) Try.underlying43 h 5 rfl
    simp only [Try.cells9, Try.cells40, Try.cells41, Try.cells23, List.drop_zero, List.drop_succ_cons, List.take_succ_cons, List.take_zero] at f0 f1 f2 f3 f4 f5
    obtain ⟨k, rfl, _⟩ := open9 f0
    obtain ⟨s, rfl, _⟩ := open9 f1
    obtain ⟨o2, w2, p2⟩ := open40 f2
    obtain ⟨o3, w3, p3⟩ := open40 f3
    obtain ⟨ams, w4, p4⟩ := open41 f4
    obtain ⟨o5, p5⟩ := open23 f5
    exact ⟨⟨k, s, o2, o3, ams, o5⟩, c2, c3, c4, c5, ⟨w2, w3, w4⟩, rfl, p2, p3, p4, p5⟩

theorem open22 {fuel : Nat} {c : Value} {x : DataW H × List MemPlace} (h : DataW.trod enc Try.prog w 0 sp held fuel 22 [c] = some x) :
    ∃ rs : List Re, (∀ r ∈ rs, r.wf) ∧ RegsIn w 0 w.heap.size c rs ∧ rs.length ≤ maxLen := by
  rcases Deep.open_slice Try.underlying22 h with ⟨e, _⟩ | ⟨a, len, cap, m, n, D, Pl, e, hb, hl, hm, hmm, _, hx⟩
  · injection e with e _
    exact ⟨[], by simp, .inl ⟨e, rfl⟩, Nat.zero_le _⟩
  · injection e with e _
    rw [Try.cells43] at hx
    have hle : len ≤ m := by rw [hmm]; split <;> omega
    have hel : ∀ i, i < len → ∃ q : Re, q.wf ∧ (a.add (i * 6)).spot = none ∧ (a.add (i * 6)).block < w.heap.size ∧ RegAt w 0 w.heap.size (a.add (i * 6)).block (a.add (i * 6)).off q := by
      intro i hi
      obtain ⟨cs', h1, h2⟩ := hx i (by omega)
      obtain ⟨hs, hbk, hc⟩ := cells_at h1 (by omega)
      obtain ⟨q, t, u, a', ve, hq, rfl, p1, p2, p3, p4⟩ := open43 h2
      exact ⟨q, hq, hs, hbk, t, u, a', ve, hc 0 (by simp), hc 1 (by simp), hc 2 (by simp), hc 3 (by simp), hc 4 (by simp), hc 5 (by simp), p1, p2, p3, p4⟩
    obtain ⟨rs, hbl, hf⟩ := pick len hel
    obtain ⟨b, off, s⟩ := a
    subst hbl
    have hsp : 0 < rs.length → s = none := fun h0 => by have := (hf 0 h0).2.1; simpa [Addr.add] using this
    refine ⟨rs, ?_, .inr ⟨b, off, s, cap, e, fun h0 => ?_, fun j hj => ?_⟩, by omega⟩
    · intro q hq
      obtain ⟨i, hi, rfl⟩ := List.mem_iff_getElem.1 hq
      exact (hf i hi).1
    · have := (hf 0 h0).2.2.1
      exact ⟨hsp h0, Nat.zero_le _, by simpa [Addr.add] using this⟩
    · obtain rfl := hsp (by omega)
      have := (hf j hj).2.2.2
      rw [add_lit] at this
      exact this

end
end Go.Proofs.Qxb6629102a
