import Derived.Test.Qxb6629102aProto
import Derived.Test.Qxb6629102aBytes
import Derived.Deep.RegionHeld3
namespace Go.Proofs.Qxb6629102a
open Go.RowKit
set_option linter.unusedSimpArgs false
set_option linter.unusedVariables false

theorem none_trans {a b c : World} (h : a.grownBy b none) (k : b.grownBy c none) : a.grownBy c none := h.trans k

set_option maxHeartbeats 400000 in
theorem toDef_any (s : ByteArray) (t c : Nat) (w : World) : Calls Try.prog 23 #[.agg #[.string s, .int .u8 (t : Int), .int .u8 (c : Int)]] w fun e w' => e = .returned (.agg #[.string s, .int .u8 (t : Int), .int .u8 (c : Int)]) ∧ ∃ o1 o2, w' = (w.alloc o1).alloc o2 := by
  go_enter Try.func23, Try.ntmps23
  go_wp2
  refine bodyPost_ret (v := .agg #[.string s, .int .u8 (t : Int), .int .u8 (c : Int)]) (by simp [results, Try.results23, go_sem]) rfl ⟨rfl, _, _, rfl⟩

theorem defAt_new (w : World) (d : De) : DefAt (w.alloc (.cells #[.string d.desc, .int .u8 (d.ty : Int), .int .u8 (d.card : Int)] 64)) w.heap.size 0 d := by
  refine ⟨?_, ?_, ?_⟩ <;> (rw [cell_of_row _ _ _ _ _ _ (heap_alloc_new w _)]; rfl)

set_option maxHeartbeats 400000 in
theorem toDefPtr_any (lo hi : Nat) (p : Value) (o : Option De) (w : World) (hp : PtrIn w lo hi p o) :
    Calls Try.prog 24 #[p] w fun e w' => ∃ a', e = .returned (.pointer a') ∧ PtrIn w' w.heap.size w'.heap.size (.pointer a') o ∧ w.grownBy w' none := by
  rcases hp with ⟨rfl, rfl⟩ | ⟨b, off, d, rfl, rfl, h1, h2, c0, c1, c2⟩
  · go_enter Try.func24, Try.ntmps24
    go_wp2
    go_ret
    exact ⟨_, rfl, .inl ⟨rfl, rfl⟩, World.grownBy.refl _ _⟩
  · go_enter Try.func24, Try.ntmps24
    go_wp2_with fail
    refine (toDef_any d.desc d.ty d.card _).mono ?_
    rintro e w' ⟨rfl, o1, o2, rfl⟩
    go_wp2
    go_ret
    have hg := defAt_new ((w.alloc o1).alloc o2) d
    have hs : ((w.alloc o1).alloc o2).heap.size = w.heap.size + 1 + 1 := by simp
    rw [hs] at hg
    exact ⟨_, rfl, .inr ⟨_, _, d, rfl, rfl, by omega, by simp, hg⟩, none_trans (none_trans (World.grownBy_alloc _ _ _) (World.grownBy_alloc _ _ _)) (World.grownBy_alloc _ _ _)⟩

/-- zzClone, of a version -/
theorem cloneVer_any (lo hi : Nat) (v : Value) (o : Option (List UInt8)) (w : World) (hv : VerIn w lo hi v o) (hl : ∀ bs, o = some bs → bs.length ≤ 1048576) :
    Calls Try.prog 7 #[v] w fun e w' => ∃ a' n' c', e = .returned (.slice a' n' c') ∧ VerIn w' w.heap.size w'.heap.size (.slice a' n' c') o ∧ w.grownBy w' none := by
  rcases hv with ⟨rfl, rfl⟩ | ⟨b, off, sp, c, bs, rfl, rfl, h1, h2⟩
  · refine (clone_nil w).mono ?_
    rintro e w' ⟨rfl, rfl⟩
    exact ⟨_, _, _, rfl, .inl ⟨rfl, rfl⟩, World.grownBy.refl _ _⟩
  · refine (clone_some w b off c sp bs h2 (fun h => (h1 h).1) (hl bs rfl)).mono ?_
    rintro e w' ⟨rfl, ho, hg⟩
    exact ⟨_, _, _, rfl, .inr ⟨_, _, _, _, bs, rfl, rfl, fun _ => ⟨rfl, Nat.le_refl _, (ho.lt _ rfl)⟩, At.of_own ho⟩, hg⟩

theorem PtrIn.wide {w : World} {lo hi lo' hi' : Nat} {p : Value} {o : Option De} (h : PtrIn w lo hi p o) (h1 : lo' ≤ lo) (h2 : hi ≤ hi') : PtrIn w lo' hi' p o := by
  rcases h with h | ⟨b, off, d, a1, a2, a3, a4, a5⟩
  · exact .inl h
  · exact .inr ⟨b, off, d, a1, a2, by omega, by omega, a5⟩
theorem AttrsIn.wide {w : World} {lo hi lo' hi' : Nat} {v : Value} {ams : List Am} (h : AttrsIn w lo hi v ams) (h1 : lo' ≤ lo) (h2 : hi ≤ hi') : AttrsIn w lo' hi' v ams := by
  rcases h with h | ⟨b, off, sp, c, a1, a2, a3⟩
  · exact .inl h
  · exact .inr ⟨b, off, sp, c, a1, fun h => ⟨(a2 h).1, by have := a2 h; omega⟩, a3⟩
theorem VerIn.wide {w : World} {lo hi lo' hi' : Nat} {v : Value} {o : Option (List UInt8)} (h : VerIn w lo hi v o) (h1 : lo' ≤ lo) (h2 : hi ≤ hi') : VerIn w lo' hi' v o := by
  rcases h with h | ⟨b, off, sp, c, bs, a1, a2, a3, a4⟩
  · exact .inl h
  · exact .inr ⟨b, off, sp, c, bs, a1, a2, fun h => ⟨(a3 h).1, by have := a3 h; omega⟩, a4⟩

theorem Try.info67 : (Try.prog.info? 67).map (fun i => (i.zero, i.size, i.bytes)) = some (some (.agg #[.string ByteArray.empty, .string ByteArray.empty, .int .u8 0, .int .u8 0]), 4, 40) := by kernel_rfl

/-- a row of the call's own, n cells long -/
def Row (w : World) (g : Nat) (t : TypeId) (n : Nat) : Prop := ∃ cur : Array Value, w.heap[g]? = some (.cells cur t (0, 0)) ∧ cur.size = n
theorem Row.of_own {w : World} {base e size g n : Nat} {xs : List Value} (h : w.ownsRow base e size (.slice (some ⟨g, 0, none⟩) n n) n xs) : Row w g e (n * size) := by
  rcases h.2 with ⟨h, _⟩ | ⟨g2, cap, cur, h, hb, hg, hnc, hcm, hcs, ht⟩
  · cases h
  injection h with h _ h3
  injection h with h
  injection h with h
  subst h; subst h3
  exact ⟨cur, hg, hcs⟩
theorem Row.cell {w : World} {g t n : Nat} (h : Row w g t n) (j : Nat) (hj : j < n) : ∃ x, w.cell? ⟨g, j, none⟩ = some x := by
  obtain ⟨cur, h1, h2⟩ := h
  refine ⟨cur[j]'(by omega), ?_⟩
  rw [cell_of_row w g j cur t _ h1]
  exact Array.getElem?_eq_getElem _
theorem Row.frozen {w : World} {g t n : Nat} (h : Row w g t n) (j : Nat) : w.frozen? ⟨g, j, none⟩ = false := by
  obtain ⟨cur, h1, h2⟩ := h
  simp [World.frozen?, h1]
theorem Row.lt {w : World} {g t n : Nat} (h : Row w g t n) : g < w.heap.size := by
  obtain ⟨cur, h1, h2⟩ := h
  exact (Array.getElem?_eq_some_iff.1 h1).1

theorem Row.setCell {w : World} {g t n : Nat} (h : Row w g t n) (o : Nat) (v : Value) : Row (w.setCell ⟨g, o, none⟩ v) g t n := by
  obtain ⟨cur, h1, h2⟩ := h
  refine ⟨cur.setIfInBounds o v, ?_, by simpa using h2⟩
  show (w.heap.modify g _)[g]? = _
  rw [Array.getElem?_modify, if_pos rfl, h1]
  rfl
theorem Row.setCells {g t n : Nat} (vs : List Value) : ∀ (o : Nat) {w : World}, Row w g t n → Row (w.setCells g o vs) g t n := by
  induction vs with
  | nil => intro o w h; exact h
  | cons v r ih => intro o w h; exact ih (o + 1) (h.setCell o v)
theorem grownBy_setCells (g : Nat) (vs : List Value) : ∀ (o : Nat) (w : World), w.grownBy (w.setCells g o vs) (some g) := by
  induction vs with
  | nil => intro o w; exact World.grownBy.refl _ _
  | cons v r ih =>
    intro o w
    refine World.grownBy.trans (b := w.setCell ⟨g, o, none⟩ v) ?_ (ih (o + 1) _)
    exact ⟨rfl, rfl, rfl, by simp [World.setCell], fun k _ hk => Below.heap_setCell w _ _ k (fun e => hk (by rw [e]))⟩
theorem Row.kept {w w' : World} {g t n : Nat} {row : Option Nat} (h : Row w g t n) (hg : w.grownBy w' row) (hne : some g ≠ row) : Row w' g t n := by
  have hl := h.lt
  obtain ⟨cur, h1, h2⟩ := h
  exact ⟨cur, (hg.block g hl hne).trans h1, h2⟩

/-- a row in which the cells vs have been laid from o on -/
structure Laid (wr W : World) (g t n o : Nat) (vs : List Value) : Prop where
  row : Row W g t n
  new : ∀ j (h : j < vs.length), W.cell? ⟨g, o + j, none⟩ = some vs[j]
  old : ∀ b x v, wr.cell? ⟨b, x, none⟩ = some v → (b ≠ g ∨ x < o) → W.cell? ⟨b, x, none⟩ = some v
  grown : wr.grownBy W (some g)

theorem Laid.mk0 {wr : World} {g t n o : Nat} (vs : List Value) (hr : Row wr g t n) (hn : o + vs.length ≤ n) : Laid wr (wr.setCells g o vs) g t n o vs := by
  refine ⟨hr.setCells vs o, ?_, ?_, grownBy_setCells g vs o wr⟩
  · intro j hj
    refine World.cell?_setCells_in g vs o wr (fun i hi => ?_) j hj
    obtain ⟨x, hx⟩ := hr.cell (o + i) (by omega)
    rw [hx]; rfl
  · intro b x v hv hne
    rw [World.cell?_setCells_out g vs o wr ⟨b, x, none⟩ (fun e _ => by simp at e ⊢; omega)]
    exact hv
theorem Laid.later {wr W W' : World} {g t n o : Nat} {vs : List Value} (h : Laid wr W g t n o vs) (hg : W.grownBy W' none) : Laid wr W' g t n o vs :=
  ⟨h.row.kept hg (by simp), fun j hj => hg.cell (h.new j hj) (by simp), fun b x v hv hne => hg.cell (h.old b x v hv hne) (by simp),
   h.grown.trans ⟨hg.os, hg.tape, hg.output, hg.size, fun k hk _ => hg.block k hk (by simp)⟩⟩
theorem grownBy_drew (w : World) : w.grownBy w.drew none := ⟨rfl, rfl, rfl, Nat.le_refl _, fun _ _ _ => rfl⟩

/-- a row of the call's own was written: nothing old turned -/
theorem none_of_some {a b c : World} {g : Nat} (h : a.grownBy b none) (k : b.grownBy c (some g)) (hg : a.heap.size ≤ g) : a.grownBy c none :=
  ⟨k.os.trans h.os, k.tape.trans h.tape, k.output.trans h.output, Nat.le_trans h.size k.size, fun i hi _ => (k.block i (Nat.lt_of_lt_of_le hi h.size) (by intro e; cases e; omega)).trans (h.block i hi (by simp))⟩
theorem laid4 {wr : World} {g t n k : Nat} (x0 x1 x2 x3 : Value) (o1 o2 : Obj) (hr : Row wr g t n) (hn : k + 4 ≤ n) :
    Laid wr ((((((wr.setCell ⟨g, k, none⟩ x0).setCell ⟨g, k + 1, none⟩ x1).setCell ⟨g, k + 2, none⟩ x2).setCell ⟨g, k + 3, none⟩ x3).alloc o1).alloc o2).drew g t n k [x0, x1, x2, x3] :=
  (Laid.mk0 [x0, x1, x2, x3] hr (by simpa using hn)).later (none_trans (World.grownBy_alloc _ o1 none) (none_trans (World.grownBy_alloc _ o2 none) (grownBy_drew _)))

theorem attr_step {W0 wr W : World} {g n k : Nat} {ams : List Am} {ea : Am} (L : Laid wr W g 67 n (k * 4) [.string ea.name, .string ea.de.desc, .int .u8 (ea.de.ty : Int), .int .u8 (ea.de.card : Int)]) (hlt : k < ams.length)
    (hat : ∀ j (h : j < ams.length), j < k → AttrAt wr g (j * 4) ams[j]) (hea : ea = ams[k]) (hgr : W0.grownBy wr none) (hg : W0.heap.size ≤ g) :
    Row W g 67 n ∧ (∀ j (h : j < ams.length), j < k + 1 → AttrAt W g (j * 4) ams[j]) ∧ W0.grownBy W none := by
  refine ⟨L.row, ?_, none_of_some hgr L.grown hg⟩
  intro j h hj
  by_cases e : j = k
  · subst e
    rw [← hea]
    exact ⟨L.new 0 (by simp), L.new 1 (by simp), L.new 2 (by simp), L.new 3 (by simp)⟩
  · have h0 := hat j h (by omega)
    exact ⟨L.old _ _ _ h0.1 (.inr (by omega)), L.old _ _ _ h0.2.1 (.inr (by omega)), L.old _ _ _ h0.2.2.1 (.inr (by omega)), L.old _ _ _ h0.2.2.2 (.inr (by omega))⟩

theorem laid6 {wr : World} {g t : Nat} (x0 x1 x2 x3 x4 x5 : Value) (hr : Row wr g t 6) :
    Laid wr ((((((wr.setCell ⟨g, 0, none⟩ x0).setCell ⟨g, 1, none⟩ x1).setCell ⟨g, 2, none⟩ x2).setCell ⟨g, 3, none⟩ x3).setCell ⟨g, 4, none⟩ x4).setCell ⟨g, 5, none⟩ x5) g t 6 0 [x0, x1, x2, x3, x4, x5] :=
  Laid.mk0 [x0, x1, x2, x3, x4, x5] hr (by simp)
theorem Same.of_grownS {lo hi g : Nat} {w w' : World} (hg : w.grownBy w' (some g)) (hlo : g < lo) (hhi : hi ≤ w.heap.size) : Same lo hi w w' := fun k h1 hk => hg.block k (by omega) (by intro e; injection e; omega)

/-- what stands while the registration is built: nothing old turned, the argument's box, the result's row -/
structure RInv (w w' : World) (box : Obj) : Prop where
  grown : w.grownBy w' none
  box : w'.heap[w.heap.size]? = some box
  row : Row w' (w.heap.size + 1) 38 6
theorem RInv.step {w w' w'' : World} {box : Obj} (h : RInv w w' box) (hg : w'.grownBy w'' none) : RInv w w'' box :=
  ⟨none_trans h.grown hg, (hg.block _ (by have := h.row.lt; omega) (by simp)).trans h.box, h.row.kept hg (by simp)⟩
theorem RInv.laid {w w' : World} {box : Obj} (h : RInv w w' box) (x0 x1 x2 x3 x4 x5 : Value) : RInv w ((((((w'.setCell ⟨w.heap.size + 1, 0, none⟩ x0).setCell ⟨w.heap.size + 1, 1, none⟩ x1).setCell ⟨w.heap.size + 1, 2, none⟩ x2).setCell ⟨w.heap.size + 1, 3, none⟩ x3).setCell ⟨w.heap.size + 1, 4, none⟩ x4).setCell ⟨w.heap.size + 1, 5, none⟩ x5) box := by
  have hg := grownBy_setCells (w.heap.size + 1) [x0, x1, x2, x3, x4, x5] 0 w'
  exact ⟨none_of_some h.grown hg (by omega), (hg.block _ (by have := h.row.lt; omega) (by intro e; injection e; omega)).trans h.box, h.row.setCells [x0, x1, x2, x3, x4, x5] 0⟩
theorem RInv.drew {w w' : World} {box : Obj} (h : RInv w w' box) : RInv w w'.drew box := h.step (grownBy_drew _)
theorem RInv.cell {w w' : World} {cs : Array Value} {t : TypeId} (h : RInv w w' (.cells cs t)) (j : Nat) {v : Value} (hj : j < cs.size) (hv : cs[j] = v) : w'.cell? ⟨w.heap.size, j, none⟩ = some v := by
  rw [cell_of_row w' _ j cs t _ h.box, Array.getElem?_eq_getElem hj, hv]
theorem RInv.all {w w' : World} {a b c d e f : Value} {t : TypeId} (h : RInv w w' (.cells #[a, b, c, d, e, f] t)) :
    w'.cell? ⟨w.heap.size, 0, none⟩ = some a ∧ w'.cell? ⟨w.heap.size, 1, none⟩ = some b ∧ w'.cell? ⟨w.heap.size, 2, none⟩ = some c ∧ w'.cell? ⟨w.heap.size, 3, none⟩ = some d ∧ w'.cell? ⟨w.heap.size, 4, none⟩ = some e ∧ w'.cell? ⟨w.heap.size, 5, none⟩ = some f :=
  ⟨h.cell 0 (by simp) rfl, h.cell 1 (by simp) rfl, h.cell 2 (by simp) rfl, h.cell 3 (by simp) rfl, h.cell 4 (by simp) rfl, h.cell 5 (by simp) rfl⟩

set_option maxHeartbeats 1000000 in
theorem toReg_any (lo hi : Nat) (r : Re) (t u a ve : Value) (w : World) (h1 : PtrIn w lo hi t r.tenant) (h2 : PtrIn w lo hi u r.user) (h3 : AttrsIn w lo hi a r.attrs) (h4 : VerIn w lo hi ve r.ver)
    (hhi : hi ≤ w.heap.size) (hlv : ∀ bs, r.ver = some bs → bs.length ≤ 1048576) (hla : r.attrs.length ≤ 1048576) :
    Calls Try.prog 16 #[.agg #[.string r.key, .string r.desc, t, u, a, ve]] w fun e w' => ∃ t' u' a' ve', e = .returned (.agg #[.string r.key, .string r.desc, t', u', a', ve']) ∧
      PtrIn w' w.heap.size w'.heap.size t' r.tenant ∧ PtrIn w' w.heap.size w'.heap.size u' r.user ∧ AttrsIn w' w.heap.size w'.heap.size a' r.attrs ∧ VerIn w' w.heap.size w'.heap.size ve' r.ver ∧ w.grownBy w' none := by
  obtain ⟨key, desc, tn, us, ams, vr⟩ := r
  simp only at h1 h2 h3 h4 hlv hla ⊢
  obtain ⟨pt, rfl⟩ := h1.form
  obtain ⟨pu, rfl⟩ := h2.form
  obtain ⟨aa, an, ac, rfl⟩ := h3.form
  obtain ⟨va, vn, vc, rfl⟩ := h4.form
  obtain rfl := h3.len
  have hn := fun (wx : World) => run_neq_slice_nil_any (P := Try.prog) wx 41 47 aa ams.length ac 0 0 Try.underlying41
  go_enter Try.func16, Try.ntmps16
  obtain ⟨W0, hW0⟩ : ∃ W0 : World, W0 = ((w.alloc (.cells #[.string key, .string desc, .pointer pt, .pointer pu, .slice aa ams.length ac, .slice va vn vc] 43)).alloc (.cells #[.string ⟨#[]⟩, .string ⟨#[]⟩, .pointer none, .pointer none, .slice none 0 0, .slice none 0 0] 38)) := ⟨_, rfl⟩
  have hG0 : w.grownBy W0 none := by rw [hW0]; exact none_trans (World.grownBy_alloc _ _ _) (World.grownBy_alloc _ _ _)
  have hS0 : W0.heap.size = w.heap.size + 1 + 1 := by rw [hW0]; simp
  have hB0 : W0.heap[w.heap.size]? = some (.cells #[.string key, .string desc, .pointer pt, .pointer pu, .slice aa ams.length ac, .slice va vn vc] 43) := by
    rw [hW0, Below.heap_alloc _ _ _ (by simp)]; exact heap_alloc_new w _
  have hR0 : W0.heap[w.heap.size + 1]? = some (.cells #[.string ⟨#[]⟩, .string ⟨#[]⟩, .pointer none, .pointer none, .slice none 0 0, .slice none 0 0] 38) := by
    rw [hW0]
    have h := heap_alloc_new (w.alloc (.cells #[.string key, .string desc, .pointer pt, .pointer pu, .slice aa ams.length ac, .slice va vn vc] 43)) (.cells #[.string ⟨#[]⟩, .string ⟨#[]⟩, .pointer none, .pointer none, .slice none 0 0, .slice none 0 0] 38)
    simpa using h
  have HG0 : Hid (W0.grownBy W0 none) := World.grownBy.refl _ _
  go_upto_if 7 with fail
  rw [← hW0]
  go_cut [3] (fun s3 wk => AttrsIn wk (w.heap.size + 2) wk.heap.size s3 ams ∧ W0.grownBy wk none)
  case first =>
    have HB0 : Hid (W0.heap[w.heap.size]? = some (.cells #[.string key, .string desc, .pointer pt, .pointer pu, .slice aa ams.length ac, .slice va vn vc] 43)) := hB0
    have HS0 : Hid (W0.heap.size = w.heap.size + 1 + 1) := hS0
    have hS0' : w.heap.size + 2 ≤ W0.heap.size := by omega
    have bx4 : W0.cell? ⟨w.heap.size, 4, none⟩ = some (.slice aa ams.length ac) := by rw [cell_of_row W0 _ 4 _ _ _ hB0]; rfl
    clear hW0 hB0 hR0 hS0 h1 h2 h4 hlv
    rcases h3 with ⟨e1, e2⟩ | ⟨b, off, sp, c, e1, l1, hc⟩
    · injection e1 with e1 _ e3
      subst e1; subst e3; subst e2
      go_wp2
      go_meet
      case rel => exact ⟨.inl ⟨rfl, rfl⟩, HG0.out⟩
    · injection e1 with e1 _ e3
      subst e1; subst e3
      obtain ⟨i0, hinf, hz0, hz1, hz2⟩ := info_parts Try.info67
      go_wp2_with (at_make; go_loud (refine wpList_make_full _ rfl _ _ 36 rfl (w.heap.size + 2) 67 i0 _ 4 Try.underlying36 hinf hz0 hz1 _ _ _ _ ams.length rfl rfl rfl rfl (by rw [hz2]; omega) (by unfold maxLen; omega) (by omega) ?_; intro w1 hown hgrow))
      have hrow := Row.of_own hown
      have bx41 := hgrow.cell bx4 (by simp)
      clear hown
      go_wp2
      go_loopw [4] (fun i wr => ∃ k : Nat, k ≤ ams.length ∧ i = .int .i64 k ∧ Row wr W0.heap.size 67 (ams.length * 4) ∧ (∀ j (h : j < ams.length), j < k → AttrAt wr W0.heap.size (j * 4) ams[j]) ∧ W0.grownBy wr none) (fun i _ => ams.length - (intOf i).toNat)
      case atStart => exact ⟨0, Nat.zero_le _, rfl, hrow, fun j h hj => absurd hj (Nat.not_lt_zero _), hgrow⟩
      case round =>
        obtain ⟨k, hk, rfl, rw_, hat, hgr⟩ := hrel
        have bxr := hgr.cell bx4 (by simp)
        have zr := hgr.size
        clear hrow bx41 hgrow
        by_cases hlt : k < ams.length
        · obtain ⟨rfl, l1, l2⟩ := l1 (by omega)
          have hc0 := hc k hlt
          obtain ⟨ea, hea⟩ : ∃ ea, ea = ams[k] := ⟨_, rfl⟩
          rw [← hea] at hc0
          have HEA : Hid (ea = ams[k]) := hea
          clear hea
          have S := Same.of_grown (lo := lo) (none_trans hG0 hgr) hhi
          have c0 := S.cell l1 l2 hc0.1
          obtain ⟨c1, c2, c3⟩ := S.defAt l1 l2 hc0.2
          obtain ⟨y0, t0⟩ := rw_.cell (k * 4) (by omega)
          obtain ⟨y1, t1⟩ := rw_.cell (k * 4 + 1) (by omega)
          obtain ⟨y2, t2⟩ := rw_.cell (k * 4 + 2) (by omega)
          obtain ⟨y3, t3⟩ := rw_.cell (k * 4 + 3) (by omega)
          have f0 := rw_.frozen (k * 4)
          have f1 := rw_.frozen (k * 4 + 1)
          have f2 := rw_.frozen (k * 4 + 2)
          have f3 := rw_.frozen (k * 4 + 3)
          have n1 : b ≠ W0.heap.size := by omega
          have n2 : w.heap.size ≠ W0.heap.size := by omega
          have n3 : W0.heap.size ≠ b := by omega
          have n4 : W0.heap.size ≠ w.heap.size := by omega
          have i1 : (k : Int) < (ams.length : Int) := by omega
          have glt := rw_.lt
          have glt2 : W0.heap.size < wr.heap.size + 1 := by omega
          have hkn : k * 4 + 4 ≤ ams.length * 4 := by omega
          have HR := rw_
          clear hc0 S hc
          go_wp2
          go_region_held3 (fun w' => w'.cell? ⟨w.heap.size, 4, none⟩ = some (.slice (some ⟨b, off, none⟩) ams.length ac) ∧ w'.cell? ⟨b, off + k * 4, none⟩ = some (.string ea.name) ∧ w'.cell? ⟨b, off + k * 4 + 1, none⟩ = some (.string ea.de.desc) ∧
            w'.cell? ⟨b, off + k * 4 + 1 + 1, none⟩ = some (.int .u8 (ea.de.ty : Int)) ∧ w'.cell? ⟨b, off + k * 4 + 1 + 2, none⟩ = some (.int .u8 (ea.de.card : Int))) (first | (simp [*, World.cell?_alloc_some]; done) | (have L := laid4 (.string ea.name) (.string ea.de.desc) (.int .u8 (ea.de.ty : Int)) (.int .u8 (ea.de.card : Int)) o1 o2 HR hkn; exact ⟨L.old _ _ _ bxr (.inl n2), L.old _ _ _ c0 (.inl n1), L.old _ _ _ c1 (.inl n1), L.old _ _ _ c2 (.inl n1), L.old _ _ _ c3 (.inl n1)⟩))
            (first | (go_at_call 23; refine (toDef_any ea.de.desc ea.de.ty ea.de.card _).mono ?_; rintro e w' ⟨rfl, o1, o2, rfl⟩))
          have L := laid4 (.string ea.name) (.string ea.de.desc) (.int .u8 (ea.de.ty : Int)) (.int .u8 (ea.de.card : Int)) o1 o2 HR hkn
          obtain ⟨hrow', hall, hgrn⟩ := attr_step L hlt hat HEA.out hgr (Nat.le_refl _)
          clear L hat rw_ HR bxr c0 c1 c2 c3 t0 t1 t2 t3 f0 f1 f2 f3
          go_wp2
          go_roundw
          case rel => exact ⟨k + 1, by omega, by go_num, hrow', hall, hgrn⟩
          case measure => simp [intOf]; omega
        · have hkk : k = ams.length := by omega
          subst hkk
          clear hc hlt
          go_wp2
          go_meet
          case rel => exact ⟨.inr ⟨W0.heap.size, 0, _, _, rfl, fun _ => ⟨rfl, by omega, rw_.lt⟩, fun j hj => by rw [Nat.zero_add]; exact hat j hj hj⟩, hgr⟩
  case rest =>
    obtain ⟨hA, hGc⟩ := hcut
    obtain ⟨a3, n3, c3, rfl⟩ := hA.form
    have I0 : RInv w wc (.cells #[.string key, .string desc, .pointer pt, .pointer pu, .slice aa ams.length ac, .slice va vn vc] 43) :=
      ⟨none_trans hG0 hGc, (hGc.block _ (by omega) (by simp)).trans hB0, Row.kept ⟨_, hR0, rfl⟩ hGc (by simp)⟩
    have q0 := I0.cell 0 (by simp) rfl
    have q1 := I0.cell 1 (by simp) rfl
    have q2 := I0.cell 2 (by simp) rfl
    have q3 := I0.cell 3 (by simp) rfl
    have q4 := I0.cell 4 (by simp) rfl
    have q5 := I0.cell 5 (by simp) rfl
    have HA : Hid (AttrsIn wc (w.heap.size + 2) wc.heap.size (.slice a3 n3 c3) ams) := hA
    clear hW0 hB0 hR0 hn hA hGc hG0 HG0 h3
    go_wp2
    go_region_held3 (fun w' => w'.cell? ⟨w.heap.size, 0, none⟩ = some (.string key) ∧ w'.cell? ⟨w.heap.size, 1, none⟩ = some (.string desc) ∧ w'.cell? ⟨w.heap.size, 2, none⟩ = some (.pointer pt) ∧ w'.cell? ⟨w.heap.size, 3, none⟩ = some (.pointer pu) ∧ w'.cell? ⟨w.heap.size, 4, none⟩ = some (.slice aa ams.length ac) ∧ w'.cell? ⟨w.heap.size, 5, none⟩ = some (.slice va vn vc))
      ((refine RInv.all (t := 43) ?_; first | with_reducible exact I0.drew | with_reducible exact I1 | with_reducible exact I2 | with_reducible exact I3 | with_reducible exact I3.laid _ _ _ _ _ _))
      (first
        | (go_at_call_of 24 (Value.pointer pt); refine (toDefPtr_any lo hi _ tn _ ?_).mono ?_; exact (Same.of_grown I0.drew.grown hhi).ptrIn h1; rintro e w1 ⟨pT, rfl, hT, gT⟩; have I1 := I0.drew.step gT)
        | (go_at_call_of 24 (Value.pointer pu); refine (toDefPtr_any lo hi _ us _ ?_).mono ?_; exact (Same.of_grown I1.grown hhi).ptrIn h2; rintro e w2 ⟨pU, rfl, hU, gU⟩; have I2 := I1.step gU)
        | (go_at_call 7; refine (cloneVer_any lo hi _ vr _ ?_ hlv).mono ?_; exact (Same.of_grown I2.grown hhi).verIn h4; rintro e w3 ⟨pV, nV, cV, rfl, hV, gV⟩; have I3 := I2.step gV; obtain ⟨y0, r0⟩ := I3.row.cell 0 (by omega); obtain ⟨y1, r1⟩ := I3.row.cell 1 (by omega); obtain ⟨y2, r2⟩ := I3.row.cell 2 (by omega); obtain ⟨y3, r3⟩ := I3.row.cell 3 (by omega); obtain ⟨y4, r4⟩ := I3.row.cell 4 (by omega); obtain ⟨y5, r5⟩ := I3.row.cell 5 (by omega); have z0 := I3.row.frozen 0; have z1 := I3.row.frozen 1; have z2 := I3.row.frozen 2; have z3 := I3.row.frozen 3; have z4 := I3.row.frozen 4; have z5 := I3.row.frozen 5))
    have L := laid6 (.string key) (.string desc) (.pointer pT) (.pointer pU) (.slice a3 n3 c3) (.slice pV nV cV) I3.row
    have zc : w.heap.size + 2 ≤ wc.heap.size := by have := I0.row.lt; omega
    have zT : wc.heap.size ≤ w1.heap.size := gT.size
    have zU := gU.size
    have zV := gV.size
    have zW := L.grown.size
    have fT := (Same.of_grownS L.grown (by first | omega | (simp; omega)) (by omega)).ptrIn ((Same.of_grown (none_trans gU gV) (Nat.le_refl _)).ptrIn hT)
    have fU := (Same.of_grownS L.grown (by first | omega | (simp; omega)) (by omega)).ptrIn ((Same.of_grown gV (Nat.le_refl _)).ptrIn hU)
    have fA := (Same.of_grownS L.grown (by first | omega | (simp; omega)) (by omega)).attrsIn ((Same.of_grown (none_trans (none_trans (none_trans (grownBy_drew wc) gT) gU) gV) (Nat.le_refl _)).attrsIn HA.out)
    have fV := (Same.of_grownS L.grown (by first | omega | (simp; omega)) (by omega)).verIn hV
    have gW := none_of_some I3.grown L.grown (by omega)
    have e0 := L.new 0 (by simp)
    have e1 := L.new 1 (by simp)
    have e2 := L.new 2 (by simp)
    have e3 := L.new 3 (by simp)
    have e4 := L.new 4 (by simp)
    have e5 := L.new 5 (by simp)
    simp only [Nat.zero_add, List.getElem_cons_zero, List.getElem_cons_succ] at e0 e1 e2 e3 e4 e5
    replace fT := fT.wide (lo' := w.heap.size) (by first | omega | (simp; omega)) (Nat.le_trans zU (Nat.le_trans zV zW))
    replace fU := fU.wide (lo' := w.heap.size) (by omega) (Nat.le_trans zV zW)
    replace fA := fA.wide (lo' := w.heap.size) (by omega) (Nat.le_trans zT (Nat.le_trans zU (Nat.le_trans zV zW)))
    replace fV := fV.wide (lo' := w.heap.size) (by omega) zW
    clear L hT hU hV HA I0 I1 I2 I3 gT gU gV r0 r1 r2 r3 r4 r5 z0 z1 z2 z3 z4 z5 q0 q1 q2 q3 q4 q5
    go_wp2
    refine bodyPost_ret (v := .agg #[.string key, .string desc, .pointer pT, .pointer pU, .slice a3 n3 c3, .slice pV nV cV]) (by simp [results, Try.results16, go_sem, e0, e1, e2, e3, e4, e5]) rfl ⟨_, _, _, _, rfl, fT, fU, fA, fV, gW⟩

end Go.Proofs.Qxb6629102a
