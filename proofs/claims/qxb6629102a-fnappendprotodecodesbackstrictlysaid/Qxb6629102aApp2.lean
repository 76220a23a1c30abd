import Derived.Test.Qxb6629102aApp
import Derived.Maps.AppendAt
namespace Go.Proofs.Qxb6629102a
open Go.RowKit

/-- the bytes src lie at block b from off on -/
def At (w : World) (b off : Nat) (src : List UInt8) : Prop := ∀ j, j < src.length → w.cell? ⟨b, off + j, none⟩ = some (bv (src.getD j 0))

theorem At.lt {w : World} {b off : Nat} {src : List UInt8} (h : At w b off src) (hn : 0 < src.length) : b < w.heap.size := World.block_lt_of_cell? w _ (h 0 hn)

theorem At.kept {w w' : World} {b off : Nat} {src : List UInt8} {row : Option Nat} (h : At w b off src) (hg : w.grownBy w' row) (hne : 0 < src.length → some b ≠ row) : At w' b off src :=
  fun j hj => hg.cell (h j hj) (hne (by omega))

theorem At.news {w : World} {b off : Nat} {src : List UInt8} (h : At w b off src) : ∀ j u, (src.map bv)[j]? = some u → w.cell? ((⟨b, off, none⟩ : Addr).add j) = some u := by
  intro j u hu
  have hadd : (⟨b, off, none⟩ : Addr).add j = ⟨b, off + j, none⟩ := by unfold Addr.add; split <;> simp_all
  rw [hadd]
  have hj : j < src.length := by
    rcases Nat.lt_or_ge j src.length with h | h
    · exact h
    · rw [List.getElem?_eq_none (by simpa using h)] at hu; cases hu
  rw [h j hj, ← hu]
  simp [List.getElem?_map, List.getElem?_eq_getElem hj, List.getD_eq_getElem?_getD]

theorem At.newsS {w : World} {b off : Nat} {sp : Option Nat} {src : List UInt8} (h : At w b off src) (hsp : 0 < src.length → sp = none) : ∀ j u, (src.map bv)[j]? = some u → w.cell? ((⟨b, off, sp⟩ : Addr).add j) = some u := by
  intro j u hu
  rcases Nat.eq_zero_or_pos src.length with h0 | h0
  · rw [List.eq_nil_of_length_eq_zero h0] at hu; simp at hu
  · obtain rfl := hsp h0
    exact h.news j u hu

theorem bv_oneCell (src : List UInt8) : ∀ u ∈ src.map bv, u.oneCell' = true := by
  intro u hu
  simp only [List.mem_map] at hu
  obtain ⟨c, _, rfl⟩ := hu
  rfl

theorem ob_app {base : Nat} {w : World} {v : Value} {bs src : List UInt8} (h : w.ownsRow base 5 1 v (bs.length + src.length) (bs.map bv ++ src.map bv)) : OB base w v (bs ++ src) := by
  unfold OB; rw [List.length_append, List.map_append]; exact h

theorem App.of_own {w w1 : World} {v v' : Value} (hg : w.grownBy w1 v.ownBlock) (hat : v'.ownBlock = v.ownBlock ∨ v'.ownBlock = some w.heap.size) : App w v w1 v' :=
  ⟨hg, by rcases hat with h | h
          · exact .inl h
          · exact .inr ⟨_, h, Nat.le_refl _⟩⟩

/-- what lay in another block than v's still lies there -/
theorem App.at_ {w w1 : World} {v v' : Value} {b off : Nat} {src : List UInt8} (ha : App w v w1 v') (h : At w b off src) (hne : 0 < src.length → some b ≠ v.ownBlock) : At w1 b off src := h.kept ha.grown hne

theorem App.ne {w w1 : World} {v v' : Value} {b : Nat} (ha : App w v w1 v') (hlt : b < w.heap.size) (hne : some b ≠ v.ownBlock) : some b ≠ v'.ownBlock := by
  rcases ha.lies with e | ⟨g, e, hg⟩
  · rw [e]; exact hne
  · rw [e]; intro e2; cases e2; omega

set_option maxHeartbeats 400000 in
/-- AppendBytes -/
theorem appendBytes_any (base : Nat) (v : Value) (bs src : List UInt8) (b off c : Nat) (sp : Option Nat) (w : World) (hown : OB base w v bs) (hb : base ≤ w.heap.size) (hsrc : At w b off src) (hsp : 0 < src.length → sp = none) (hne : 0 < src.length → some b ≠ v.ownBlock)
    (hl : bs.length + src.length < 268435456) :
    Calls Try.prog 18 #[v, .slice (some ⟨b, off, sp⟩) src.length c] w fun e w' => ∃ v', e = .returned v' ∧ OB base w' v' (bs ++ (vb src.length ++ src)) ∧ App w v w' v' := by
  obtain ⟨i0, hi, hz0, hz1, hz2⟩ := info_parts Try.info5
  have hv4 := (vb_length src.length).2
  go_enter Try.func18, Try.ntmps18
  go_wp2_with fail
  refine (varint_any base _ bs _ _ (by omega) (by omega) hown hb (by omega)).mono ?_
  rintro e w1 ⟨v1, rfl, ho, ha⟩
  rw [Int.toNat_natCast] at ho
  have ho' := ho
  unfold OB at ho
  have hsrc1 := ha.at_ hsrc hne
  have hb1 : base ≤ w1.heap.size := Nat.le_trans hb ha.grown.size
  go_wp2_with (at_builtin; go_loud (refine wpList_append_own_at _ rfl _ _ 23 rfl base 5 i0 (.int .u8 0) 1 1 Try.underlying23 hi hz0 hz1 hz2 rfl (by decide) v1 _ _ rfl ho ⟨b, off, sp⟩ src.length c (src.map bv) rfl (by simp) (hsrc1.newsS hsp) (bv_oneCell src) (by unfold maxLen; rw [List.length_append]; omega) (by rw [List.length_append]; omega) hb1 ?_; intro v2 w2 hown1 hgrow hnil hat))
  go_ret
  refine ⟨_, rfl, ?_, ha.trans (App.of_own hgrow hat)⟩
  rw [← List.append_assoc]
  exact ob_app hown1

theorem string_lies {w : World} {base : Nat} {v : Value} {n : Nat} {xs : List Value} {i : TypeInfo} (t u ty : TypeId) (ht : Try.prog.underlying t = some (.slice 5)) (hu : Try.prog.underlying u = some .string) (hi : Try.prog.info? 5 = some i) (hz : i.zero = some (.int .u8 0))
    (hsize : i.size = 1) (hby : i.bytes = 1) (hown : w.ownsRow base 5 1 v n xs) (s : ByteArray) (hn : 0 < n) (h63 : n + s.size ≤ 1073741824) (hbase : base ≤ w.heap.size) :
    ∃ v' w', (Builtin.append_ #[t, u] ty #[v, .string s]).run Try.prog w = .ok v' w' ∧ w'.ownsRow base 5 1 v' (n + s.size) (xs ++ Lib.strCells s) ∧ w.grownBy w' v.ownBlock ∧ (v'.ownBlock = v.ownBlock ∨ v'.ownBlock = some w.heap.size) := by
  obtain ⟨v', w', hr, h2, h3, _⟩ := Lib.run_append_own_string (P := Try.prog) w base t u ty 5 i ht hu hi hz hsize hby v n xs hown s (by unfold maxLen; omega) (by omega) hbase
  refine ⟨v', w', hr, h2, h3, ?_⟩
  rcases hown.2 with ⟨rfl, h0⟩ | ⟨g, cap, cur, rfl, hbg, hg, hnc, hcm, hcs, htake⟩
  · omega
  · have hcs' : cur.size = cap := by simpa using hcs
    by_cases hroom : n + s.size ≤ cap
    · have hr2 := Lib.run_append_room_string (P := Try.prog) w t u ty 5 i ht hu hi hsize g n cap cur hg s hroom (by omega)
      rw [hr2] at hr
      injection hr with e1 e2
      subst e1
      exact .inl rfl
    · have holds : ∀ j u, xs[j]? = some u → w.cell? ((⟨g, 0, none⟩ : Addr).add j) = some u := hown.cells (g := g) rfl
      have hr2 := Lib.run_append_grow_string (P := Try.prog) w t u ty 5 i (.int .u8 0) ht hu hi hz ⟨g, 0, none⟩ n cap xs (by rw [hsize]; exact hown.1) holds s (by omega) (by omega) (by rw [hby]; exact growslice_fits (by omega) (by omega))
      rw [hr2] at hr
      injection hr with e1 e2
      subst e1
      exact .inr rfl

/-- the operation, for the walk -/
theorem wpList_string_lies {ops : Array Oper} {rest : List Oper} {o : Oper} {a : Act} {Q : Exit → Act → World → Prop} (w : World) (hgd : o.guard = none) (sl x : Operand) (t u : TypeId)
    (ho : o.op = .call { callee := .builtin .append, args := #[sl, x], argTypes := #[t, u] })
    (base : Nat) (i : TypeInfo) (ht : Try.prog.underlying t = some (.slice 5)) (hu : Try.prog.underlying u = some .string) (hi : Try.prog.info? 5 = some i) (hz : i.zero = some (.int .u8 0))
    (hsize : i.size = 1) (hby : i.bytes = 1)
    (v : Value) (n : Nat) (xs : List Value) (hs : a.eval sl = v) (hown : w.ownsRow base 5 1 v n xs) (s : ByteArray) (hx : a.eval x = .string s)
    (hn : 0 < n) (h63 : n + s.size ≤ 1073741824) (hbase : base ≤ w.heap.size)
    (h : ∀ v' w', w'.ownsRow base 5 1 v' (n + s.size) (xs ++ Lib.strCells s) → w.grownBy w' v.ownBlock → (v'.ownBlock = v.ownBlock ∨ v'.ownBlock = some w.heap.size) → wpList Try.prog ops Q rest (a.put o.dst v') w') : wpList Try.prog ops Q (o :: rest) a w := by
  refine wpList_plain hgd fun K hK => ?_
  obtain ⟨v', w', hr, h2, h3, h4⟩ := string_lies t u o.type ht hu hi hz hsize hby hown s hn h63 hbase
  unfold Oper.wp execOp
  simp only [ho, resolve, invoke, builtin, Sem.run_bind, Sem.run_pure, Result.andThen_ok, List.map_toArray, List.map_cons, List.map_nil, hs, hx, hr]
  exact hK _ _ (h v' w' h2 h3 h4)

set_option maxHeartbeats 400000 in
/-- AppendString -/
theorem appendString_any (base : Nat) (v : Value) (bs : List UInt8) (s : ByteArray) (w : World) (hown : OB base w v bs) (hb : base ≤ w.heap.size) (hl : bs.length + s.size < 268435456) :
    Calls Try.prog 27 #[v, .string s] w fun e w' => ∃ v', e = .returned v' ∧ OB base w' v' (bs ++ (vb s.size ++ s.data.toList)) ∧ App w v w' v' := by
  obtain ⟨i0, hi, hz0, hz1, hz2⟩ := info_parts Try.info5
  have hv := vb_length s.size
  go_enter Try.func27, Try.ntmps27
  go_wp2_with fail
  refine (varint_any base _ bs _ _ (by omega) (by omega) hown hb (by omega)).mono ?_
  rintro e w1 ⟨v1, rfl, ho, ha⟩
  rw [Int.toNat_natCast] at ho
  have ho' := ho
  unfold OB at ho
  have hb1 : base ≤ w1.heap.size := Nat.le_trans hb ha.grown.size
  go_wp2_with (at_builtin; go_loud (refine wpList_string_lies _ rfl _ _ 23 9 rfl base i0 Try.underlying23 Try.underlying9 hi hz0 hz1 hz2 v1 _ _ rfl ho s rfl (by rw [List.length_append]; omega) (by rw [List.length_append]; omega) hb1 ?_; intro v2 w2 hown1 hgrow hat))
  go_ret
  refine ⟨_, rfl, ?_, ha.trans (App.of_own hgrow hat)⟩
  rw [← List.append_assoc]
  refine ob_app ?_
  exact hown1

end Go.Proofs.Qxb6629102a
