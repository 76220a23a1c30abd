import Derived.Test.Qxb6629149aRows
import Derived.Test.Qxb6629149aShelf
import Derived.WalkKit
import Derived.WalkSpells
import Derived.WalkLawsBesides
import Derived.ProofKit
namespace Go.Proofs.Qxb6629149a
open Go.RowKit
set_option linter.unusedSimpArgs false
set_option linter.unusedVariables false

/-- kept out of the walk's sight -/
def Hid (p : Prop) : Prop := p
theorem Hid.out {p : Prop} (h : Hid p) : p := h
theorem size34 : (Try.prog.info? 34).map (·.size) = some 2 := by kernel_rfl
theorem info5 : (Try.prog.info? 5).map (fun i => (i.zero, i.size, i.bytes)) = some (some (.int .u8 0), 1, 1) := by kernel_rfl

set_option maxHeartbeats 1000000 in
set_option maxRecDepth 100000 in
/-- copyCheck at a builder that has been used -/
theorem copyCheck_used (b : Nat) (w : World) (h0 : w.cell? ⟨b, 0, none⟩ = some (.pointer (some ⟨b, 0, none⟩))) :
    Calls Try.prog 13 #[.pointer (some ⟨b, 0, none⟩)] w fun e w' => e = .returned (.tuple #[]) ∧ w' = w := by
  obtain ⟨j, hj, _⟩ := Option.map_eq_some_iff.1 size34
  go_enter Try.func13, Try.ntmps13
  go_wp2
  rw [Lib.run_neq_ptr_same w _ Try.underlying31 hj]
  go_wp2
  go_end0
  exact ⟨rfl, rfl⟩

/-- a builder that has been used, and the bytes that it holds -/
def Bd (B b : Nat) (l : List UInt8) (w : World) : Prop := Lib.BuilderAt 34 5 B b (.pointer (some ⟨b, 0, none⟩)) (Lib.byteCells l) w

set_option maxHeartbeats 2000000 in
set_option maxRecDepth 100000 in
/-- WriteByte -/
theorem writeByte_any (B b : Nat) (l : List UInt8) (c : UInt8) (x : Int) (w : World) (hx : x = (c.toNat : Int)) (h : Bd B b l w) (hlen : l.length + 1 ≤ 140737488355328) (hBw : B ≤ w.heap.size) :
    Calls Try.prog 10 #[.pointer (some ⟨b, 0, none⟩), .int .u8 x] w fun e w' => e = .returned .nilIface ∧ Bd B b (l ++ [c]) w' ∧ Below B w w' := by
  subst hx
  obtain ⟨bs, hbs⟩ : ∃ bs, bs = Lib.byteCells l := ⟨_, rfl⟩
  have hl : bs.length = l.length := by rw [hbs]; simp [Lib.byteCells]
  have h1 := h
  unfold Bd at h1
  rw [← hbs] at h1
  have HB : Hid (bs = Lib.byteCells l) := hbs
  have hlen' : bs.length + 1 ≤ 140737488355328 := by omega
  clear hbs hl hlen
  obtain ⟨i0, hi, hz0, hz1, hz2⟩ := info_parts info5
  go_enter Try.func10, Try.ntmps10
  go_wp2_with fail
  refine (copyCheck_used b _ h1.cell0).mono ?_
  rintro e w1 ⟨rfl, rfl⟩
  obtain ⟨hB, v, hbk, hown, hne⟩ := h1
  have c0 : w1.cell? ⟨b, 0, none⟩ = some (.pointer (some ⟨b, 0, none⟩)) := by rw [Lib.cell_of_heap hbk]; rfl
  have c1 : w1.cell? ⟨b, 1, none⟩ = some v := by rw [Lib.cell_of_heap hbk]; rfl
  go_wp2_with (at_builtin; refine wpList_append_own _ rfl _ _ 32 rfl B 5 i0 (.int .u8 0) 1 1 Try.underlying32 hi hz0 hz1 hz2 rfl (by decide) _ _ _ rfl (hown.alloc _) ⟨w1.heap.size, 0, none⟩ 1 1 [.int .u8 (c.toNat : Int)] rfl rfl ?c1 ?c2 ?c3 ?c4 ?c5 ?_)
  case c1 =>
    intro j u hj
    match j, hj with
    | 0, hj => simp at hj; subst hj; simp [Addr.add]
  case c2 => intro u hu; simp at hu; subst hu; rfl
  case c3 => unfold maxLen; omega
  case c4 => omega
  case c5 => simp; omega
  intro v' w2 hown' hgrow _
  have hlt : b < w1.heap.size := by
    rcases Nat.lt_or_ge b w1.heap.size with h' | h'
    · exact h'
    · simp [Array.getElem?_eq_none h'] at hbk
  have hb2 : w2.heap[b]? = some (.cells #[.pointer (some ⟨b, 0, none⟩), v] 34 (0, 0)) := by
    rw [hgrow.block b (by simp; omega) (fun e => hne e.symm), Lib.alloc_old w1 _ b hlt]
    exact hbk
  have d0 : w2.cell? ⟨b, 0, none⟩ = some (.pointer (some ⟨b, 0, none⟩)) := by rw [Lib.cell_of_heap hb2]; rfl
  have d1 : w2.cell? ⟨b, 1, none⟩ = some v := by rw [Lib.cell_of_heap hb2]; rfl
  have f1 : w2.frozen? ⟨b, 1, none⟩ = false := Lib.frozen_of_heap hb2 1
  obtain ⟨g, cap, rfl⟩ : ∃ g cap, v' = .slice (some ⟨g, 0, none⟩) (bs.length + 1) cap := by
    rcases hown'.2 with ⟨_, h0⟩ | ⟨g, cap, cur, hv, _⟩
    · omega
    · exact ⟨g, cap, hv⟩
  go_wp2
  go_ret
  refine ⟨rfl, ?_, ?_⟩
  · have e1 : Lib.byteCells (l ++ [c]) = bs ++ [.int .u8 (c.toNat : Int)] := by rw [HB.out]; simp [Lib.byteCells]
    unfold Bd
    rw [e1]
    exact Lib.BuilderAt.put (T := 34) (e := 5) hB hb2 (bs' := bs ++ [.int .u8 (c.toNat : Int)]) (by simpa using hown') (by decide)
  · exact (((Below.refl B w1).alloc (by omega) _).grown hgrow (by simp; omega) (fun k hk => (hown.lt k hk).1)).setCell (p := ⟨b, 1, none⟩) hB _

set_option maxHeartbeats 2000000 in
set_option maxRecDepth 100000 in
/-- WriteString -/
theorem writeString_any (B b : Nat) (l : List UInt8) (s : ByteArray) (w : World) (h : Bd B b l w) (hlen : l.length + s.size ≤ 140737488355328) (hBw : B ≤ w.heap.size) :
    Calls Try.prog 11 #[.pointer (some ⟨b, 0, none⟩), .string s] w fun e w' => e = .returned (.tuple #[.int .i64 s.size, .nilIface]) ∧ Bd B b (l ++ s.data.toList) w' ∧ Below B w w' := by
  obtain ⟨bs, hbs⟩ : ∃ bs, bs = Lib.byteCells l := ⟨_, rfl⟩
  have hl : bs.length = l.length := by rw [hbs]; simp [Lib.byteCells]
  have h1 := h
  unfold Bd at h1
  rw [← hbs] at h1
  have HB : Hid (bs = Lib.byteCells l) := hbs
  have hlen' : bs.length + s.size ≤ 140737488355328 := by omega
  clear hbs hl hlen
  obtain ⟨i0, hi, hz0, hz1, hz2⟩ := info_parts info5
  go_enter Try.func11, Try.ntmps11
  go_wp2_with fail
  refine (copyCheck_used b _ h1.cell0).mono ?_
  rintro e w1 ⟨rfl, rfl⟩
  obtain ⟨hB, v, hbk, hown, hne⟩ := h1
  have c0 : w1.cell? ⟨b, 0, none⟩ = some (.pointer (some ⟨b, 0, none⟩)) := by rw [Lib.cell_of_heap hbk]; rfl
  have c1 : w1.cell? ⟨b, 1, none⟩ = some v := by rw [Lib.cell_of_heap hbk]; rfl
  go_wp2_with (at_builtin; refine Lib.wpList_append_own_string _ rfl _ _ 32 9 rfl B 5 i0 Try.underlying32 Try.underlying9 hi hz0 hz1 hz2 _ _ _ rfl hown s rfl ?c3 ?c4 ?c5 ?_)
  case c3 => unfold maxLen; omega
  case c4 => omega
  case c5 => omega
  intro v' w2 hown' hgrow _
  have hlt : b < w1.heap.size := by
    rcases Nat.lt_or_ge b w1.heap.size with h' | h'
    · exact h'
    · simp [Array.getElem?_eq_none h'] at hbk
  have hb2 : w2.heap[b]? = some (.cells #[.pointer (some ⟨b, 0, none⟩), v] 34 (0, 0)) := by
    rw [hgrow.block b hlt (fun e => hne e.symm)]
    exact hbk
  have d0 : w2.cell? ⟨b, 0, none⟩ = some (.pointer (some ⟨b, 0, none⟩)) := by rw [Lib.cell_of_heap hb2]; rfl
  have d1 : w2.cell? ⟨b, 1, none⟩ = some v := by rw [Lib.cell_of_heap hb2]; rfl
  have f1 : w2.frozen? ⟨b, 1, none⟩ = false := Lib.frozen_of_heap hb2 1
  obtain ⟨ao, n', cap, rfl⟩ : ∃ ao n' cap, v' = .slice ao n' cap := by
    rcases hown'.2 with ⟨hv, _⟩ | ⟨g, cap, cur, hv, _⟩
    · exact ⟨_, _, _, hv⟩
    · exact ⟨_, _, _, hv⟩
  go_wp2
  go_ret2
  refine ⟨rfl, ?_, ?_⟩
  · have e1 : Lib.byteCells (l ++ s.data.toList) = bs ++ Lib.strCells s := by rw [HB.out]; simp [Lib.byteCells, Lib.strCells]
    unfold Bd
    rw [e1]
    exact Lib.BuilderAt.put (T := 34) (e := 5) hB hb2 (bs' := bs ++ Lib.strCells s) (by simpa [Lib.strCells_length] using hown') (by decide)
  · exact ((Below.refl B w1).grown hgrow (by omega) (fun k hk => (hown.lt k hk).1)).setCell (p := ⟨b, 1, none⟩) hB _

set_option maxHeartbeats 400000 in
theorem newFetches_any (a : Option Addr) (n c : Nat) (L : Int) (w : World) :
    Calls Try.prog 6 #[.slice a n c, .int .i64 L] w fun e w' => e = .returned (.pointer (some ⟨w.heap.size, 0, none⟩)) ∧ ∃ m, w' = w.alloc (.cells #[.slice a n c, m, .int .i64 L] 30) := by
  go_enter Try.func6, Try.ntmps6
  go_wp2
  go_ret
  exact ⟨rfl, _, rfl⟩

end Go.Proofs.Qxb6629149a
