import Derived.Test.Qxb6629179aRows
import Derived.WalkKit
import Derived.WalkSpells
import Derived.WalkLawsBesides
import Derived.ProofKit
import Derived.Deep.AppendLies
import Derived.Below
namespace Go.Proofs.Qxb6629179a
open Go.RowKit
set_option linter.unusedSimpArgs false
set_option linter.unusedVariables false

/-- kept out of the walk's sight -/
def Hid (p : Prop) : Prop := p
theorem Hid.out {p : Prop} (h : Hid p) : p := h
theorem info5 : (Try.prog.info? 5).map (fun i => (i.zero, i.size, i.bytes)) = some (some (.int .u8 0), 1, 1) := by kernel_rfl
def cv (n : Nat) : Value := .int .u8 (n : Int)
/-- the high parts, a zero, the low parts -/
def hiP (s : List UInt8) : List Nat := s.map fun b => b.toNat / 32
def loP (s : List UInt8) : List Nat := s.map fun b => b.toNat % 32
def ex (s : List UInt8) : List Nat := hiP s ++ 0 :: loP s
theorem cells_new1 (w : World) (t : TypeId) (cs : Array Value) (a : Nat) (ha : a = w.heap.size) : ∀ (j : Nat) (u : Value), cs.toList[j]? = some u → (w.alloc (.cells cs t)).cell? ((⟨a, 0, none⟩ : Addr).add j) = some u := by
  subst ha; exact World.news_of_block (heap_alloc_new w (.cells cs t))

theorem get_list (s : ByteArray) (j : Nat) (h : j < s.size) : s.data.toList[j]'(by simpa using h) = s[j] := rfl
theorem take_next (s : ByteArray) (j : Nat) (h : j < s.size) : s.data.toList.take (j + 1) = s.data.toList.take j ++ [s[j]] := by
  rw [List.take_succ_eq_append_getElem (by simpa using h), get_list]
theorem hi_take (s : ByteArray) (j : Nat) (h : j < s.size) : (hiP (s.data.toList.take (j + 1))).map cv = (hiP (s.data.toList.take j)).map cv ++ [.int .u8 ((s[j].toNat : Int) / 32)] := by
  rw [take_next s j h]; unfold hiP; simp [cv]
theorem and_all : ∀ n : Fin 256, bits BinOp.and IntKind.u8 ((n.val : Nat) : Int) 31 = ((n.val % 32 : Nat) : Int) := by decide +kernel
theorem and31 (b : UInt8) : bits BinOp.and IntKind.u8 (b.toNat : Int) 31 = ((b.toNat % 32 : Nat) : Int) := and_all ⟨b.toNat, b.toNat_lt⟩
theorem lo_take (s : ByteArray) (j : Nat) (h : j < s.size) : (loP (s.data.toList.take (j + 1))).map cv = (loP (s.data.toList.take j)).map cv ++ [.int .u8 (bits BinOp.and IntKind.u8 (s[j].toNat : Int) 31)] := by
  rw [take_next s j h, and31]; unfold loP; simp [cv]
theorem take_all (s : ByteArray) : s.data.toList.take s.size = s.data.toList := List.take_of_length_le (by show s.data.toList.length ≤ s.data.size; simp)

set_option maxHeartbeats 1000000 in
set_option maxRecDepth 100000 in
theorem exp_any (s : ByteArray) (w : World) (hs : s.size ≤ 1048576) :
    Calls Try.prog 9 #[.string s] w fun e w' => ∃ g c, e = .returned (.slice (some ⟨g, 0, none⟩) (2 * s.size + 1) c) ∧ w'.ownsRow w.heap.size 5 1 (.slice (some ⟨g, 0, none⟩) (2 * s.size + 1) c) (2 * s.size + 1) ((ex s.data.toList).map cv) ∧ Below w.heap.size w w' := by
  obtain ⟨i5, hinf, hz0, hz1, hz2⟩ := info_parts info5
  go_enter Try.func9, Try.ntmps9
  go_wp2_with (at_make; go_loud (refine wpList_make_own _ rfl _ _ 23 rfl w.heap.size 5 i5 _ 1 Try.underlying23 hinf hz0 hz1 _ _ _ (2 * s.size + 1) rfl rfl (by go_num) (by rw [hz2]; omega) (by unfold maxLen; omega) (Nat.le_refl _) ?_; intro w1 hown1 hgrow1))
  go_loopw [3, 4] (fun v i wr => ∃ (j : Nat) (aa : Option Addr) (ac : Nat), j ≤ s.size ∧ v = .slice aa j ac ∧ i = .int .i64 j ∧ wr.ownsRow w.heap.size 5 1 (.slice aa j ac) j ((hiP (s.data.toList.take j)).map cv) ∧ Below w.heap.size w wr) (fun _ i _ => s.size - (intOf i).toNat)
  case atStart => exact ⟨0, _, _, Nat.zero_le _, rfl, rfl, by simpa [hiP] using hown1, ⟨hgrow1.os, hgrow1.tape, hgrow1.output, hgrow1.size, fun k hk => hgrow1.block k hk (by simp)⟩⟩
  case round =>
    obtain ⟨j, aa, ac, hj, rfl, rfl, own, Br⟩ := hrel
    clear hown1 hgrow1
    by_cases hlt : j < s.size
    · have hi : (j : Int) < (s.size : Int) := by omega
      have zr := Br.size
      have e1 := hi_take s j hlt
      have E1 : Hid ((hiP (s.data.toList.take (j + 1))).map cv = (hiP (s.data.toList.take j)).map cv ++ [.int .u8 ((s[j].toNat : Int) / 32)]) := e1
      clear e1
      go_wp2_with (at_builtin; go_loud (refine wpList_append_lies _ rfl _ _ 23 rfl w.heap.size 5 i5 _ 1 1 Try.underlying23 hinf hz0 hz1 hz2 rfl (by decide) (.slice aa j ac) j ((hiP (s.data.toList.take j)).map cv) rfl (own.alloc _) ⟨wr.heap.size, 0, none⟩ 1 1 [.int .u8 ((s[j].toNat : Int) / 32)] rfl rfl (cells_new1 _ 5 #[.int .u8 ((s[j].toNat : Int) / 32)] _ rfl) (by simp [Value.oneCell']) (by decide) (by unfold maxLen; omega) (by omega) (by simp; omega) (wr.heap.size + 1) (by simp) ?_; intro g cap w2 hown2 hgrow hat hlt2))
      rw [← E1.out] at hown2
      have B2 : Below w.heap.size w w2 := (Br.alloc zr _).grown hgrow (by simp; omega) (fun q hq => (own.lt q hq).1)
      go_wp2
      go_roundw
      case rel => exact ⟨j + 1, _, _, hlt, rfl, by go_num, hown2, B2⟩
      case measure => simp [intOf]; omega
    · have hjj : j = s.size := by omega
      subst hjj
      have hi : (s.size : Int) ≤ (s.size : Int) := Int.le_refl _
      have zr := Br.size
      clear hlt hj
      rw [take_all] at own
      go_wp2_with (at_builtin; go_loud (refine wpList_append_lies _ rfl _ _ 23 rfl w.heap.size 5 i5 _ 1 1 Try.underlying23 hinf hz0 hz1 hz2 rfl (by decide) (.slice aa s.size ac) s.size ((hiP s.data.toList).map cv) rfl (own.alloc _) ⟨wr.heap.size, 0, none⟩ 1 1 [.int .u8 0] rfl rfl (cells_new1 _ 5 #[.int .u8 0] _ rfl) (by simp [Value.oneCell']) (by decide) (by unfold maxLen; omega) (by omega) (by simp; omega) (wr.heap.size + 1) (by simp) ?_; intro g cap w2 hown2 hgrow hat hlt2))
      have B2 : Below w.heap.size w w2 := (Br.alloc zr _).grown hgrow (by simp; omega) (fun q hq => (own.lt q hq).1)
      clear own hgrow Br hat
      go_wp2
      go_loopw [3, 5] (fun v i wr => ∃ (j : Nat) (aa : Option Addr) (ac : Nat), j ≤ s.size ∧ v = .slice aa (s.size + 1 + j) ac ∧ i = .int .i64 j ∧ wr.ownsRow w.heap.size 5 1 (.slice aa (s.size + 1 + j) ac) (s.size + 1 + j) ((hiP s.data.toList).map cv ++ [.int .u8 0] ++ (loP (s.data.toList.take j)).map cv) ∧ Below w.heap.size w wr) (fun _ i _ => s.size - (intOf i).toNat)
      case atStart => exact ⟨0, _, _, Nat.zero_le _, rfl, rfl, by simpa [loP] using hown2, B2⟩
      case round =>
        clear hown2 B2
        obtain ⟨j, aa, ac, hj, rfl, rfl, own, Br⟩ := hrel
        have zr := Br.size
        by_cases hlt : j < s.size
        · have hi : (j : Int) < (s.size : Int) := by omega
          have e1 := lo_take s j hlt
          have E1 : Hid ((loP (s.data.toList.take (j + 1))).map cv = (loP (s.data.toList.take j)).map cv ++ [.int .u8 (bits BinOp.and IntKind.u8 (s[j].toNat : Int) 31)]) := e1
          clear e1
          go_wp2_with (at_builtin; go_loud (refine wpList_append_lies _ rfl _ _ 23 rfl w.heap.size 5 i5 _ 1 1 Try.underlying23 hinf hz0 hz1 hz2 rfl (by decide) (.slice aa (s.size + 1 + j) ac) (s.size + 1 + j) ((hiP s.data.toList).map cv ++ [.int .u8 0] ++ (loP (s.data.toList.take j)).map cv) rfl (own.alloc _) ⟨wr.heap.size, 0, none⟩ 1 1 [.int .u8 (bits BinOp.and IntKind.u8 (s[j].toNat : Int) 31)] rfl rfl (cells_new1 _ 5 #[.int .u8 (bits BinOp.and IntKind.u8 (s[j].toNat : Int) 31)] _ rfl) (by simp [Value.oneCell']) (by decide) (by unfold maxLen; omega) (by omega) (by simp; omega) (wr.heap.size + 1) (by simp) ?_; intro g cap w2 hown2 hgrow hat hlt2))
          rw [List.append_assoc, ← E1.out] at hown2
          have B2 : Below w.heap.size w w2 := (Br.alloc zr _).grown hgrow (by simp; omega) (fun q hq => (own.lt q hq).1)
          go_wp2
          go_roundw
          case rel => exact ⟨j + 1, _, _, hlt, rfl, by go_num, hown2, B2⟩
          case measure => simp [intOf]; omega
        · have hjj : j = s.size := by omega
          subst hjj
          have hi : (s.size : Int) ≤ (s.size : Int) := Int.le_refl _
          rw [take_all] at own
          clear hlt hj
          have e3 : s.size + 1 + s.size = 2 * s.size + 1 := by omega
          obtain ⟨g, cap, hv, _⟩ := own.form (by omega)
          injection hv with hv _ hv2
          subst hv; subst hv2
          rw [e3] at own ⊢
          clear e3
          go_wp2
          go_ret
          refine ⟨g, ac, rfl, ?_, Br⟩
          have e4 : (ex s.data.toList).map cv = (hiP s.data.toList).map cv ++ [.int .u8 0] ++ (loP s.data.toList).map cv := by unfold ex; simp [cv]
          rw [e4]; exact own

end Go.Proofs.Qxb6629179a
