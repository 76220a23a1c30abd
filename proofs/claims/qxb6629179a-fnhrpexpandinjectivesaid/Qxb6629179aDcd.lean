import Derived.Test.Qxb6629179aExp
namespace Go.Proofs.Qxb6629179a
open Go.RowKit
set_option linter.unusedSimpArgs false
set_option linter.unusedVariables false

/-- the block g holds the expansion of s -/
structure Ex (w : World) (g : Nat) (s : ByteArray) : Prop where
  lt : g < w.heap.size
  hi : ∀ i (h : i < s.size), w.cell? ⟨g, i, none⟩ = some (.int .u8 ((s[i].toNat / 32 : Nat) : Int))
  mid : w.cell? ⟨g, s.size, none⟩ = some (.int .u8 0)
  lo : ∀ i (h : i < s.size), w.cell? ⟨g, s.size + 1 + i, none⟩ = some (.int .u8 ((s[i].toNat % 32 : Nat) : Int))
theorem Ex.kept {w w' : World} {g : Nat} {s : ByteArray} (h : Ex w g s) {B : Nat} (hb : Below B w w') (hB : w.heap.size ≤ B) : Ex w' g s := by
  have e : ∀ j, w'.cell? ⟨g, j, none⟩ = w.cell? ⟨g, j, none⟩ := fun j => World.cell?_of_block (hb.block g (Nat.lt_of_lt_of_le h.lt hB))
  exact ⟨Nat.lt_of_lt_of_le h.lt hb.size, fun i hi => (e _).trans (h.hi i hi), (e _).trans h.mid, fun i hi => (e _).trans (h.lo i hi)⟩
theorem Ex.of_own {w : World} {base g c : Nat} {s : ByteArray} (h : w.ownsRow base 5 1 (.slice (some ⟨g, 0, none⟩) (2 * s.size + 1) c) (2 * s.size + 1) ((ex s.data.toList).map cv)) : Ex w g s := by
  have hl : (hiP s.data.toList).length = s.size := by unfold hiP; rw [List.length_map]; rfl
  have hc : ∀ j, j < 2 * s.size + 1 → w.cell? ⟨g, j, none⟩ = ((ex s.data.toList).map cv)[j]? := fun j hj => h.cellAt j (by omega)
  refine ⟨(h.lt g rfl).2, fun i hi => ?_, ?_, fun i hi => ?_⟩
  · rw [hc i (by omega)]
    unfold ex
    rw [List.getElem?_map, List.getElem?_append_left (by omega)]
    unfold hiP
    rw [List.getElem?_map, List.getElem?_eq_getElem (by simpa using hi)]
    rfl
  · rw [hc s.size (by omega)]
    unfold ex
    rw [List.getElem?_map, List.getElem?_append_right (by omega), hl, Nat.sub_self]
    rfl
  · rw [hc (s.size + 1 + i) (by omega)]
    unfold ex
    rw [List.getElem?_map, List.getElem?_append_right (by omega), hl]
    have e : s.size + 1 + i - s.size = i + 1 := by omega
    rw [e, List.getElem?_cons_succ]
    unfold loP
    rw [List.getElem?_map, List.getElem?_eq_getElem (by simpa using hi)]
    rfl

set_option maxHeartbeats 400000 in
theorem zz_any (s : ByteArray) (w : World) (hs : s.size ≤ 1048576) :
    Calls Try.prog 6 #[.string s] w fun e w' => ∃ g c, e = .returned (.slice (some ⟨g, 0, none⟩) (2 * s.size + 1) c) ∧ Ex w' g s ∧ Below w.heap.size w w' := by
  go_enter Try.func6, Try.ntmps6
  go_wp2_with fail
  refine (exp_any s w hs).mono ?_
  rintro e w' ⟨g, c, rfl, ho, hb⟩
  go_wp2
  go_ret
  exact ⟨g, c, rfl, Ex.of_own ho, hb⟩

def SomeBool (e : Ending) : Prop := ∃ b : Bool, e = .returned (.bool b)
set_option maxHeartbeats 400000 in
theorem guard5_any (a b : ByteArray) (w : World) (ha : a.size ≤ maxLen) (hb : b.size ≤ maxLen) : Calls Try.prog 5 #[.string a, .string b] w fun e w' => SomeBool e ∧ w' = w := by
  unfold maxLen at ha hb
  by_cases h1 : (1048576 : Int) < (a.size : Int)
  · go_enter Try.func5, Try.ntmps5
    go_wp2
    go_ret
    exact ⟨⟨_, rfl⟩, rfl⟩
  by_cases h2 : (1048576 : Int) < (b.size : Int)
  · go_enter Try.func5, Try.ntmps5
    go_wp2
    go_ret
    exact ⟨⟨_, rfl⟩, rfl⟩
  by_cases h3 : (1048576 : Int) < (a.size : Int) + (b.size : Int)
  · go_enter Try.func5, Try.ntmps5
    go_wp2
    go_ret
    exact ⟨⟨_, rfl⟩, rfl⟩
  · go_enter Try.func5, Try.ntmps5
    go_wp2
    go_ret
    exact ⟨⟨_, rfl⟩, rfl⟩
set_option maxHeartbeats 400000 in
theorem guard8_any (a b : ByteArray) (w : World) (ha : a.size ≤ maxLen) (hb : b.size ≤ maxLen) : Calls Try.prog 8 #[.string a, .string b] w fun e w' => SomeBool e ∧ w' = w := by
  unfold maxLen at ha hb
  by_cases h1 : (1048576 : Int) < (a.size : Int)
  · go_enter Try.func8, Try.ntmps8
    go_wp2
    go_ret
    exact ⟨⟨_, rfl⟩, rfl⟩
  by_cases h2 : (1048576 : Int) < (b.size : Int)
  · go_enter Try.func8, Try.ntmps8
    go_wp2
    go_ret
    exact ⟨⟨_, rfl⟩, rfl⟩
  by_cases h3 : (1048576 : Int) < (a.size : Int) + (b.size : Int)
  · go_enter Try.func8, Try.ntmps8
    go_wp2
    go_ret
    exact ⟨⟨_, rfl⟩, rfl⟩
  · go_enter Try.func8, Try.ntmps8
    go_wp2
    go_ret
    exact ⟨⟨_, rfl⟩, rfl⟩

set_option maxHeartbeats 1000000 in
set_option maxRecDepth 100000 in
theorem decodes_any (g c : Nat) (s : ByteArray) (w : World) (h : Ex w g s) (hs : s.size ≤ 1048576) :
    Calls Try.prog 7 #[.slice (some ⟨g, 0, none⟩) (2 * s.size + 1) c, .string s] w fun e w' => e = .returned (.bool true) ∧ w' = w := by
  have hm := h.mid
  go_enter Try.func7, Try.ntmps7
  go_wp2_with fail
  go_loopw [6] (fun i wr => ∃ k : Nat, k ≤ s.size ∧ i = .int .i64 k ∧ wr = w) (fun i _ => s.size - (intOf i).toNat)
  case atStart => exact ⟨0, Nat.zero_le _, rfl, rfl⟩
  case round =>
    obtain ⟨k, hk, rfl, rfl⟩ := hrel
    clear hm
    by_cases hlt : k < s.size
    · have h1 := h.hi k hlt
      have h2 := h.lo k hlt
      have hb := (s[k]).toNat_lt
      obtain ⟨x, hx⟩ : ∃ x, x = (s[k]).toNat := ⟨_, rfl⟩
      have HX : ∀ q : k < s.size, (((s[k]'q).toNat : Nat) : Int) = (x : Int) := fun q => by rw [hx]
      rw [← hx] at h1 h2 hb
      obtain ⟨p, hp⟩ : ∃ p, p = x / 32 := ⟨_, rfl⟩
      obtain ⟨q, hq⟩ : ∃ q, q = x % 32 := ⟨_, rfl⟩
      rw [← hp] at h1
      rw [← hq] at h2
      have b1 : (p : Int) ≤ 7 := by omega
      have b2 : (q : Int) ≤ 31 := by omega
      have b3 : ((p : Int) * 32 + (q : Int) != (x : Int)) = false := by rw [bne_eq_false_iff_eq]; omega
      have hi : (k : Int) < (s.size : Int) := by omega
      clear hx hp hq
      go_wp2
      go_roundw
      case rel => exact ⟨k + 1, by omega, by go_num, by first | rfl | trivial⟩
      case measure => simp [intOf]; omega
    · have hi : (s.size : Int) ≤ (k : Int) := by omega
      go_wp2
      go_ret
      exact ⟨rfl, rfl⟩

end Go.Proofs.Qxb6629179a
