import Derived.Test.Qxb6629149aTxt
import Derived.ProofKit
import Derived.OpenShut
import Derived.Deep.Slices
namespace Go.Proofs.Qxb6629149a
open Go.ChangeShapes Go.WideShapes Go.ChangeAt Go.RowKit
set_option linter.unusedSimpArgs false
set_option linter.unusedVariables false

theorem cells9 : Try.prog.cellsOf 9 = 1 := by kernel_rfl
section
variable {H : Type} {enc : TypeId × Value → H} {w : World} {sp : Nat → Bool} {held : Bool}
theorem pick {α : Type} {p : Nat → α → Prop} (n : Nat) (h : ∀ i, i < n → ∃ x, p i x) : ∃ l : List α, l.length = n ∧ ∀ i (hi : i < l.length), p i l[i] := by
  induction n with
  | zero => exact ⟨[], rfl, fun i hi => absurd hi (Nat.not_lt_zero _)⟩
  | succ n ih =>
    obtain ⟨l, hl, hp⟩ := ih (fun i hi => h i (by omega))
    obtain ⟨x, hx⟩ := h n (by omega)
    refine ⟨l ++ [x], by simp [hl], fun i hi => ?_⟩
    by_cases e : i < l.length
    · rw [List.getElem_append_left e]; exact hp i e
    · have : i = n := by simp at hi; omega
      subst this
      rw [List.getElem_append_right (by omega)]
      simpa using hx
theorem add_lit (b off k : Nat) : (⟨b, off, none⟩ : Addr).add k = ⟨b, off + k, none⟩ := by unfold Addr.add; split <;> simp_all
theorem cells_at {a : Addr} {n : Nat} {cs : List Value} (h : w.cells? 0 a n = some cs) (hn : 0 < n) : a.spot = none ∧ a.block < w.heap.size ∧ ∀ i (hi : i < cs.length), w.cell? ⟨a.block, a.off + i, none⟩ = some cs[i] := by
  obtain ⟨_, hlen, hc⟩ := World.cells?_some h
  obtain ⟨b, off, s⟩ := a
  have h0 := hc 0 hn
  rw [List.getElem?_eq_getElem (by omega)] at h0
  have hs : s = none := by simpa [Addr.add] using World.cell?_spot h0
  subst hs
  refine ⟨rfl, ?_, fun i hi => ?_⟩
  · rw [add_lit] at h0
    exact World.block_lt_of_cell? w _ h0
  · have := hc i (by omega)
    rw [add_lit, List.getElem?_eq_getElem hi] at this
    exact this

/-- a slice of strings, read -/
theorem open22 {fuel : Nat} {a : Option Addr} {len cap : Nat} {x : DataW H × List MemPlace} (h : DataW.trod enc Try.prog w 0 sp held fuel 22 [.slice a len cap] = some x) :
    ∃ ss : List ByteArray, len = ss.length ∧ Strs w a ss ∧ ss.length ≤ maxLen ∧ (∀ s ∈ ss, s.size ≤ maxLen) ∧ (a = none → cap = 0 ∧ ss = []) := by
  rcases Deep.open_slice Try.underlying22 h with ⟨e, _⟩ | ⟨a', len', cap', m, n, D, Pl, e, hb, hl, hm, hmm, _, hx⟩
  · injection e with e _
    injection e with e1 e2 e3
    subst e1; subst e2; subst e3
    exact ⟨[], rfl, (fun j hj => absurd hj (Nat.not_lt_zero _)), Nat.zero_le _, (fun s hs => absurd hs (by simp)), (fun _ => ⟨rfl, rfl⟩)⟩
  · injection e with e _
    injection e with e1 e2 e3
    subst e1; subst e2; subst e3
    rw [cells9] at hx
    have hle : len ≤ m := by rw [hmm]; split <;> omega
    have hel : ∀ i, i < len → ∃ q : ByteArray, q.size ≤ maxLen ∧ (a'.add i).spot = none ∧ (a'.add i).block < w.heap.size ∧ w.cell? ⟨(a'.add i).block, (a'.add i).off, none⟩ = some (.string q) := by
      intro i hi
      obtain ⟨cs', h1, h2⟩ := hx i (by omega)
      rw [Nat.mul_one] at h1
      obtain ⟨hs, hbk, hc⟩ := cells_at h1 (by omega)
      obtain ⟨q, e, _, hq⟩ := DataW.trod_string Try.underlying9 h2
      subst e
      exact ⟨q, hq, hs, hbk, hc 0 (by simp)⟩
    obtain ⟨ss, hbl, hf⟩ := pick len hel
    obtain ⟨b, off, s⟩ := a'
    subst hbl
    have hsp : 0 < ss.length → s = none := fun h0 => by have := (hf 0 h0).2.1; simpa [Addr.add] using this
    refine ⟨ss, rfl, fun j hj => ?_, by omega, ?_, fun h => by cases h⟩
    · obtain rfl := hsp (by omega)
      have h2 := (hf j hj).2.2
      rw [add_lit] at h2
      exact ⟨b, off, rfl, h2.1, h2.2⟩
    · intro q hq
      obtain ⟨i, hi, rfl⟩ := List.mem_iff_getElem.1 hq
      exact (hf i hi).1
end

end Go.Proofs.Qxb6629149a
