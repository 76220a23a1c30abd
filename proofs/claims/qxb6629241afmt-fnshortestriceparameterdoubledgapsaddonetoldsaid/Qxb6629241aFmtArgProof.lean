import Derived.Test.Qxb6629241aFmtArg
import Derived.ProofKit
import Derived.OpenShut
import Derived.Deep.Slices
import Derived.ShutString
import Derived.ChangeOld
import Derived.Stop.JoinedTold
import Derived.SevenToldRow
namespace Go.Proofs.Qxb6629241aFmt
open Go.ChangeShapes Go.WideShapes Go.ChangeAt Go.RowKit
open Go.Extern.Stop Go.Stop Go.Extern
set_option linter.unusedVariables false

theorem cells24 : Tryf.prog.cellsOf 24 = 1 := by kernel_rfl
section
variable {H : Type} {enc : TypeId × Value → H} {w : World} {sp : Nat → Bool} {held : Bool}
theorem pick {α : Type} {p : Nat → α → Prop} (n : Nat) (h : ∀ i, i < n → ∃ x, p i x) : ∃ l : List α, l.length = n ∧ ∀ i (hi : i < l.length), p i l[i] := by
  induction n with
  | zero => exact ⟨[], rfl, fun i hi => absurd hi (Nat.not_lt_zero _)⟩
  | succ n ih =>
    obtain ⟨l, hl, hp⟩ := ih (fun i hi => h i (by omega))
    obtain ⟨x, hx⟩ := h n (by omega)
    refine ⟨l ++ [x], by simp [hl], fun i hi => ?_⟩
    by_cases e : i < l.length
    · rw [List.getElem_append_left e]; exact hp i e
    · have : i = n := by simp at hi; omega
      subst this
      rw [List.getElem_append_right (by omega)]
      simpa using hx
theorem add_lit (b off k : Nat) : (⟨b, off, none⟩ : Addr).add k = ⟨b, off + k, none⟩ := by unfold Addr.add; split <;> simp_all
theorem cells_at {a : Addr} {n : Nat} {cs : List Value} (h : w.cells? 0 a n = some cs) (hn : 0 < n) : a.spot = none ∧ a.block < w.heap.size ∧ ∀ i (hi : i < cs.length), w.cell? ⟨a.block, a.off + i, none⟩ = some cs[i] := by
  obtain ⟨_, hlen, hc⟩ := World.cells?_some h
  obtain ⟨b, off, s⟩ := a
  have h0 := hc 0 hn
  rw [List.getElem?_eq_getElem (by omega)] at h0
  have hs : s = none := by simpa [Addr.add] using World.cell?_spot h0
  subst hs
  refine ⟨rfl, ?_, fun i hi => ?_⟩
  · rw [add_lit] at h0
    exact World.block_lt_of_cell? w _ h0
  · have := hc i (by omega)
    rw [add_lit, List.getElem?_eq_getElem hi] at this
    exact this
theorem u32_of {n : Int} (h : (Lit.int .u32 n).wf = true) : ∃ q : Nat, n = (q : Int) ∧ q < 4294967296 := by
  simp [Lit.wf, IntKind.min, IntKind.max, IntKind.signed, IntKind.bits] at h
  exact ⟨n.toNat, by omega, by omega⟩
/-- a slice of uint32, read -/
theorem open22 {fuel : Nat} {a : Option Addr} {len cap : Nat} {x : DataW H × List MemPlace} (h : DataW.trod enc Tryf.prog w 0 sp held fuel 22 [.slice a len cap] = some x) :
    ∃ vs : List Nat, len = vs.length ∧ U32 w a vs ∧ vs.length ≤ maxLen ∧ (∀ j (h : j < vs.length), vs[j] < 4294967296) ∧ (a = none → cap = 0 ∧ vs = []) := by
  rcases Deep.open_slice Tryf.underlying22 h with ⟨e, _⟩ | ⟨a', len', cap', m, n, D, Pl, e, hb, hl, hm, hmm, _, hx⟩
  · injection e with e _
    injection e with e1 e2 e3
    subst e1; subst e2; subst e3
    exact ⟨[], rfl, (fun j hj => absurd hj (Nat.not_lt_zero _)), Nat.zero_le _, (fun j hj => absurd hj (Nat.not_lt_zero _)), (fun _ => ⟨rfl, rfl⟩)⟩
  · injection e with e _
    injection e with e1 e2 e3
    subst e1; subst e2; subst e3
    rw [cells24] at hx
    have hle : len ≤ m := by rw [hmm]; split <;> omega
    have hel : ∀ i, i < len → ∃ q : Nat, q < 4294967296 ∧ (a'.add i).spot = none ∧ (a'.add i).block < w.heap.size ∧ w.cell? ⟨(a'.add i).block, (a'.add i).off, none⟩ = some (.int .u32 (q : Int)) := by
      intro i hi
      obtain ⟨cs', h1, h2⟩ := hx i (by omega)
      rw [Nat.mul_one] at h1
      obtain ⟨hs, hbk, hc⟩ := cells_at h1 (by omega)
      obtain ⟨v, e, _, hq⟩ := DataW.trod_int Tryf.underlying24 h2
      subst e
      obtain ⟨q, rfl, hq2⟩ := u32_of hq
      exact ⟨q, hq2, hs, hbk, hc 0 (by simp)⟩
    obtain ⟨vs, hbl, hf⟩ := pick len hel
    obtain ⟨b, off, s⟩ := a'
    subst hbl
    have hsp : 0 < vs.length → s = none := fun h0 => by have := (hf 0 h0).2.1; simpa [Addr.add] using this
    refine ⟨vs, rfl, fun j hj => ?_, by omega, fun j hj => (hf j hj).1, fun h => by cases h⟩
    obtain rfl := hsp (by omega)
    have h2 := (hf j hj).2.2
    rw [add_lit] at h2
    exact ⟨b, off, rfl, h2.1, h2.2⟩
end
theorem own : ownKnob Tryf.prog.godebug = none := by kernel_rfl
theorem laidOut : laidOutB Tryf.prog = true := by kernel_rfl
theorem stops : Tryf.pinned.checked.prog.stops = ["fmt.Sprintf"] := by kernel_rfl
theorem stopKnobs : Tryf.pinned.checked.prog.stopKnobs = [] := by kernel_rfl
theorem quiet (os : Os) : Stop.quiet Tryf.pinned.checked.prog os := by
  intro k hk
  rw [stopKnobs] at hk
  cases hk

namespace fnShortestRiceParameterIsLeastCostArgmin
set_option maxRecDepth 100000 in
theorem lifted (os : Os) (started : os.Started) (H : Type) (enc : TypeId × Value → H) :
    ReturnsInTold none {} Tryf.checked os 3 .any Input.okWide ((OpenSpec.ofChange Rows.fnShortestRiceParameterIsLeastCostArgminSpec).preRow enc Tryf.prog Tryf.f3 [] false []) (fun F => ((OpenSpec.ofChange Rows.fnShortestRiceParameterIsLeastCostArgminSpec).at F).post enc Tryf.prog Tryf.f3 false true false false) (aloneAtReturn Tryf.prog) nothingAlways := by
  refine returnsInTold_of_row (C := Tryf.checked) (s := OpenSpec.ofChange Rows.fnShortestRiceParameterIsLeastCostArgminSpec) (by kernel_rfl) own started (by kernel_rfl) Tryf.func3
    (OpenSpec.witness_stopped (enc := enc) (C := Tryf.checked) false ⟨#[], #[.slice none 0 0], []⟩ 8 (by kernel_rfl) (by kernel_rfl) (by kernel_rfl) (by kernel_rfl)) ?_
  intro F W base args ds gs before _ hF hval0 hW _ _ hsz _ _
  have hval : ∀ (j : Nat) t v, Tryf.f3.params[j]? = some t → args[j]? = some v → Value.okWide Tryf.prog W .any base t v := hval0
  have hW' := hW
  obtain ⟨p, q, hA0, hV, rfl, _, _⟩ := hW
  have hA : DataW.TrodAll enc Tryf.prog W 0 (fun _ => true) true Tryf.f3.params.toList args.toList ds p := hA0
  rw [Tryf.params3] at hA hval
  obtain ⟨v0, vs0, d0, ds0, p0, q0, hargs, rfl, rfl, h0, r0⟩ := trodAll_cons hA
  obtain ⟨rfl, rfl, rfl⟩ := trodAll_nil r0
  obtain rfl : args = #[v0] := by cases args; simp_all
  obtain ⟨rfl, rfl⟩ := trodVars_none hV
  obtain ⟨a0, len0, cap0, rfl⟩ := okWide_slice Tryf.underlying22 (hval 0 22 v0 rfl rfl)
  have k0 := h0
  have lt0 : ∀ x ∈ p0, x.block < W.heap.size := by obtain ⟨m, hm⟩ := k0; exact DataW.trod_lt m _ _ _ hm
  obtain ⟨fuel0, hf0⟩ := h0
  obtain ⟨vs, rfl, hs, hn, hz, hnil⟩ := open22 hf0
  clear hA0 hval0
  refine (arg_any a0 cap0 vs W hs hn hz hnil).mono fun e W' ⟨he, bel⟩ => ?_
  subst he
  exact ⟨_, rfl, _, _, _, [], _, [], hW', trodAll_mk1 (shut_bool Tryf.underlying4 _), (trodAll_cons_mk (Below.trod laidOut (by kernel_rfl) (of_decide_eq_true (by kernel_rfl)) k0 bel lt0) trodAll_mk0), rfl, bel.frame _, fun h => by cases h⟩

/-- THE STATEMENT -/
theorem proved : Rows.FnShortestRiceParameterIsLeastCostArgminToldSaid :=
  Claim7.holds_of_told_any 3 Tryf.f3 "fmt.Sprintf" [] [] _ _ _ (by kernel_rfl) rfl rfl rfl laidOut (by kernel_rfl) rfl ⟨rfl, rfl, rfl, rfl, rfl, rfl, rfl⟩ rfl rfl (by kernel_rfl) (by kernel_rfl) Tryf.func3 (by kernel_rfl)
    (of_decide_eq_true (by kernel_rfl)) (of_decide_eq_true (by kernel_rfl)) stops.symm rfl stopKnobs.symm (by kernel_rfl)
    (by kernel_rfl) (by kernel_rfl) (by kernel_rfl) (by kernel_rfl) (by kernel_rfl) (by kernel_rfl) (by kernel_rfl) (by kernel_rfl) (by kernel_rfl) rfl (by kernel_rfl) rfl rfl
    rfl rfl
    rfl (by kernel_rfl) (by kernel_rfl) (by kernel_rfl) (by decide) (by kernel_rfl)
    (OpenClaim.moreEntering_of (by kernel_rfl) (by kernel_rfl) (by kernel_rfl) (by kernel_rfl) (by kernel_rfl) (by kernel_rfl) (by kernel_rfl) (by kernel_rfl) (by kernel_rfl) (by kernel_rfl))
    ⟨_, WideRow.started_initial, quiet _⟩
    (fun os started _ H enc _ => lifted os started H enc)
#print axioms proved
end fnShortestRiceParameterIsLeastCostArgmin
end Go.Proofs.Qxb6629241aFmt
