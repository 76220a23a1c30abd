import Derived.Test.Qxb6629241aFmtCards
import Derived.WalkKit
import Derived.WalkSpells
import Derived.WalkLawsBesides
import Derived.ProofKit
import Derived.Below
import Derived.Deep.QuietTactic
import Derived.BigQuiet
import Derived.Deep.DeepCutAuto
namespace Go.Proofs.Qxb6629241aFmt
open Go.RowKit
set_option linter.unusedSimpArgs false
set_option linter.unusedVariables false

/-- kept out of the walk's sight -/
def Hid (p : Prop) : Prop := p
theorem Hid.out {p : Prop} (h : Hid p) : p := h
/-- the gap behind place m -/
def gap (vs : List Nat) (m : Nat) : Nat := vs.getD (m + 1) 0 - vs.getD m 0
/-- the bits of the first m gaps -/
def cS (g : Nat → Nat) (k : Nat) : Nat → Nat
  | 0 => 0
  | m + 1 => cS g k m + (g m / 2 ^ k + 1 + k)
def cost (vs : List Nat) (k : Nat) : Nat := cS (gap vs) k (vs.length - 1)
theorem cS_le (g : Nat → Nat) (k : Nat) (hk : k ≤ 32) (hg : ∀ m, g m < 4294967296) : ∀ m, cS g k m ≤ m * 4294967329 := by
  intro m
  induction m with
  | zero => simp [cS]
  | succ m ih =>
    have h1 := hg m
    have h2 : g m / 2 ^ k ≤ g m := Nat.div_le_self _ _
    show cS g k m + (g m / 2 ^ k + 1 + k) ≤ _
    omega
/-- the values lie behind the address -/
def U32 (w : World) (a : Option Addr) (vs : List Nat) : Prop := ∀ j (h : j < vs.length), ∃ b off, a = some ⟨b, off, none⟩ ∧ b < w.heap.size ∧ w.cell? ⟨b, off + j, none⟩ = some (.int .u32 (vs[j] : Int))
/-- ascending, each a uint32 -/
def Asc (vs : List Nat) : Prop := (∀ j (h : j < vs.length), vs[j] < 4294967296) ∧ ∀ j (h : j + 1 < vs.length), vs[j] < vs[j + 1]
theorem gap_eq (vs : List Nat) (m : Nat) (h : m + 1 < vs.length) : gap vs m = vs[m + 1] - vs[m] := by
  unfold gap
  rw [List.getD_eq_getElem?_getD, List.getD_eq_getElem?_getD, List.getElem?_eq_getElem h, List.getElem?_eq_getElem (by omega)]; rfl
theorem gap_lt {vs : List Nat} (h : Asc vs) (m : Nat) : gap vs m < 4294967296 := by
  by_cases hm : m + 1 < vs.length
  · rw [gap_eq vs m hm]; have := h.1 (m + 1) hm; omega
  · unfold gap
    rw [List.getD_eq_getElem?_getD, List.getElem?_eq_none (by omega)]; simp

set_option maxHeartbeats 400000 in
theorem diff_any (a b : Nat) (w : World) (h : a < b) (hb : b < 4294967296) : Calls Tryf.prog 10 #[.int .u32 (a : Int), .int .u32 (b : Int)] w fun e w' => e = .returned (.int .u32 ((b - a : Nat) : Int)) ∧ w' = w := by
  have h1 : ¬ (b : Int) ≤ (a : Int) := by omega
  have h2 : ((b - a : Nat) : Int) = (b : Int) - (a : Int) := by omega
  rw [h2]
  go_enter Tryf.func10, Tryf.ntmps10
  go_wp2
  go_ret
  exact ⟨rfl, rfl⟩

theorem wrap_sum (t D k : Nat) (X : Int) (hX : X = (D : Int)) (hb : t + (D + 1 + k) < 18446744073709551616) : IntKind.u64.wrap ((t : Int) + IntKind.u64.wrap (IntKind.u64.wrap (IntKind.u64.wrap X + 1) + (k : Int))) = ((t + (D + 1 + k) : Nat) : Int) := by
  subst hX
  simp only [IntKind.wrap_u64]
  omega

set_option maxHeartbeats 1000000 in
set_option maxRecDepth 100000 in
theorem bits_any (a : Option Addr) (c k : Nat) (vs : List Nat) (w : World) (hs : U32 w a vs) (hv : Asc vs) (hk : k ≤ 32) (hn : vs.length ≤ 1048576) :
    Calls Tryf.prog 9 #[.slice a vs.length c, .int .i64 (k : Int)] w fun e w' => e = .returned (.int .u64 (cost vs k : Int)) ∧ ∃ n, w' = w.drewN n := by
  go_enter Tryf.func9, Tryf.ntmps9
  go_wp2_with fail
  go_loopw [5, 6] (fun t i wr => ∃ (m n : Nat), m ≤ vs.length - 1 ∧ i = .int .i64 ((m + 1 : Nat) : Int) ∧ t = .int .u64 (cS (gap vs) k m : Int) ∧ wr = w.drewN n) (fun _ i _ => vs.length - (intOf i).toNat)
  case atStart => exact ⟨0, 0, Nat.zero_le _, rfl, rfl, rfl⟩
  case round =>
    obtain ⟨m, n, hm, rfl, rfl, hwr⟩ := hrel
    have HW : Hid (wr = w.drewN n) := hwr
    have hs : U32 wr a vs := by rw [hwr]; exact hs
    clear hwr
    have hle := cS_le (gap vs) k hk (gap_lt hv) m
    by_cases hlt : m + 1 < vs.length
    · obtain ⟨b, off, rfl, hl, c1⟩ := hs (m + 1) hlt
      obtain ⟨b', off', e', hl', c0⟩ := hs m (by omega)
      injection e' with e'
      injection e' with e1 e2
      subst e1; subst e2
      have ha := hv.2 m hlt
      have hb := hv.1 (m + 1) hlt
      have hg := gap_eq vs m hlt
      obtain ⟨x, hx⟩ : ∃ x, x = vs[m]'(by omega) := ⟨_, rfl⟩
      obtain ⟨y, hy⟩ : ∃ y, y = vs[m + 1] := ⟨_, rfl⟩
      rw [← hx] at c0 ha hg
      rw [← hy] at c1 ha hb hg
      have E : Hid (cS (gap vs) k (m + 1) = cS (gap vs) k m + ((y - x) / 2 ^ k + 1 + k)) := (by rw [← hg]; rfl : cS (gap vs) k (m + 1) = cS (gap vs) k m + ((y - x) / 2 ^ k + 1 + k))
      obtain ⟨t, ht⟩ : ∃ t, t = cS (gap vs) k m := ⟨_, rfl⟩
      rw [← ht] at hle ⊢
      have HT : Hid (t = cS (gap vs) k m) := ht
      have hi : (m : Int) + 1 < (vs.length : Int) := by omega
      have hi2 : (m : Int) < (vs.length : Int) := by omega
      have hm2 : (m : Int) ≤ 1048576 := by omega
      have hw : IntKind.i64.wrap (m : Int) = (m : Int) := by rw [IntKind.wrap_i64]; omega
      have hN : ((m : Int) + 1).toNat = m + 1 := by omega
      have h0m : 0 ≤ (m : Int) + 1 := by omega
      have hlt' : m + 1 < vs.length := hlt
      obtain ⟨d, hd⟩ : ∃ d, d = y - x := ⟨_, rfl⟩
      have hd2 : d < 4294967296 := by omega
      clear hx hy hg ht
      go_wp2
      go_quiet (first | (go_at_call 10; refine Calls.quiet_of_same (diff_any x y _ ha hb)))
      have hD : (((y - x : Nat) : Int) / 2 ^ k) = (((y - x) / 2 ^ k : Nat) : Int) := by simp
      have hDl : (y - x) / 2 ^ k ≤ y - x := Nat.div_le_self _ _
      have W1 := wrap_sum t ((y - x) / 2 ^ k) k _ hD (by omega)
      rw [W1]
      clear W1 hD
      go_wp2
      go_roundw
      case rel => exact ⟨m + 1, _, by omega, by go_num, by rw [E.out, HT.out], by rw [HW.out, World.drewN_drewN]⟩
      case measure => simp [intOf]; omega
    · have hi : (vs.length : Int) ≤ (m : Int) + 1 := by omega
      have hmm : m = vs.length - 1 := by omega
      have HM : Hid (m = vs.length - 1) := hmm
      clear hmm hs hlt hm hv hle
      go_wp2
      go_ret
      exact ⟨by unfold cost; rw [← HM.out]; rfl, n, HW.out⟩

end Go.Proofs.Qxb6629241aFmt
