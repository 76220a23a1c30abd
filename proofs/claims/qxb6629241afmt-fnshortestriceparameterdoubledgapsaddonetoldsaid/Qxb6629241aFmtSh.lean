import Derived.Test.Qxb6629241aFmtRb
namespace Go.Proofs.Qxb6629241aFmt
open Go.RowKit
set_option linter.unusedSimpArgs false
set_option linter.unusedVariables false

/-- the place up to which the cost falls -/
def IsK (c : Nat → Nat) (m : Nat) : Prop := m ≤ 32 ∧ (∀ j, j < m → c (j + 1) < c j) ∧ (m < 32 → c m ≤ c (m + 1))
theorem cost_lt {vs : List Nat} (hv : Asc vs) (k : Nat) (hk : k ≤ 32) (hn : vs.length ≤ 1048576) : cost vs k < 9007199254740992 := by
  have h := cS_le (gap vs) k hk (gap_lt hv) (vs.length - 1)
  unfold cost
  omega
theorem U32.drewN {w : World} {a : Option Addr} {vs : List Nat} (h : U32 w a vs) (n : Nat) : U32 (w.drewN n) a vs := h

set_option maxHeartbeats 1000000 in
set_option maxRecDepth 100000 in
theorem short_any (a : Option Addr) (c : Nat) (vs : List Nat) (w : World) (hs : U32 w a vs) (hv : Asc vs) (hn : vs.length ≤ 1048576) :
    Calls Tryf.prog 6 #[.slice a vs.length c] w fun e w' => ∃ m n : Nat, e = .returned (.int .i64 (m : Int)) ∧ IsK (cost vs) m ∧ w' = w.drewN n := by
  go_enter Tryf.func6, Tryf.ntmps6
  go_wp2_with fail
  refine (bits_any a c 0 vs w hs hv (by omega) hn).mono ?_
  rintro e w1 ⟨rfl, n1, rfl⟩
  go_wp2_with fail
  go_loopw [3, 4, 5] (fun s3 s4 i wr => ∃ (m n : Nat), m ≤ 32 ∧ s3 = .int .i64 (m : Int) ∧ s4 = .int .u64 (cost vs m : Int) ∧ i = .int .i64 ((m + 1 : Nat) : Int) ∧ (∀ j, j < m → cost vs (j + 1) < cost vs j) ∧ wr = w.drewN n) (fun _ _ i _ => 33 - (intOf i).toNat)
  case atStart => exact ⟨0, n1, by omega, rfl, rfl, rfl, fun j hj => absurd hj (Nat.not_lt_zero _), rfl⟩
  case round =>
    obtain ⟨m, n, hm, rfl, rfl, rfl, hall, rfl⟩ := hrel
    by_cases hlt : m < 32
    · have hi : (m : Int) + 1 ≤ 32 := by omega
      have hi' : ((m + 1 : Nat) : Int) ≤ 32 := by omega
      have b1 := cost_lt hv m (by omega) hn
      have b2 := cost_lt hv (m + 1) (by omega) hn
      have B := bits_any a c (m + 1) vs (w.drewN n) (hs.drewN n) hv (by omega) hn
      rw [show (((m + 1 : Nat)) : Int) = (m : Int) + 1 by omega] at B
      go_wp2_with fail
      refine B.mono ?_
      rintro e w2 ⟨rfl, n2, rfl⟩
      clear B
      by_cases hge : cost vs m ≤ cost vs (m + 1)
      · have HK : Hid (IsK (cost vs) m) := (⟨hm, hall, fun _ => hge⟩ : IsK (cost vs) m)
        obtain ⟨x, hx⟩ : ∃ x, x = cost vs m := ⟨_, rfl⟩
        obtain ⟨y, hy⟩ : ∃ y, y = cost vs (m + 1) := ⟨_, rfl⟩
        rw [← hx, ← hy] at hge ⊢
        have hge' : (x : Int) ≤ (y : Int) := by omega
        clear hx hy hall
        go_wp2
        go_ret
        exact ⟨m, _, rfl, HK.out, rfl⟩
      · have hall2 : ∀ j, j < m + 1 → cost vs (j + 1) < cost vs j := by
          intro j hj
          by_cases e : j = m
          · subst e; omega
          · exact hall j (by omega)
        have HA : Hid (∀ j, j < m + 1 → cost vs (j + 1) < cost vs j) := hall2
        have hge' : ((cost vs (m + 1) : Nat) : Int) < (cost vs m : Int) := by omega
        clear hall hall2
        go_wp2
        go_roundw
        case rel => exact ⟨m + 1, _, by omega, by go_num, rfl, by go_num, HA.out, by first | rfl | rw [World.drewN_drewN]⟩
        case measure => simp [intOf]; omega
    · have hmm : m = 32 := by omega
      subst hmm
      have HK : Hid (IsK (cost vs) 32) := (⟨hm, hall, fun h => absurd h hlt⟩ : IsK (cost vs) 32)
      clear hall
      go_wp2
      go_ret
      exact ⟨32, n, rfl, HK.out, rfl⟩

set_option maxHeartbeats 1000000 in
set_option maxRecDepth 100000 in
/-- zzWireRiceCost -/
theorem wire_any (a : Option Addr) (c k : Nat) (vs : List Nat) (w : World) (hs : U32 w a vs) (hv : Asc vs) (hk : k ≤ 32) (hn : vs.length ≤ 1048576) :
    Calls Tryf.prog 7 #[.slice a vs.length c, .int .i64 (k : Int)] w fun e w' => e = .returned (.int .u64 (cost vs k : Int)) ∧ ∃ n, w' = w.drewN n := by
  have hk' : (k : Int) ≤ 32 := by omega
  obtain ⟨q, hq⟩ : ∃ q : Nat, q = 2 ^ k := ⟨_, rfl⟩
  have hq1 : 1 ≤ q := by rw [hq]; exact Nat.one_le_two_pow
  have hq2 : q ≤ 4294967296 := by
    rw [hq]
    have : (2 : Nat) ^ k ≤ 2 ^ 32 := Nat.pow_le_pow_right (by omega) hk
    omega
  have hwq : IntKind.u64.wrap ((2 : Int) ^ k) = (q : Int) := by
    have e : ((2 : Int) ^ k) = (q : Int) := by rw [hq]; simp
    rw [e, IntKind.wrap_u64]; omega
  have HQ : Hid (q = 2 ^ k) := hq
  clear hq
  go_enter Tryf.func7, Tryf.ntmps7
  go_wp2_with fail
  clear hwq
  go_loopw [6, 7] (fun t i wr => ∃ (m n : Nat), m ≤ vs.length - 1 ∧ i = .int .i64 ((m + 1 : Nat) : Int) ∧ t = .int .u64 (cS (gap vs) k m : Int) ∧ wr = w.drewN n) (fun _ i _ => vs.length - (intOf i).toNat)
  case atStart => exact ⟨0, 0, Nat.zero_le _, rfl, rfl, rfl⟩
  case round =>
    obtain ⟨m, n, hm, rfl, rfl, hwr⟩ := hrel
    have HW : Hid (wr = w.drewN n) := hwr
    have hs : U32 wr a vs := by rw [hwr]; exact hs
    clear hwr
    have hle := cS_le (gap vs) k hk (gap_lt hv) m
    by_cases hlt : m + 1 < vs.length
    · obtain ⟨b, off, rfl, hl, c1⟩ := hs (m + 1) hlt
      obtain ⟨b', off', e', hl', c0⟩ := hs m (by omega)
      injection e' with e'
      injection e' with e1 e2
      subst e1; subst e2
      have ha := hv.2 m hlt
      have hb := hv.1 (m + 1) hlt
      have hg := gap_eq vs m hlt
      obtain ⟨x, hx⟩ : ∃ x, x = vs[m]'(by omega) := ⟨_, rfl⟩
      obtain ⟨y, hy⟩ : ∃ y, y = vs[m + 1] := ⟨_, rfl⟩
      rw [← hx] at c0 ha hg
      rw [← hy] at c1 ha hb hg
      have E : Hid (cS (gap vs) k (m + 1) = cS (gap vs) k m + ((y - x) / q + 1 + k)) := (by rw [← hg, HQ.out]; rfl : cS (gap vs) k (m + 1) = cS (gap vs) k m + ((y - x) / q + 1 + k))
      obtain ⟨t, ht⟩ : ∃ t, t = cS (gap vs) k m := ⟨_, rfl⟩
      rw [← ht] at hle ⊢
      have HT : Hid (t = cS (gap vs) k m) := ht
      have hi : (m : Int) + 1 < (vs.length : Int) := by omega
      have hi2 : (m : Int) < (vs.length : Int) := by omega
      have hm2 : (m : Int) ≤ 1048576 := by omega
      have hw : IntKind.i64.wrap (m : Int) = (m : Int) := by rw [IntKind.wrap_i64]; omega
      have hN : ((m : Int) + 1).toNat = m + 1 := by omega
      have h0m : 0 ≤ (m : Int) + 1 := by omega
      have hlt' : m + 1 < vs.length := hlt
      have hwd : IntKind.u64.wrap ((y : Int) - (x : Int)) = ((y - x : Nat) : Int) := by rw [IntKind.wrap_u64]; omega
      have hwx : IntKind.u64.wrap (x : Int) = (x : Int) := by rw [IntKind.wrap_u64]; omega
      have hwy : IntKind.u64.wrap (y : Int) = (y : Int) := by rw [IntKind.wrap_u64]; omega
      obtain ⟨d, hd⟩ : ∃ d, d = y - x := ⟨_, rfl⟩
      have hd2 : d < 4294967296 := by omega
      have HDD : Hid (d = y - x) := hd
      rw [← hd] at hwd
      clear hx hy hg ht hd
      go_wp2
      go_quiet (fail)
      go_wp2
      have hD : ((d : Int) / (q : Int)) = ((d / q : Nat) : Int) := by simp
      have hDl : d / q ≤ d := Nat.div_le_self _ _
      have W1 := wrap_sum t (d / q) k _ hD (by omega)
      have W2 : Hid (cS (gap vs) k (m + 1) = t + (d / q + 1 + k)) := (by rw [E.out, HT.out, HDD.out] : cS (gap vs) k (m + 1) = t + (d / q + 1 + k))
      go_roundw
      case rel => exact ⟨m + 1, _, by omega, by go_num, by rw [W1, W2.out], by rw [HW.out, World.drewN_drewN]⟩
      case measure => simp [intOf]; omega
    · have hi : (vs.length : Int) ≤ (m : Int) + 1 := by omega
      have hmm : m = vs.length - 1 := by omega
      have HM : Hid (m = vs.length - 1) := hmm
      clear hmm hs hlt hm hv hle
      go_wp2
      go_ret
      exact ⟨by unfold cost; rw [← HM.out]; rfl, n, HW.out⟩

def SomeBool (e : Ending) : Prop := ∃ b : Bool, e = .returned (.bool b)
set_option maxHeartbeats 400000 in
theorem guard5_any (a : Option Addr) (n c : Nat) (w : World) (hn : n ≤ maxLen) : Calls Tryf.prog 5 #[.slice a n c] w fun e w' => SomeBool e ∧ w' = w := by
  unfold maxLen at hn
  by_cases h1 : (1048576 : Int) < (n : Int)
  · go_enter Tryf.func5, Tryf.ntmps5
    go_wp2
    go_ret
    exact ⟨⟨_, rfl⟩, rfl⟩
  · go_enter Tryf.func5, Tryf.ntmps5
    go_wp2
    go_ret
    exact ⟨⟨_, rfl⟩, rfl⟩
set_option maxHeartbeats 400000 in
theorem guard8_any (a : Option Addr) (n c : Nat) (x : Int) (w : World) (hn : n ≤ maxLen) : Calls Tryf.prog 8 #[.slice a n c, .int .u32 x] w fun e w' => SomeBool e ∧ w' = w := by
  unfold maxLen at hn
  by_cases h1 : (1048576 : Int) < (n : Int)
  · go_enter Tryf.func8, Tryf.ntmps8
    go_wp2
    go_ret
    exact ⟨⟨_, rfl⟩, rfl⟩
  · go_enter Tryf.func8, Tryf.ntmps8
    go_wp2
    go_ret
    exact ⟨⟨_, rfl⟩, rfl⟩

/-! ### the plain law -/
theorem cS_conv (g : Nat → Nat) (k : Nat) : ∀ m, cS g (k + 1) m + cS g (k + 1) m ≤ cS g k m + cS g (k + 2) m := by
  intro m
  induction m with
  | zero => simp [cS]
  | succ m ih =>
    have e1 : g m / 2 ^ (k + 1) = g m / 2 ^ k / 2 := by rw [Nat.pow_succ, Nat.div_div_eq_div_mul]
    have e2 : g m / 2 ^ (k + 2) = g m / 2 ^ k / 2 / 2 := by rw [show k + 2 = (k + 1) + 1 by omega, Nat.pow_succ, ← Nat.div_div_eq_div_mul, e1]
    simp only [cS, e1, e2]
    obtain ⟨x, hx⟩ : ∃ x, x = g m / 2 ^ k := ⟨_, rfl⟩
    rw [← hx]
    omega
theorem cost_conv (vs : List Nat) (k : Nat) (h : cost vs k ≤ cost vs (k + 1)) : cost vs (k + 1) ≤ cost vs (k + 2) := by
  have := cS_conv (gap vs) k (vs.length - 1)
  unfold cost at h ⊢
  omega
theorem up_from (c : Nat → Nat) (hc : ∀ k, c k ≤ c (k + 1) → c (k + 1) ≤ c (k + 2)) (m : Nat) (h : c m ≤ c (m + 1)) : ∀ i, c (m + i) ≤ c (m + i + 1) := by
  intro i
  induction i with
  | zero => exact h
  | succ i ih => exact hc (m + i) ih
theorem up_le (c : Nat → Nat) (m : Nat) (h : ∀ i, c (m + i) ≤ c (m + i + 1)) : ∀ i, c m ≤ c (m + i) := by
  intro i
  induction i with
  | zero => exact Nat.le_refl _
  | succ i ih => exact Nat.le_trans ih (h i)
theorem down_lt (c : Nat → Nat) (m : Nat) (h : ∀ j, j < m → c (j + 1) < c j) : ∀ j, j < m → c m < c j := by
  induction m with
  | zero => intro j hj; omega
  | succ m ih =>
    intro j hj
    have h1 := h m (by omega)
    by_cases e : j = m
    · subst e; exact h1
    · exact Nat.lt_trans h1 (ih (fun j hj => h j (by omega)) j (by omega))
/-- the first of the least, up to K -/
def FM (c : Nat → Nat) (K b : Nat) : Prop := b ≤ K ∧ (∀ j, j ≤ K → c b ≤ c j) ∧ ∀ j, j < b → c b < c j
theorem IsK.low {c : Nat → Nat} {m : Nat} (h : IsK c m) (hc : ∀ k, c k ≤ c (k + 1) → c (k + 1) ≤ c (k + 2)) : ∀ j, j ≤ 32 → c m ≤ c j := by
  intro j hj
  by_cases h1 : j < m
  · exact Nat.le_of_lt (down_lt c m h.2.1 j h1)
  · by_cases h2 : m < 32
    · obtain ⟨i, rfl⟩ : ∃ i, j = m + i := ⟨j - m, by omega⟩
      exact up_le c m (up_from c hc m (h.2.2 h2)) i
    · have := h.1
      have e : j = m := by omega
      subst e; exact Nat.le_refl _
theorem first_least {c : Nat → Nat} {m b : Nat} (h : IsK c m) (hc : ∀ k, c k ≤ c (k + 1) → c (k + 1) ≤ c (k + 2)) (hb : FM c 32 b) : m = b := by
  have h1 := h.low hc b hb.1
  have h2 := hb.2.1 m h.1
  rcases Nat.lt_trichotomy m b with e | e | e
  · have := hb.2.2 m e; omega
  · exact e
  · have := down_lt c m h.2.1 b e; omega
theorem FM.next {c : Nat → Nat} {K b : Nat} (h : FM c K b) : (c (K + 1) < c b → FM c (K + 1) (K + 1)) ∧ (c b ≤ c (K + 1) → FM c (K + 1) b) := by
  obtain ⟨h1, h2, h3⟩ := h
  constructor
  · intro hlt
    refine ⟨Nat.le_refl _, fun j hj => ?_, fun j hj => Nat.lt_of_lt_of_le hlt (h2 j (by omega))⟩
    by_cases e : j = K + 1
    · subst e; exact Nat.le_refl _
    · exact Nat.le_of_lt (Nat.lt_of_lt_of_le hlt (h2 j (by omega)))
  · intro hle
    refine ⟨by omega, fun j hj => ?_, h3⟩
    by_cases e : j = K + 1
    · subst e; exact hle
    · exact h2 j (by omega)

end Go.Proofs.Qxb6629241aFmt
