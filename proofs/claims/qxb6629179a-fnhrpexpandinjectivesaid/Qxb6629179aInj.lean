import Derived.Test.Qxb6629179aDcd
import Derived.Deep.QuietTactic
import Derived.BigQuiet
import Derived.Deep.DeepCutAuto
import Derived.Lib.Strings
namespace Go.Proofs.Qxb6629179a
open Go.RowKit
set_option linter.unusedSimpArgs false
set_option linter.unusedVariables false

theorem drewN_below (B : Nat) (w : World) (n : Nat) : Below B w (w.drewN n) := ⟨rfl, rfl, rfl, Nat.le_refl _, fun _ _ => rfl⟩
/-- the byte at place i of the expansion -/
def exAt (s : ByteArray) (i : Nat) : Nat := (ex s.data.toList).getD i 0
theorem ex_length (s : ByteArray) : (ex s.data.toList).length = 2 * s.size + 1 := by
  unfold ex hiP loP; simp; show s.data.size + (s.data.size + 1) = 2 * s.data.size + 1; omega
theorem exAt_hi (s : ByteArray) (i : Nat) (h : i < s.size) : exAt s i = s[i].toNat / 32 := by
  unfold exAt ex
  rw [List.getD_eq_getElem?_getD, List.getElem?_append_left (by unfold hiP; simpa using h)]
  unfold hiP
  rw [List.getElem?_map, List.getElem?_eq_getElem (by simpa using h)]
  rfl
theorem exAt_mid (s : ByteArray) : exAt s s.size = 0 := by
  have hl : (hiP s.data.toList).length = s.size := by unfold hiP; rw [List.length_map]; rfl
  unfold exAt ex
  rw [List.getD_eq_getElem?_getD, List.getElem?_append_right (by omega), hl, Nat.sub_self]
  rfl
theorem exAt_lo (s : ByteArray) (i : Nat) (h : i < s.size) : exAt s (s.size + 1 + i) = s[i].toNat % 32 := by
  have hl : (hiP s.data.toList).length = s.size := by unfold hiP; rw [List.length_map]; rfl
  unfold exAt ex
  rw [List.getD_eq_getElem?_getD, List.getElem?_append_right (by omega), hl]
  have e : s.size + 1 + i - s.size = i + 1 := by omega
  rw [e, List.getElem?_cons_succ]
  unfold loP
  rw [List.getElem?_map, List.getElem?_eq_getElem (by simpa using h)]
  rfl
theorem Ex.at_ {w : World} {g : Nat} {s : ByteArray} (h : Ex w g s) (i : Nat) (hi : i < 2 * s.size + 1) : w.cell? ⟨g, i, none⟩ = some (.int .u8 (exAt s i : Int)) := by
  rcases Nat.lt_trichotomy i s.size with h1 | h1 | h1
  · rw [exAt_hi s i h1]; exact h.hi i h1
  · subst h1; rw [exAt_mid]; exact h.mid
  · obtain ⟨j, rfl⟩ : ∃ j, i = s.size + 1 + j := ⟨i - (s.size + 1), by omega⟩
    rw [exAt_lo s j (by omega)]; exact h.lo j (by omega)
theorem tl (s : ByteArray) : s.toList = s.data.toList := by
  obtain ⟨⟨l⟩⟩ := s
  simp
theorem neb_of {a b : ByteArray} (h : ¬ a = b) : (a.toList == b.toList) = false := by
  rw [beq_eq_false_iff_ne, tl, tl]; intro e
  apply h
  cases a; cases b; simp at e; subst e; rfl
/-- two expansions of one length that agree everywhere are of one string -/
theorem ex_inj (a b : ByteArray) (hl : a.size = b.size) (h : ∀ i, i < 2 * a.size + 1 → exAt a i = exAt b i) : a = b := by
  have key : a.data.toList = b.data.toList := by
    apply List.ext_getElem
    · simpa using hl
    · intro i h1 h2
      have ha : i < a.size := by simpa using h1
      have hb : i < b.size := by simpa using h2
      have e1 := h i (by omega)
      have e2 := h (a.size + 1 + i) (by omega)
      rw [exAt_hi a i ha, exAt_hi b i hb] at e1
      rw [exAt_lo a i ha, hl, exAt_lo b i hb] at e2
      show a[i] = b[i]
      apply UInt8.toNat_inj.1
      omega
  cases a; cases b; simp at key; subst key; rfl

set_option maxHeartbeats 2000000 in
set_option maxRecDepth 100000 in
theorem inj_any (a b : ByteArray) (w : World) (ha : a.size ≤ maxLen) (hb : b.size ≤ maxLen) :
    Calls Try.prog 4 #[.string a, .string b] w fun e w' => e = .returned (.bool true) ∧ Below w.heap.size w w' := by
  have hg := guard8_any a b w ha hb
  unfold maxLen at ha hb
  go_enter Try.func4, Try.ntmps4
  go_wp2_with fail
  refine hg.mono ?_
  rintro e w' ⟨⟨bb, rfl⟩, rfl⟩
  clear hg
  cases bb with
  | false =>
    go_wp2
    go_ret
    exact ⟨rfl, Below.refl _ _⟩
  | true =>
  by_cases h1 : (65536 : Int) < (a.size : Int)
  · go_wp2
    go_ret
    exact ⟨rfl, Below.refl _ _⟩
  by_cases h2 : (65536 : Int) < (b.size : Int)
  · go_wp2
    go_ret
    exact ⟨rfl, Below.refl _ _⟩
  go_wp2_with fail
  refine (zz_any a _ (by omega)).mono ?_
  rintro e w1 ⟨g1, c1, rfl, E1, B1⟩
  have z1 := B1.size
  go_wp2_with fail
  refine (zz_any b _ (by omega)).mono ?_
  rintro e w2 ⟨g2, c2, rfl, E2, B2⟩
  replace E1 := E1.kept B2 (Nat.le_refl _)
  have BB : Below w'.heap.size w' w2 := B1.trans (B2.mono z1)
  clear B1 B2 z1
  go_wp2_with fail
  refine (decodes_any g1 c1 a w2 E1 (by omega)).mono ?_
  rintro e w4 ⟨rfl, rfl⟩
  by_cases hl : a.size = b.size
  · have hl' : ((2 * (a.size : Int) + 1) == (2 * (b.size : Int) + 1)) = true := by rw [beq_iff_eq]; omega
    go_wp2_with fail
    go_loopw [7, 8] (fun s7 i wr => ∃ k n : Nat, k ≤ 2 * a.size + 1 ∧ s7 = .bool true ∧ i = .int .i64 k ∧ (∀ j, j < k → exAt a j = exAt b j) ∧ wr = w4.drewN n) (fun _ i _ => 2 * a.size + 1 - (intOf i).toNat)
    case atStart => exact ⟨0, 0, Nat.zero_le _, rfl, rfl, fun j hj => absurd hj (Nat.not_lt_zero _), rfl⟩
    case round =>
      obtain ⟨k, n, hk, rfl, rfl, hall, rfl⟩ := hrel
      by_cases hlt : k < 2 * a.size + 1
      · have p1 := E1.at_ k hlt
        have p2 := E2.at_ k (by omega)
        have hi : (k : Int) < 2 * (a.size : Int) + 1 := by omega
        have hi2 : (k : Int) < 2 * (b.size : Int) + 1 := by omega
        have hi3 : k < 2 * b.size + 1 := by omega
        by_cases he : exAt a k = exAt b k
        · have hall2 : ∀ j, j < k + 1 → exAt a j = exAt b j := by
            intro j hj
            by_cases e : j = k
            · subst e; exact he
            · exact hall j (by omega)
          have HA2 : Hid (∀ j, j < k + 1 → exAt a j = exAt b j) := hall2
          rw [← he] at p2
          obtain ⟨x, hx⟩ : ∃ x, x = exAt a k := ⟨_, rfl⟩
          rw [← hx] at p1 p2
          clear hx he hall hall2 hl
          go_wp2
          go_quiet (fail)
          go_wp2
          go_roundw
          case rel => exact ⟨k + 1, _, by omega, by first | rfl | trivial, by go_num, HA2.out, rfl⟩
          case measure => simp [intOf]; omega
        · have hne : (a.toList == b.toList) = false := neb_of (fun h => he (by rw [h]))
          obtain ⟨x, hx⟩ : ∃ x, x = exAt a k := ⟨_, rfl⟩
          obtain ⟨y, hy⟩ : ∃ y, y = exAt b k := ⟨_, rfl⟩
          rw [← hx] at p1 he
          rw [← hy] at p2 he
          have hxy : ((x : Int) != (y : Int)) = true := by rw [bne_iff_ne]; omega
          clear hx hy hall he hl
          go_wp2
          go_quiet (fail)
          go_wp2
          go_ret
          exact ⟨rfl, BB.trans (drewN_below _ _ _)⟩
      · have hkk : k = 2 * a.size + 1 := by omega
        have hab : a = b := ex_inj a b hl (fun i hi => hall i (by omega))
        have hi : 2 * (a.size : Int) + 1 ≤ (k : Int) := by omega
        have hi' : 2 * (b.size : Int) + 1 ≤ (k : Int) := by omega
        have heq : (a.toList == b.toList) = true := by rw [hab]; simp
        clear hall hlt hk hl hkk hab
        go_wp2
        go_ret
        exact ⟨rfl, BB.trans (drewN_below _ _ _)⟩
  · have hl' : ((2 * (a.size : Int) + 1) == (2 * (b.size : Int) + 1)) = false := by rw [beq_eq_false_iff_ne]; omega
    have hne : (a.toList == b.toList) = false := neb_of (fun h => hl (by rw [h]))
    go_wp2
    go_ret
    exact ⟨rfl, BB⟩

end Go.Proofs.Qxb6629179a
