import Derived.Test.Qxb6629179aDcd
import Derived.Deep.QuietTactic
import Derived.BigQuiet
import Derived.Deep.DeepCutAuto
namespace Go.Proofs.Qxb6629179a
open Go.RowKit
set_option linter.unusedSimpArgs false
set_option linter.unusedVariables false

theorem none_drewN (B : Nat) (w : World) (n : Nat) : Below B w (w.drewN n) := ⟨rfl, rfl, rfl, Nat.le_refl _, fun _ _ => rfl⟩
theorem drewN_drewN (w : World) (n m : Nat) : (w.drewN n).drewN m = w.drewN (n + m) := by simp [World.drewN, Nat.add_assoc]
theorem size_append (a b : ByteArray) : (a ++ b).size = a.size + b.size := by simp
theorem get_lo (a b : ByteArray) (i : Nat) (h : i < a.size) (h' : i < (a ++ b).size) : (a ++ b)[i] = a[i] := by
  rw [← get_list, ← get_list]
  have e : (a ++ b).data.toList = a.data.toList ++ b.data.toList := by simp
  simp only [e]
  rw [List.getElem_append_left (by simpa using h)]
theorem get_hi (a b : ByteArray) (i : Nat) (h : i < b.size) (h' : a.size + i < (a ++ b).size) : (a ++ b)[a.size + i] = b[i] := by
  rw [← get_list, ← get_list]
  have e : (a ++ b).data.toList = a.data.toList ++ b.data.toList := by simp
  simp only [e]
  rw [List.getElem_append_right (by show a.data.toList.length ≤ a.size + i; simp)]
  congr 1
  show a.data.size + i - a.data.toList.length = i
  simp

set_option maxHeartbeats 2000000 in
set_option maxRecDepth 100000 in
theorem con_any (a b : ByteArray) (w : World) (ha : a.size ≤ maxLen) (hb : b.size ≤ maxLen) :
    Calls Try.prog 3 #[.string a, .string b] w fun e w' => e = .returned (.bool true) ∧ Below w.heap.size w w' := by
  have hg := guard5_any a b w ha hb
  unfold maxLen at ha hb
  go_enter Try.func3, Try.ntmps3
  go_wp2_with fail
  refine hg.mono ?_
  rintro e w' ⟨⟨bb, rfl⟩, rfl⟩
  clear hg
  cases bb with
  | false =>
    go_wp2
    go_ret
    exact ⟨rfl, Below.refl _ _⟩
  | true =>
  by_cases h1 : (65536 : Int) < (a.size : Int)
  · go_wp2
    go_ret
    exact ⟨rfl, Below.refl _ _⟩
  by_cases h2 : (65536 : Int) < (b.size : Int)
  · go_wp2
    go_ret
    exact ⟨rfl, Below.refl _ _⟩
  obtain ⟨s, hs⟩ : ∃ s, s = a ++ b := ⟨_, rfl⟩
  have hsz : s.size = a.size + b.size := by rw [hs]; exact size_append a b
  have gl : ∀ i (h : i < a.size) (h' : i < s.size), s[i] = a[i] := by subst hs; intro i h h'; exact get_lo a b i h h'
  have gh : ∀ i (h : i < b.size) (h' : a.size + i < s.size), s[a.size + i] = b[i] := by subst hs; intro i h h'; exact get_hi a b i h h'
  have HS : Hid (s = a ++ b) := hs
  have HZ : Hid (s.size = a.size + b.size) := hsz
  have hs3 : s.size ≤ 1048576 := by omega
  have hs4 : (s.size : Int) ≤ 1048576 := by omega
  clear hs hsz
  go_wp2_with fail
  rw [← HS.out]
  refine (zz_any s _ hs3).mono ?_
  rintro e w1 ⟨g1, c1, rfl, E1, B1⟩
  have z1 := B1.size
  go_wp2_with fail
  refine (zz_any a _ (by omega)).mono ?_
  rintro e w2 ⟨g2, c2, rfl, E2, B2⟩
  have z2 := B2.size
  go_wp2_with fail
  refine (zz_any b _ (by omega)).mono ?_
  rintro e w3 ⟨g3, c3, rfl, E3, B3⟩
  replace E1 := (E1.kept B2 (Nat.le_refl _)).kept B3 (Nat.le_refl _)
  replace E2 := E2.kept B3 (Nat.le_refl _)
  have BB : Below w'.heap.size w' w3 := B1.trans ((B2.mono z1).trans (B3.mono (Nat.le_trans z1 z2)))
  clear B1 B2 B3 z1 z2
  go_wp2_with fail
  refine (decodes_any g1 c1 s w3 E1 hs3).mono ?_
  rintro e w4 ⟨rfl, rfl⟩
  have m2 := E2.mid
  have m3 := E3.mid
  go_wp2_with fail
  clear m2 m3
  go_loopw [12] (fun i wr => ∃ k n : Nat, k ≤ a.size ∧ i = .int .i64 k ∧ wr = w4.drewN n) (fun i _ => a.size - (intOf i).toNat)
  case atStart => exact ⟨0, 0, Nat.zero_le _, rfl, rfl⟩
  case round =>
    obtain ⟨k, n, hk, rfl, rfl⟩ := hrel
    by_cases hlt : k < a.size
    · have hz := HZ.out
      have p1 := E1.hi k (by omega)
      have p2 := E1.lo k (by omega)
      have p3 := E2.hi k hlt
      have p4 := E2.lo k hlt
      rw [gl k hlt (by omega)] at p1 p2
      have hi : (k : Int) < (a.size : Int) := by omega
      have hi2 : (k : Int) < (s.size : Int) := by omega
      have hi3 : k < s.size := by omega
      have hi4 : s.size + 1 + k < 2 * s.size + 1 := by omega
      have hi5 : a.size + 1 + k < 2 * a.size + 1 := by omega
      obtain ⟨x, hx⟩ : ∃ x, x = (a[k]).toNat / 32 := ⟨_, rfl⟩
      obtain ⟨y, hy⟩ : ∃ y, y = (a[k]).toNat % 32 := ⟨_, rfl⟩
      rw [← hx] at p1 p3
      rw [← hy] at p2 p4
      clear hx hy hz gl gh
      go_wp2
      go_quiet (fail)
      go_wp2
      go_quiet (fail)
      go_wp2
      go_roundw
      case rel => exact ⟨k + 1, _, by omega, by go_num, rfl⟩
      case measure => simp [intOf]; omega
    · have hi : (a.size : Int) ≤ (k : Int) := by omega
      clear gl hlt hk
      go_wp2_with fail
      go_loopw [13] (fun i wr => ∃ k n : Nat, k ≤ b.size ∧ i = .int .i64 k ∧ wr = w4.drewN n) (fun i _ => b.size - (intOf i).toNat)
      case atStart => exact ⟨0, _, Nat.zero_le _, rfl, rfl⟩
      case round =>
        clear hi
        obtain ⟨k, n, hk, rfl, rfl⟩ := hrel
        by_cases hlt : k < b.size
        · have hz := HZ.out
          have p1 := E1.hi (a.size + k) (by omega)
          have p2 := E1.lo (a.size + k) (by omega)
          have p3 := E3.hi k hlt
          have p4 := E3.lo k hlt
          rw [gh k hlt (by omega)] at p1 p2
          rw [← Nat.add_assoc] at p2
          have hi : (k : Int) < (b.size : Int) := by omega
          have hi2 : (a.size : Int) + (k : Int) < (s.size : Int) := by omega
          obtain ⟨x, hx⟩ : ∃ x, x = (b[k]).toNat / 32 := ⟨_, rfl⟩
          obtain ⟨y, hy⟩ : ∃ y, y = (b[k]).toNat % 32 := ⟨_, rfl⟩
          rw [← hx] at p1 p3
          rw [← hy] at p2 p4
          clear hx hy hz gh
          go_wp2
          go_quiet (fail)
          go_wp2
          go_quiet (fail)
          go_wp2
          go_roundw
          case rel => exact ⟨k + 1, _, by omega, by go_num, rfl⟩
          case measure => simp [intOf]; omega
        · have hi : (b.size : Int) ≤ (k : Int) := by omega
          clear gh hlt hk
          go_wp2
          go_ret
          exact ⟨rfl, BB.trans (none_drewN _ _ _)⟩

end Go.Proofs.Qxb6629179a
