import Derived.Test.Qxb6629149aTxt
namespace Go.Proofs.Qxb6629149a
open Go.RowKit
set_option linter.unusedSimpArgs false
set_option linter.unusedVariables false

def Small (ss : List ByteArray) (k : Nat) : Prop := ∀ j (h : j < ss.length), j < k → ss[j].size ≤ 1048576
def SomeBool (ss : List ByteArray) (e : Ending) : Prop := ∃ b : Bool, e = .returned (.bool b) ∧ (b = true → Small ss ss.length)
theorem Small.next {ss : List ByteArray} {k : Nat} {s : ByteArray} (h : Small ss k) (hk : k < ss.length) (hs : s = ss[k]) (hz : (s.size : Int) ≤ 1048576) : Small ss (k + 1) := by
  intro j hj hjk
  by_cases e : j = k
  · subst e; rw [← hs]; omega
  · exact h j hj (by omega)
theorem SomeBool.no (ss : List ByteArray) : SomeBool ss (.returned (.bool false)) := ⟨false, rfl, fun h => by cases h⟩
theorem SomeBool.yes {ss : List ByteArray} {k : Nat} (h : Small ss k) (hk : (ss.length : Int) ≤ (k : Int)) : SomeBool ss (.returned (.bool true)) := ⟨true, rfl, fun _ j hj hjk => h j hj (by omega)⟩

set_option maxHeartbeats 1000000 in
set_option maxRecDepth 100000 in
theorem guard5_any (a : Option Addr) (c : Nat) (x y : Int) (ss : List ByteArray) (w : World) (hs : Strs w a ss) (hn : ss.length ≤ maxLen) (hz : ∀ s ∈ ss, s.size ≤ maxLen) :
    Calls Try.prog 5 #[.slice a ss.length c, .int .i64 x, .int .i64 y] w fun e w' => SomeBool ss e ∧ w' = w := by
  unfold maxLen at hn hz
  by_cases hb : (1048576 : Int) < (ss.length : Int)
  · go_enter Try.func5, Try.ntmps5
    go_wp2
    go_ret
    exact ⟨by first | exact SomeBool.no _ | exact SomeBool.yes hsm hi, rfl⟩
  go_enter Try.func5, Try.ntmps5
  go_wp2_with fail
  go_loopw [7, 8] (fun t i wr => ∃ (k : Nat) (m : Int), k ≤ ss.length ∧ i = .int .i64 k ∧ t = .int .i64 m ∧ 0 ≤ m ∧ m ≤ 1048576 ∧ Small ss k ∧ wr = w) (fun _ i _ => ss.length - (intOf i).toNat)
  case atStart => exact ⟨0, _, Nat.zero_le _, rfl, rfl, by omega, by omega, fun j h hj => absurd hj (Nat.not_lt_zero _), rfl⟩
  case round =>
    obtain ⟨k, m, hk, rfl, rfl, h0, h1, hsm, rfl⟩ := hrel
    by_cases hlt : k < ss.length
    · obtain ⟨b, off, rfl, hl, hc⟩ := hs k hlt
      have hz0 := hz ss[k] (List.getElem_mem hlt)
      obtain ⟨s, es⟩ : ∃ s, s = ss[k] := ⟨_, rfl⟩
      rw [← es] at hc hz0
      have hi : (k : Int) < (ss.length : Int) := by omega
      have ES : Hid (s = ss[k]) := es
      clear es hs hz
      by_cases h2 : (1048576 : Int) < (s.size : Int)
      · go_wp2
        go_ret
        exact ⟨by first | exact SomeBool.no _ | exact SomeBool.yes hsm hi, rfl⟩
      · by_cases h3 : 1048576 < m + (s.size : Int)
        · go_wp2
          go_ret
          exact ⟨by first | exact SomeBool.no _ | exact SomeBool.yes hsm hi, rfl⟩
        · go_wp2
          go_roundw
          case rel => exact ⟨k + 1, _, by omega, by go_num, rfl, by omega, by omega, hsm.next hlt ES.out (by omega), by first | rfl | trivial⟩
          case measure => simp [intOf]; omega
    · have hi : (ss.length : Int) ≤ (k : Int) := by omega
      clear hs hz
      go_wp2
      go_ret
      exact ⟨by first | exact SomeBool.no _ | exact SomeBool.yes hsm hi, rfl⟩

set_option maxHeartbeats 1000000 in
set_option maxRecDepth 100000 in
theorem guard8_any (a : Option Addr) (c : Nat) (st : ByteArray) (x y : Int) (ss : List ByteArray) (w : World) (hs : Strs w a ss) (hn : ss.length ≤ maxLen) (hz : ∀ s ∈ ss, s.size ≤ maxLen) (hst : st.size ≤ maxLen) :
    Calls Try.prog 8 #[.slice a ss.length c, .string st, .int .i64 x, .int .i64 y] w fun e w' => SomeBool ss e ∧ w' = w := by
  unfold maxLen at hn hz hst
  by_cases hb : (1048576 : Int) < (ss.length : Int)
  · go_enter Try.func8, Try.ntmps8
    go_wp2
    go_ret
    exact ⟨by first | exact SomeBool.no _ | exact SomeBool.yes hsm hi, rfl⟩
  go_enter Try.func8, Try.ntmps8
  go_wp2_with fail
  go_loopw [9, 10] (fun t i wr => ∃ (k : Nat) (m : Int), k ≤ ss.length ∧ i = .int .i64 k ∧ t = .int .i64 m ∧ 0 ≤ m ∧ m ≤ 1048576 ∧ Small ss k ∧ wr = w) (fun _ i _ => ss.length - (intOf i).toNat)
  case atStart => exact ⟨0, _, Nat.zero_le _, rfl, rfl, by omega, by omega, fun j h hj => absurd hj (Nat.not_lt_zero _), rfl⟩
  case round =>
    obtain ⟨k, m, hk, rfl, rfl, h0, h1, hsm, rfl⟩ := hrel
    by_cases hlt : k < ss.length
    · obtain ⟨b, off, rfl, hl, hc⟩ := hs k hlt
      have hz0 := hz ss[k] (List.getElem_mem hlt)
      obtain ⟨s, es⟩ : ∃ s, s = ss[k] := ⟨_, rfl⟩
      rw [← es] at hc hz0
      have hi : (k : Int) < (ss.length : Int) := by omega
      have ES : Hid (s = ss[k]) := es
      clear es hs hz
      by_cases h2 : (1048576 : Int) < (s.size : Int)
      · go_wp2
        go_ret
        exact ⟨by first | exact SomeBool.no _ | exact SomeBool.yes hsm hi, rfl⟩
      · by_cases h3 : 1048576 < m + (s.size : Int)
        · go_wp2
          go_ret
          exact ⟨by first | exact SomeBool.no _ | exact SomeBool.yes hsm hi, rfl⟩
        · go_wp2
          go_roundw
          case rel => exact ⟨k + 1, _, by omega, by go_num, rfl, by omega, by omega, hsm.next hlt ES.out (by omega), by first | rfl | trivial⟩
          case measure => simp [intOf]; omega
    · have hi : (ss.length : Int) ≤ (k : Int) := by omega
      clear hs hz
      by_cases h2 : (1048576 : Int) < (st.size : Int)
      · go_wp2
        go_ret
        exact ⟨by first | exact SomeBool.no _ | exact SomeBool.yes hsm hi, rfl⟩
      · by_cases h3 : 1048576 < m + (st.size : Int)
        · go_wp2
          go_ret
          exact ⟨by first | exact SomeBool.no _ | exact SomeBool.yes hsm hi, rfl⟩
        · go_wp2
          go_ret
          exact ⟨by first | exact SomeBool.no _ | exact SomeBool.yes hsm hi, rfl⟩

end Go.Proofs.Qxb6629149a
