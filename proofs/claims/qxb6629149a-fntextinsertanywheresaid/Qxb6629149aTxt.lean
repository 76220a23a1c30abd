import Derived.Test.Qxb6629149aBld
namespace Go.Proofs.Qxb6629149a
open Go.RowKit
set_option linter.unusedSimpArgs false
set_option linter.unusedVariables false

/-- each piece behind a comma -/
def tB (ss : List ByteArray) : List UInt8 := (ss.map fun s => (44 : UInt8) :: s.data.toList).flatten
/-- the first comma made a bracket -/
def pre (ss : List ByteArray) : List UInt8 := match tB ss with
  | [] => []
  | _ :: r => 91 :: r
def txt (ss : List ByteArray) : List UInt8 := match ss with
  | [] => []
  | _ :: _ => pre ss ++ [93]
theorem tB_append (a b : List ByteArray) : tB (a ++ b) = tB a ++ tB b := by unfold tB; rw [List.map_append, List.flatten_append]
theorem tB_cons (s : ByteArray) (b : List ByteArray) : tB (s :: b) = 44 :: (s.data.toList ++ tB b) := by unfold tB; simp
theorem pre_cons (s : ByteArray) (b : List ByteArray) : pre (s :: b) = 91 :: (s.data.toList ++ tB b) := by unfold pre; rw [tB_cons]
theorem txt_cons (s : ByteArray) (b : List ByteArray) : txt (s :: b) = 91 :: (s.data.toList ++ tB b ++ [93]) := by unfold txt; simp only; rw [pre_cons]; simp
theorem pre_first (ss : List ByteArray) (h : 0 < ss.length) : pre (ss.take (0 + 1)) = ([91] : List UInt8) ++ ss[0].data.toList := by
  cases ss with
  | nil => simp at h
  | cons s l => simp [pre_cons, tB]
theorem pre_next (ss : List ByteArray) (k : Nat) (h : k < ss.length) (h0 : ¬ k = 0) : pre (ss.take (k + 1)) = (pre (ss.take k) ++ [44]) ++ ss[k].data.toList := by
  cases ss with
  | nil => simp at h
  | cons s l =>
    cases k with
    | zero => exact absurd rfl h0
    | succ k =>
      have hk : k < l.length := by simpa using h
      rw [List.take_succ_cons, List.take_succ_cons, pre_cons, pre_cons, List.take_succ_eq_append_getElem hk, tB_append]
      have e : tB [l[k]] = 44 :: l[k].data.toList := by rw [tB_cons]; simp [tB]
      rw [e]; simp
theorem tB_length (ss : List ByteArray) : (tB ss).length = (ss.map fun s => s.size + 1).sum := by
  induction ss with
  | nil => rfl
  | cons s l ih => rw [tB_cons]; simp only [List.length_cons, List.length_append, List.map_cons, List.sum_cons, ih]; rw [Array.length_toList]; show (s.size + _) + 1 = _; omega
theorem pre_length (ss : List ByteArray) : (pre ss).length = (tB ss).length := by unfold pre; split <;> simp_all
theorem tB_take_le (ss : List ByteArray) (k : Nat) : (tB (ss.take k)).length ≤ (tB ss).length := by
  have h : tB ss = tB (ss.take k) ++ tB (ss.drop k) := by rw [← tB_append, List.take_append_drop]
  rw [h, List.length_append]; omega
theorem txt_pre (ss : List ByteArray) (h : 0 < ss.length) : txt ss = pre ss ++ [93] := by
  cases ss with
  | nil => simp at h
  | cons s l => rfl

/-- the pieces lie behind the address -/
def Strs (w : World) (a : Option Addr) (ss : List ByteArray) : Prop := ∀ j (h : j < ss.length), ∃ b off, a = some ⟨b, off, none⟩ ∧ b < w.heap.size ∧ w.cell? ⟨b, off + j, none⟩ = some (.string ss[j])
theorem Strs.kept {w w' : World} {a : Option Addr} {ss : List ByteArray} (h : Strs w a ss) {B : Nat} (hb : Below B w w') (hB : w.heap.size ≤ B) : Strs w' a ss := by
  intro j hj
  obtain ⟨b, off, e, hl, hc⟩ := h j hj
  refine ⟨b, off, e, Nat.lt_of_lt_of_le hl hb.size, ?_⟩
  exact (World.cell?_of_block (hb.block b (by omega))).trans hc

set_option maxHeartbeats 2000000 in
set_option maxRecDepth 100000 in
/-- Text -/
theorem text_any (f : Nat) (a : Option Addr) (c : Nat) (L : Int) (ss : List ByteArray) (w : World) (c0 : w.cell? ⟨f, 0, none⟩ = some (.slice a ss.length c)) (c2 : w.cell? ⟨f, 2, none⟩ = some (.int .i64 L)) (hf : f < w.heap.size)
    (hs : Strs w a ss) (h0 : 0 ≤ L) (h1 : L ≤ 1048576) (hl : (tB ss).length ≤ 4194304) (hn : ss.length ≤ 1048576) :
    Calls Try.prog 7 #[.pointer (some ⟨f, 0, none⟩)] w fun e w' => e = .returned (.string ⟨(txt ss).toArray⟩) ∧ Below w.heap.size w w' := by
  by_cases hz : ss.length = 0
  · have e : ss = [] := List.length_eq_zero_iff.1 hz
    subst e
    simp only [List.length_nil] at c0
    go_enter Try.func7, Try.ntmps7
    go_wp2
    go_ret
    exact ⟨rfl, Below.refl _ _⟩
  · have hz' : ¬ ((ss.length : Int) = 0) := by omega
    have hL : (((L + 1).toNat : Nat) : Int) = L + 1 := Int.toNat_of_nonneg (by omega)
    have G := Try.Builder_Grow_fresh w.heap.size w.heap.size (L + 1).toNat (w.alloc (Obj.cells #[Value.pointer none, Value.slice none 0 0] 34)) (Nat.le_refl _) (heap_alloc_new w _) (by simp) (by omega)
    rw [hL] at G
    clear hL
    go_enter Try.func7, Try.ntmps7
    go_wp2_with fail
    refine G.mono ?_
    rintro e w1 ⟨rfl, b1, B1⟩
    clear G
    have B1 : Below w.heap.size w w1 := ((Below.refl _ w).alloc (Nat.le_refl _) _).trans B1
    have D1 : Bd w.heap.size w.heap.size (pre (ss.take 0)) w1 := b1
    have d0 : w1.cell? ⟨f, 0, none⟩ = some (.slice a ss.length c) := (World.cell?_of_block (B1.block f hf)).trans c0
    clear b1
    go_wp2_with fail
    clear d0
    go_loopw [23] (fun i wr => ∃ k : Nat, k ≤ ss.length ∧ i = .int .i64 k ∧ Bd w.heap.size w.heap.size (pre (ss.take k)) wr ∧ Below w.heap.size w wr) (fun i _ => ss.length - (intOf i).toNat)
    case atStart => exact ⟨0, Nat.zero_le _, rfl, D1, B1⟩
    case round =>
      obtain ⟨k, hk, rfl, D, Bw⟩ := hrel
      clear D1 B1
      have lk := tB_take_le ss k
      have lp := pre_length (ss.take k)
      by_cases hlt : k < ss.length
      · obtain ⟨b, off, rfl, hb, hc⟩ := hs.kept Bw (Nat.le_refl _) k hlt
        have hi : (k : Int) < (ss.length : Int) := by omega
        have zr := Bw.size
        obtain ⟨s, es⟩ : ∃ s, s = ss[k] := ⟨_, rfl⟩
        rw [← es] at hc
        have hsz : s.size ≤ 4194304 := by
          have h1 := tB_take_le ss (k + 1)
          have h2 : tB (ss.take (k + 1)) = tB (ss.take k) ++ tB [ss[k]] := by rw [← tB_append, List.take_succ_eq_append_getElem hlt]
          rw [h2, List.length_append, tB_cons, ← es] at h1
          simp at h1
          have : s.data.size = s.size := rfl
          omega
        by_cases h0 : k = 0
        · have hP : Hid (pre (ss.take (k + 1)) = (pre (ss.take k) ++ [91]) ++ s.data.toList) := (by subst h0; rw [pre_first ss hlt, es]; simp [pre, tB] : pre (ss.take (k + 1)) = (pre (ss.take k) ++ [91]) ++ s.data.toList)
          have hk0 : ((k : Int) == 0) = true := by rw [beq_iff_eq]; omega
          clear es h0
          go_wp2_with fail
          refine (writeByte_any w.heap.size w.heap.size _ 91 _ _ rfl D (by omega) zr).mono ?_
          rintro e w2 ⟨rfl, D2, B2⟩
          have z2 := B2.size
          go_wp2_with fail
          refine (writeString_any w.heap.size w.heap.size _ s _ D2 (by simp; omega) (by omega)).mono ?_
          rintro e w3 ⟨rfl, D3, B3⟩
          rw [← hP.out] at D3
          go_wp2
          go_roundw
          case rel => exact ⟨k + 1, by omega, by go_num, D3, (Bw.trans B2).trans B3⟩
          case measure => simp [intOf]; omega
        · have hP : Hid (pre (ss.take (k + 1)) = (pre (ss.take k) ++ [44]) ++ s.data.toList) := (by rw [pre_next ss k hlt h0, es] : pre (ss.take (k + 1)) = (pre (ss.take k) ++ [44]) ++ s.data.toList)
          have hk0 : ((k : Int) == 0) = false := by rw [beq_eq_false_iff_ne]; omega
          clear es h0
          go_wp2_with fail
          refine (writeByte_any w.heap.size w.heap.size _ 44 _ _ rfl D (by omega) zr).mono ?_
          rintro e w2 ⟨rfl, D2, B2⟩
          have z2 := B2.size
          go_wp2_with fail
          refine (writeString_any w.heap.size w.heap.size _ s _ D2 (by simp; omega) (by omega)).mono ?_
          rintro e w3 ⟨rfl, D3, B3⟩
          rw [← hP.out] at D3
          go_wp2
          go_roundw
          case rel => exact ⟨k + 1, by omega, by go_num, D3, (Bw.trans B2).trans B3⟩
          case measure => simp [intOf]; omega
      · have hkk : k = ss.length := by omega
        subst hkk
        rw [List.take_length] at D lp lk
        have zr := Bw.size
        clear hlt hk
        go_wp2_with fail
        refine (writeByte_any w.heap.size w.heap.size _ 93 _ _ rfl D (by omega) zr).mono ?_
        rintro e w2 ⟨rfl, D2, B2⟩
        have z2 := B2.size
        rw [← txt_pre ss (by omega)] at D2
        go_wp2_with fail
        refine (Try.Builder_String_any w.heap.size w.heap.size (txt ss) _ (.inr D2) (by omega)).mono ?_
        rintro e w3 ⟨rfl, B3⟩
        go_wp2
        go_ret
        exact ⟨rfl, (Bw.trans B2).trans B3⟩

end Go.Proofs.Qxb6629149a
