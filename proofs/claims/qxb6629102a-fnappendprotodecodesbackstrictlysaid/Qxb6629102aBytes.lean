import Derived.Test.Qxb6629102aProto
import Derived.Laws.CopyOwn
import Derived.Deep.QuietTactic
import Derived.BigQuiet
namespace Go.Proofs.Qxb6629102a
open Go.RowKit
set_option linter.unusedSimpArgs false
set_option linter.unusedVariables false

theorem size5 : (Try.prog.info? 5).map (·.size) = some 1 := by kernel_rfl

set_option maxHeartbeats 400000 in
theorem clone_nil (w : World) : Calls Try.prog 7 #[.slice none 0 0] w fun e w' => e = .returned (.slice none 0 0) ∧ w = w' := by
  have hn := fun (wx : World) => Lib.run_eql_slice_nil (P := Try.prog) wx 23 5 none 0 0 0 0 Try.underlying23
  go_enter Try.func7, Try.ntmps7
  go_wp2
  go_ret
  exact ⟨rfl, rfl⟩

theorem run_copy_ob {w1 : World} {base g b off c : Nat} {sp : Option Nat} {bs : List UInt8} {xs : List Value} (ty : TypeId) (hown : w1.ownsRow base 5 1 (.slice (some ⟨g, 0, none⟩) bs.length bs.length) bs.length xs) (hat : At w1 b off bs) (hsp : 0 < bs.length → sp = none) :
    ∃ w2, Sem.run Try.prog (Builtin.copy_ #[23, 23] ty #[.slice (some ⟨g, 0, none⟩) bs.length bs.length, .slice (some ⟨b, off, sp⟩) bs.length c]) w1 = .ok (goInt bs.length) w2 ∧
      OB base w2 (.slice (some ⟨g, 0, none⟩) bs.length bs.length) bs ∧ w1.grownBy w2 (some g) := by
  rcases hown.2 with ⟨h, _⟩ | ⟨g2, cap, cur, h, hb, hg, hnc, hcm, hcs, ht⟩
  · cases h
  injection h with h _ h3
  injection h with h
  injection h with h
  subst h; subst h3
  have hsz : cur.size = bs.length := by simpa using hcs
  have hl : (bs.map bv).length = bs.length := by simp
  have hrun := run_copy_row (P := Try.prog) w1 23 23 ty 5 g 0 bs.length bs.length ⟨b, off, sp⟩ bs.length c cur 5 (bs.map bv) Try.underlying23 size5 hg (by simp) (hat.newsS hsp) (by rw [hl, hsz]; omega) (bv_oneCell bs)
  rw [hl] at hrun
  refine ⟨_, hrun, ⟨by simp, .inr ⟨g, bs.length, _, rfl, hb, setRow_heap w1 g cur _ 5 _ hg, Nat.le_refl _, hcm, ?_, ?_⟩⟩, ⟨rfl, rfl, rfl, by simp, fun k _ hk => setRow_other w1 g k _ (fun e => hk (by rw [e]))⟩⟩
  · simp; omega
  · have e1 : cur.toList.drop (0 + bs.length) = [] := List.drop_of_length_le (by simp; omega)
    rw [e1]
    simp only [List.take_zero, List.nil_append, List.append_nil]
    exact List.take_of_length_le (by simp)

set_option maxHeartbeats 400000 in
theorem clone_some (w : World) (b off c : Nat) (sp : Option Nat) (bs : List UInt8) (hat : At w b off bs) (hsp : 0 < bs.length → sp = none) (hl : bs.length ≤ 1048576) :
    Calls Try.prog 7 #[.slice (some ⟨b, off, sp⟩) bs.length c] w fun e w' => e = .returned (.slice (some ⟨w.heap.size, 0, none⟩) bs.length bs.length) ∧ OB w.heap.size w' (.slice (some ⟨w.heap.size, 0, none⟩) bs.length bs.length) bs ∧ w.grownBy w' none := by
  have hn := fun (wx : World) => Lib.run_eql_slice_nil (P := Try.prog) wx 23 5 (some ⟨b, off, sp⟩) bs.length c 0 0 Try.underlying23
  obtain ⟨i0, hi, hz0, hz1, hz2⟩ := info_parts Try.info5
  go_enter Try.func7, Try.ntmps7
  go_wp2_with (at_make; refine wpList_make_full _ rfl _ _ 23 rfl w.heap.size 5 i0 (.int .u8 0) 1 Try.underlying23 hi hz0 hz1 _ _ _ _ bs.length rfl rfl rfl rfl (by rw [hz2]; omega) (by unfold maxLen; omega) (by omega) ?_; intro w1 hown hgrow; obtain ⟨w2, hrun, ho, hg⟩ := run_copy_ob (c := c) 3 hown (hat.kept hgrow (fun _ => by simp)) hsp)
  have hlt := hown.lt w.heap.size rfl
  go_ret
  refine ⟨rfl, ho, ⟨hg.os.trans hgrow.os, hg.tape.trans hgrow.tape, hg.output.trans hgrow.output, Nat.le_trans hgrow.size hg.size, fun k hk _ => ?_⟩⟩
  rw [hg.block k (by omega) (by intro e; cases e; omega), hgrow.block k hk (by simp)]

theorem drewN_drewN (w : World) (n m : Nat) : (w.drewN n).drewN m = w.drewN (n + m) := by simp [World.drewN, Nat.add_assoc]
theorem take_next {x y : List UInt8} {k : Nat} (h : x.take k = y.take k) (hx : k < x.length) (hy : k < y.length) (e : x.getD k 0 = y.getD k 0) : x.take (k + 1) = y.take (k + 1) := by
  rw [List.take_succ_eq_append_getElem hx, List.take_succ_eq_append_getElem hy, h]
  simp only [List.getD_eq_getElem?_getD, List.getElem?_eq_getElem hx, List.getElem?_eq_getElem hy, Option.getD_some] at e
  rw [e]

/-- zzBytesEq -/
def beqB (x y : List UInt8) : Bool := x == y

set_option maxHeartbeats 400000 in
theorem bytesEq_any (x y : List UInt8) (ax ay : Option Addr) (cx cy : Nat) (w : World) (hx : ∀ j, j < x.length → ∃ b off, ax = some ⟨b, off, none⟩ ∧ At w b off x) (hy : ∀ j, j < y.length → ∃ b off, ay = some ⟨b, off, none⟩ ∧ At w b off y)
    (lx : x.length < 1073741824) (ly : y.length < 1073741824) :
    Calls Try.prog 10 #[.slice ax x.length cx, .slice ay y.length cy] w fun e w' => e = .returned (.bool (beqB x y)) ∧ ∃ n, w' = w.drewN n := by
  by_cases hl : x.length = y.length
  · go_enter Try.func10, Try.ntmps10
    go_wp2
    go_loopw [5] (fun i wr => ∃ k : Nat, k ≤ x.length ∧ i = .int .i64 k ∧ x.take k = y.take k ∧ ∃ n, wr = w.drewN n) (fun i _ => x.length - (intOf i).toNat)
    case atStart => exact ⟨0, Nat.zero_le _, rfl, rfl, 0, rfl⟩
    case round =>
      obtain ⟨k, hk, rfl, ht, n, rfl⟩ := hrel
      by_cases hlt : k < x.length
      · have hly : k < y.length := by omega
        obtain ⟨b, off, rfl, ha⟩ := hx k hlt
        obtain ⟨b2, off2, rfl, ha2⟩ := hy k hly
        have c1 := ha k hlt
        have c2 := ha2 k hly
        unfold bv at c1 c2
        have l1 : (k : Int) < (x.length : Int) := by omega
        have l2 : (k : Int) < (y.length : Int) := by omega
        have HT : Hid (x.take k = y.take k) := ht
        clear ht ha ha2 hx hy
        obtain ⟨cx1, hcx1⟩ : ∃ c : UInt8, c = x.getD k 0 := ⟨_, rfl⟩
        obtain ⟨cy1, hcy1⟩ : ∃ c : UInt8, c = y.getD k 0 := ⟨_, rfl⟩
        rw [← hcx1] at c1
        rw [← hcy1] at c2
        have HX : Hid (cx1 = x.getD k 0) := hcx1
        have HY : Hid (cy1 = y.getD k 0) := hcy1
        have HL : Hid (x.length = y.length) := hl
        clear hcx1 hcy1 hl
        by_cases hc : cx1 = cy1
        · have hb : ((cx1.toNat : Int) != (cy1.toNat : Int)) = false := by rw [hc]; simp
          have HC : Hid (cx1 = cy1) := hc
          clear hc
          go_wp2
          go_quiet (fail)
          go_wp2
          go_roundw
          case rel => exact ⟨k + 1, by omega, by go_num, take_next HT.out hlt hly (HX.out ▸ HY.out ▸ HC.out), n + nq, by simp [drewN_drewN]⟩
          case measure => simp [intOf]; omega
        · have hb : ((cx1.toNat : Int) != (cy1.toNat : Int)) = true := by
            rw [bne_iff_ne]; intro e; exact hc (UInt8.toNat_inj.1 (by omega))
          have hB : beqB x y = false := by
            cases h : beqB x y with
            | false => rfl
            | true =>
              have h2 : x = y := by simpa [beqB] using h
              exact absurd (by rw [HX.out, HY.out, h2]) hc
          have HB : Hid (beqB x y = false) := hB
          clear hc hB
          go_wp2
          go_quiet (fail)
          go_wp2
          go_ret
          exact ⟨by rw [HB.out]; rfl, n + nq, by simp [drewN_drewN]⟩
      · have hB : beqB x y = true := by
          have e1 : x.take k = x := List.take_of_length_le (by omega)
          have e2 : y.take k = y := List.take_of_length_le (by omega)
          rw [e1, e2] at ht
          simp [beqB, ht]
        have HB : Hid (beqB x y = true) := hB
        clear ht hx hy hB
        go_wp2
        go_ret
        exact ⟨by rw [HB.out]; rfl, n, rfl⟩
  · have hb : beqB x y = false := by
      cases h : beqB x y with
      | false => rfl
      | true => exact absurd (congrArg List.length (by simpa [beqB] using h)) hl
    have hne : ((x.length : Int) != (y.length : Int)) = true := by rw [bne_iff_ne]; omega
    rw [hb]
    go_enter Try.func10, Try.ntmps10
    go_wp2
    go_ret
    exact ⟨rfl, 0, rfl⟩

end Go.Proofs.Qxb6629102a
