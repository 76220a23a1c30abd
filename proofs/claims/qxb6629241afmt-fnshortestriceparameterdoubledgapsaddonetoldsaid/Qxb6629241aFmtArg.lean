import Derived.Test.Qxb6629241aFmtSh
import Derived.Laws.CopyOwn
namespace Go.Proofs.Qxb6629241aFmt
open Go.RowKit
set_option linter.unusedSimpArgs false
set_option linter.unusedVariables false

theorem info24 : (Tryf.prog.info? 24).map (fun i => (i.zero, i.size, i.bytes)) = some (some (.int .u32 0), 1, 4) := by kernel_rfl
theorem size24 : (Tryf.prog.info? 24).map (·.size) = some 1 := by kernel_rfl
def uv (n : Nat) : Value := .int .u32 (n : Int)
theorem U32.kept {w w' : World} {a : Option Addr} {vs : List Nat} (h : U32 w a vs) {B : Nat} (hb : Below B w w') (hB : w.heap.size ≤ B) : U32 w' a vs := by
  intro j hj
  obtain ⟨b, off, e, hl, hc⟩ := h j hj
  refine ⟨b, off, e, Nat.lt_of_lt_of_le hl hb.size, ?_⟩
  exact (World.cell?_of_block (hb.block b (by omega))).trans hc
/-- a copy of the values, or nil -/
def Own (w : World) (v : Value) (vs : List Nat) : Prop := (v = .slice none 0 0 ∧ vs = []) ∨ ∃ g, v = .slice (some ⟨g, 0, none⟩) vs.length vs.length ∧ U32 w (some ⟨g, 0, none⟩) vs
theorem run_copy_u32 {w1 : World} {base g c : Nat} {a : Addr} {vs : List Nat} {xs : List Value} (hown : w1.ownsRow base 24 1 (.slice (some ⟨g, 0, none⟩) vs.length vs.length) vs.length xs) (hs : U32 w1 (some a) vs) :
    ∃ w2, Sem.run Tryf.prog (Builtin.copy_ #[22, 22] 3 #[.slice (some ⟨g, 0, none⟩) vs.length vs.length, .slice (some a) vs.length c]) w1 = .ok (goInt vs.length) w2 ∧
      U32 w2 (some ⟨g, 0, none⟩) vs ∧ w1.grownBy w2 (some g) := by
  rcases hown.2 with ⟨h, _⟩ | ⟨g2, cap, cur, h, hb, hg, hnc, hcm, hcs, ht⟩
  · cases h
  injection h with h _ h3
  injection h with h
  injection h with h
  subst h; subst h3
  have hsz : cur.size = vs.length := by simpa using hcs
  have hl : (vs.map uv).length = vs.length := by simp
  have hrun := run_copy_row (P := Tryf.prog) w1 22 22 3 24 g 0 vs.length vs.length a vs.length c cur 24 (vs.map uv) Tryf.underlying22 size24 hg (by simp) (by
    intro j u hj
    rw [List.getElem?_map] at hj
    have hjl : j < vs.length := by
      rcases Nat.lt_or_ge j vs.length with h | h
      · exact h
      · rw [List.getElem?_eq_none h] at hj; cases hj
    rw [List.getElem?_eq_getElem hjl] at hj
    obtain ⟨b, off, e, _, hc⟩ := hs j hjl
    injection e with e
    subst e
    have hadd : (⟨b, off, none⟩ : Addr).add j = ⟨b, off + j, none⟩ := by unfold Addr.add; split <;> simp_all
    rw [hadd, hc]; exact hj) (by rw [hl, hsz]; omega) (by intro u hu; obtain ⟨s, _, rfl⟩ := List.mem_map.1 hu; rfl)
  rw [hl] at hrun
  have hgl : g < w1.heap.size := (Array.getElem?_eq_some_iff.1 hg).1
  refine ⟨_, hrun, ?_, ⟨rfl, rfl, rfl, by simp, fun k _ hk => setRow_other w1 g k _ (fun e => hk (by rw [e]))⟩⟩
  intro j hj
  refine ⟨g, 0, rfl, by simpa using hgl, ?_⟩
  rw [cell_of_row _ g (0 + j) _ _ _ (setRow_heap w1 g cur _ 24 _ hg)]
  have e1 : cur.toList.drop (0 + vs.length) = [] := List.drop_of_length_le (by simp; omega)
  rw [e1]
  simp [List.getElem?_map, List.getElem?_eq_getElem hj, uv]
theorem below_of_none {w w' : World} (h : w.grownBy w' none) : Below w.heap.size w w' := ⟨h.os, h.tape, h.output, h.size, fun k hk => h.block k hk (by simp)⟩
theorem below_made {w w1 w2 : World} (h : w.grownBy w1 none) (k : w1.grownBy w2 (some w.heap.size)) : Below w.heap.size w w2 :=
  ⟨k.os.trans h.os, k.tape.trans h.tape, k.output.trans h.output, Nat.le_trans h.size k.size, fun i hi => (k.block i (Nat.lt_of_lt_of_le hi h.size) (by intro e; injection e; omega)).trans (h.block i hi (by simp))⟩
theorem below_drewN (B : Nat) (w : World) (n : Nat) : Below B w (w.drewN n) := ⟨rfl, rfl, rfl, Nat.le_refl _, fun _ _ => rfl⟩
theorem Own.form {w : World} {v : Value} {vs : List Nat} (h : Own w v vs) : ∃ a c, v = .slice a vs.length c ∧ U32 w a vs := by
  rcases h with ⟨rfl, rfl⟩ | ⟨g, rfl, hs⟩
  · exact ⟨none, 0, rfl, fun j hj => absurd hj (Nat.not_lt_zero _)⟩
  · exact ⟨_, _, rfl, hs⟩
/-- ascending so far -/
def AscTo (vs : List Nat) (m : Nat) : Prop := ∀ j (h : j + 1 < vs.length), j < m → vs[j] < vs[j + 1]
theorem AscTo.next {vs : List Nat} {m : Nat} (h : AscTo vs m) (hm : m + 1 < vs.length) {x y : Nat} (hx : x = vs[m]) (hy : y = vs[m + 1]) (hxy : x < y) : AscTo vs (m + 1) := by
  intro j hj hjm
  by_cases e : j = m
  · subst e; omega
  · exact h j hj (by omega)

theorem FM.zero (c : Nat → Nat) : FM c 0 0 := by
  refine ⟨Nat.le_refl _, fun j hj => ?_, fun j hj => absurd hj (Nat.not_lt_zero _)⟩
  have e : j = 0 := by omega
  subst e; exact Nat.le_refl _

set_option maxHeartbeats 2000000 in
set_option maxRecDepth 100000 in
theorem arg_any (a : Option Addr) (c : Nat) (vs : List Nat) (w : World) (hs : U32 w a vs) (hn : vs.length ≤ maxLen) (hz : ∀ j (h : j < vs.length), vs[j] < 4294967296) (hnil : a = none → c = 0 ∧ vs = []) :
    Calls Tryf.prog 3 #[.slice a vs.length c] w fun e w' => e = .returned (.bool true) ∧ Below w.heap.size w w' := by
  have hg := guard5_any a vs.length c w hn
  unfold maxLen at hn
  go_enter Tryf.func3, Tryf.ntmps3
  go_wp2_with fail
  refine hg.mono ?_
  rintro e w' ⟨⟨bb, rfl⟩, rfl⟩
  clear hg
  cases bb with
  | false =>
    go_wp2
    go_ret
    exact ⟨rfl, Below.refl _ _⟩
  | true =>
  by_cases hbig : (262144 : Int) < (vs.length : Int)
  · go_wp2
    go_ret
    exact ⟨rfl, Below.refl _ _⟩
  have hn := fun (wx : World) => run_neq_slice_nil_any (P := Tryf.prog) wx 22 24 a vs.length c 0 0 Tryf.underlying22
  go_upto_if 17 with fail
  go_cut [0] (fun s0 wk => Own wk s0 vs ∧ Below w'.heap.size w' wk)
  case first =>
    cases a with
    | none =>
      obtain ⟨rfl, rfl⟩ := hnil rfl
      go_wp2
      go_meet
      case rel => exact ⟨.inl ⟨rfl, rfl⟩, Below.refl _ _⟩
    | some a =>
      obtain ⟨i0, hinf, hz0, hz1, hz2⟩ := info_parts info24
      go_wp2_with (at_make; go_loud (refine wpList_make_full _ rfl _ _ 22 rfl w'.heap.size 24 i0 _ 1 Tryf.underlying22 hinf hz0 hz1 _ _ _ _ vs.length rfl rfl rfl rfl (by rw [hz2]; omega) (by unfold maxLen; omega) (Nat.le_refl _) ?_; intro w1 hown hgrow; obtain ⟨w2, hrun, hs2, hg2⟩ := run_copy_u32 (c := c) hown (hs.kept (below_of_none hgrow) (Nat.le_refl _))))
      go_meet
      case rel => exact ⟨.inr ⟨_, rfl, hs2⟩, below_made hgrow hg2⟩
  case rest =>
    obtain ⟨ho, Bw⟩ := hcut
    obtain ⟨a', c', rfl, hs'⟩ := ho.form
    clear hs hnil hn ho
    go_wp2_with fail
    go_loopw [4] (fun i wr => ∃ (m n : Nat), m ≤ vs.length - 1 ∧ i = .int .i64 ((m + 1 : Nat) : Int) ∧ AscTo vs m ∧ wr = wc.drewN n) (fun i _ => vs.length - (intOf i).toNat)
    case atStart => exact ⟨0, 0, Nat.zero_le _, rfl, fun j h hj => absurd hj (Nat.not_lt_zero _), rfl⟩
    case round =>
      obtain ⟨m, n, hm, rfl, hasc, hwr⟩ := hrel
      have HW : Hid (wr = wc.drewN n) := hwr
      have hsr : U32 wr a' vs := by rw [hwr]; exact hs'
      have BR : Below w'.heap.size w' wr := by rw [hwr]; exact Bw.trans (below_drewN _ _ _)
      clear hwr
      by_cases hlt : m + 1 < vs.length
      · obtain ⟨b, off, rfl, hl, c1⟩ := hsr (m + 1) hlt
        obtain ⟨b', off', e', hl', c0⟩ := hsr m (by omega)
        injection e' with e'
        injection e' with e1 e2
        subst e1; subst e2
        obtain ⟨x, hx⟩ : ∃ x, x = vs[m]'(by omega) := ⟨_, rfl⟩
        obtain ⟨y, hy⟩ : ∃ y, y = vs[m + 1] := ⟨_, rfl⟩
        rw [← hx] at c0
        rw [← hy] at c1
        have HX : Hid (x = vs[m]'(by omega)) := hx
        have HY : Hid (y = vs[m + 1]) := hy
        have hi : (m : Int) + 1 < (vs.length : Int) := by omega
        have hi2 : (m : Int) < (vs.length : Int) := by omega
        have hm2 : (m : Int) ≤ 1048576 := by omega
        have hw : IntKind.i64.wrap (m : Int) = (m : Int) := by rw [IntKind.wrap_i64]; omega
        have hN : ((m : Int) + 1).toNat = m + 1 := by omega
        have h0m : 0 ≤ (m : Int) + 1 := by omega
        have hlt' : m + 1 < vs.length := hlt
        clear hx hy
        by_cases hxy : (y : Int) ≤ (x : Int)
        · go_wp2
          go_quiet (fail)
          go_wp2
          go_ret
          exact ⟨rfl, BR.trans (below_drewN _ _ _)⟩
        · have hasc2 := hasc.next hlt HX.out HY.out (by omega)
          clear hasc
          go_wp2
          go_quiet (fail)
          go_wp2
          go_roundw
          case rel => exact ⟨m + 1, _, by omega, by go_num, hasc2, by rw [HW.out, World.drewN_drewN]⟩
          case measure => simp [intOf]; omega
      · have hi : (vs.length : Int) ≤ (m : Int) + 1 := by omega
        have hv : Asc vs := ⟨hz, fun j hj => hasc j hj (by omega)⟩
        have hnn : vs.length ≤ 1048576 := by omega
        clear hasc hlt hm hz
        obtain ⟨wm, hwm⟩ : ∃ wm, wm = wr := ⟨_, rfl⟩
        subst hwm
        go_wp2_with fail
        refine (short_any a' c' vs _ hsr hv hnn).mono ?_
        rintro e w1 ⟨mk, n1, rfl, hK, rfl⟩
        go_wp2_with fail
        refine (wire_any a' c' 0 vs _ (hsr.drewN n1) hv (by omega) hnn).mono ?_
        rintro e w2 ⟨rfl, n2, rfl⟩
        go_wp2_with fail
        go_loopw [6, 7, 8] (fun s6 s7 i wx => ∃ (K b n : Nat), K ≤ 32 ∧ s6 = .int .i64 (b : Int) ∧ s7 = .int .u64 (cost vs b : Int) ∧ i = .int .i64 ((K + 1 : Nat) : Int) ∧ FM (cost vs) K b ∧ wx = wm.drewN n) (fun _ _ i _ => 33 - (intOf i).toNat)
        case atStart => exact ⟨0, 0, _, by omega, rfl, rfl, rfl, FM.zero _, by first | rfl | rw [World.drewN_drewN]⟩
        case round =>
          obtain ⟨K, b, n3, hK32, rfl, rfl, rfl, hFM, rfl⟩ := hrel
          by_cases hlt : K < 32
          · have hi : (K : Int) + 1 ≤ 32 := by omega
            have hi' : ((K + 1 : Nat) : Int) ≤ 32 := by omega
            have B := wire_any a' c' (K + 1) vs (wm.drewN n3) (hsr.drewN n3) hv (by omega) hnn
            rw [show (((K + 1 : Nat)) : Int) = (K : Int) + 1 by omega] at B
            go_wp2_with fail
            refine B.mono ?_
            rintro e w2 ⟨rfl, n4, rfl⟩
            clear B
            by_cases hge : cost vs (K + 1) < cost vs b
            · have HF : Hid (FM (cost vs) (K + 1) (K + 1)) := hFM.next.1 hge
              have hge' : ((cost vs (K + 1) : Nat) : Int) < (cost vs b : Int) := by omega
              clear hFM hge
              go_wp2
              go_roundw
              case rel => exact ⟨K + 1, K + 1, _, by omega, by go_num, rfl, by go_num, HF.out, by first | rfl | rw [World.drewN_drewN]⟩
              case measure => simp [intOf]; omega
            · have HF : Hid (FM (cost vs) (K + 1) b) := hFM.next.2 (by omega)
              have hge' : ¬ ((cost vs (K + 1) : Nat) : Int) < (cost vs b : Int) := by omega
              clear hFM hge
              go_wp2
              go_roundw
              case rel => exact ⟨K + 1, b, _, by omega, rfl, rfl, by go_num, HF.out, by first | rfl | rw [World.drewN_drewN]⟩
              case measure => simp [intOf]; omega
          · have hmm : K = 32 := by omega
            subst hmm
            have hmb : mk = b := first_least hK (cost_conv vs) hFM
            subst hmb
            clear hFM hK hlt
            go_wp2
            go_ret
            exact ⟨rfl, BR.trans (below_drewN _ _ _)⟩

end Go.Proofs.Qxb6629241aFmt
