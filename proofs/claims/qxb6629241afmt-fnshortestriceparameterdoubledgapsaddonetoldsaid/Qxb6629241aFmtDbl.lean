import Derived.Test.Qxb6629241aFmtDbp
namespace Go.Proofs.Qxb6629241aFmt
open Go.RowKit
set_option linter.unusedSimpArgs false
set_option linter.unusedVariables false

theorem row_of {w : World} {base e g n : Nat} {xs : List Value} (h : w.ownsRow base e 1 (.slice (some ⟨g, 0, none⟩) n n) n xs) : ∃ cur : Array Value, w.heap[g]? = some (.cells cur e (0, 0)) ∧ cur.size = n := by
  rcases h.2 with ⟨h, _⟩ | ⟨g2, cap, cur, h, hb, hg, hnc, hcm, hcs, ht⟩
  · cases h
  injection h with h _ h3
  injection h with h
  injection h with h
  subst h; subst h3
  exact ⟨cur, hg, by simpa using hcs⟩
theorem cell_kept {w w' : World} {b off : Nat} {v : Value} (hl : b < w.heap.size) (hb : Below w.heap.size w w') (h : w.cell? ⟨b, off, none⟩ = some v) : w'.cell? ⟨b, off, none⟩ = some v :=
  (World.cell?_of_block (hb.block b hl)).trans h
theorem heap_set (w : World) (g k : Nat) (v : Value) (cur : Array Value) (t : TypeId) (h : w.heap[g]? = some (.cells cur t (0, 0))) : (w.setCell ⟨g, k, none⟩ v).heap[g]? = some (.cells (cur.setIfInBounds k v) t (0, 0)) := by
  show (w.heap.modify g _)[g]? = _
  rw [Array.getElem?_modify, if_pos rfl, h]
  rfl

theorem set_all {vs : List Nat} {x0 k v : Nat} {cur : Array Value} (h : ∀ j (h : j < vs.length), j < k → cur[j]? = some (uv (2 * vs[j] + x0))) (hk : k < vs.length) (hc : cur.size = vs.length) (hv : v = vs[k]) :
    ∀ j (h : j < vs.length), j < k + 1 → (cur.setIfInBounds k (.int .u32 (2 * (v : Int) + (x0 : Int))))[j]? = some (uv (2 * vs[j] + x0)) := by
  intro j hj hjk
  by_cases e : j = k
  · subst e
    rw [Array.getElem?_setIfInBounds_self_of_lt (by omega), hv]
    simp [uv]
  · rw [Array.getElem?_setIfInBounds_ne (by omega)]
    exact h j hj (by omega)
theorem u32_row {w : World} {g x0 : Nat} {vs : List Nat} {cur : Array Value} (hg : w.heap[g]? = some (.cells cur 24 (0, 0))) (hc : cur.size = vs.length) (h : ∀ j (h : j < vs.length), j < vs.length → cur[j]? = some (uv (2 * vs[j] + x0))) : U32 w (some ⟨g, 0, none⟩) (dbl vs x0) := by
  intro j hj
  have hj' : j < vs.length := by rw [dbl_length] at hj; exact hj
  refine ⟨g, 0, rfl, (Array.getElem?_eq_some_iff.1 hg).1, ?_⟩
  rw [cell_of_row w g (0 + j) cur 24 _ hg, Nat.zero_add, h j hj' hj', dbl_get vs x0 j hj']
  rfl

set_option maxHeartbeats 2000000 in
set_option maxRecDepth 100000 in
theorem dbl_any (a : Option Addr) (c x0 : Nat) (vs : List Nat) (w : World) (hs : U32 w a vs) (hn : vs.length ≤ maxLen) (hz : ∀ j (h : j < vs.length), vs[j] < 4294967296) (hnil : a = none → c = 0 ∧ vs = []) (hx0 : x0 < 4294967296) :
    Calls Tryf.prog 4 #[.slice a vs.length c, .int .u32 (x0 : Int)] w fun e w' => e = .returned (.bool true) ∧ Below w.heap.size w w' := by
  have hg := guard8_any a vs.length c (x0 : Int) w hn
  unfold maxLen at hn
  go_enter Tryf.func4, Tryf.ntmps4
  go_wp2_with fail
  refine hg.mono ?_
  rintro e w' ⟨⟨bb, rfl⟩, rfl⟩
  clear hg
  cases bb with
  | false =>
    go_wp2
    go_ret
    exact ⟨rfl, Below.refl _ _⟩
  | true =>
  by_cases hbig : (262144 : Int) < (vs.length : Int)
  · go_wp2
    go_ret
    exact ⟨rfl, Below.refl _ _⟩
  have hn := fun (wx : World) => run_neq_slice_nil_any (P := Tryf.prog) wx 22 24 a vs.length c 0 0 Tryf.underlying22
  go_upto_if 21 with fail
  go_cut [0] (fun s0 wk => Own wk s0 vs ∧ Below w'.heap.size w' wk)
  case first =>
    cases a with
    | none =>
      obtain ⟨rfl, rfl⟩ := hnil rfl
      go_wp2
      go_meet
      case rel => exact ⟨.inl ⟨rfl, rfl⟩, Below.refl _ _⟩
    | some a =>
      obtain ⟨i0, hinf, hz0, hz1, hz2⟩ := info_parts info24
      go_wp2_with (at_make; go_loud (refine wpList_make_full _ rfl _ _ 22 rfl w'.heap.size 24 i0 _ 1 Tryf.underlying22 hinf hz0 hz1 _ _ _ _ vs.length rfl rfl rfl rfl (by rw [hz2]; omega) (by unfold maxLen; omega) (Nat.le_refl _) ?_; intro w1 hown hgrow; obtain ⟨w2, hrun, hs2, hg2⟩ := run_copy_u32 (c := c) hown (hs.kept (below_of_none hgrow) (Nat.le_refl _))))
      go_meet
      case rel => exact ⟨.inr ⟨_, rfl, hs2⟩, below_made hgrow hg2⟩
  case rest =>
    obtain ⟨ho, Bw⟩ := hcut
    obtain ⟨a', c', rfl, hs'⟩ := ho.form
    clear hs hnil hn ho
    go_wp2_with fail
    go_loopw [6] (fun i wr => ∃ (m n : Nat), m ≤ vs.length - 1 ∧ i = .int .i64 ((m + 1 : Nat) : Int) ∧ AscTo vs m ∧ wr = wc.drewN n) (fun i _ => vs.length - (intOf i).toNat)
    case atStart => exact ⟨0, 0, Nat.zero_le _, rfl, fun j h hj => absurd hj (Nat.not_lt_zero _), rfl⟩
    case round =>
      obtain ⟨m, n, hm, rfl, hasc, hwr⟩ := hrel
      have HW : Hid (wr = wc.drewN n) := hwr
      have hsr : U32 wr a' vs := by rw [hwr]; exact hs'
      have BR : Below w'.heap.size w' wr := by rw [hwr]; exact Bw.trans (below_drewN _ _ _)
      clear hwr
      by_cases hlt : m + 1 < vs.length
      · obtain ⟨b, off, rfl, hl, c1⟩ := hsr (m + 1) hlt
        obtain ⟨b', off', e', hl', c0⟩ := hsr m (by omega)
        injection e' with e'
        injection e' with e1 e2
        subst e1; subst e2
        obtain ⟨x, hx⟩ : ∃ x, x = vs[m]'(by omega) := ⟨_, rfl⟩
        obtain ⟨y, hy⟩ : ∃ y, y = vs[m + 1] := ⟨_, rfl⟩
        rw [← hx] at c0
        rw [← hy] at c1
        have HX : Hid (x = vs[m]'(by omega)) := hx
        have HY : Hid (y = vs[m + 1]) := hy
        have hi : (m : Int) + 1 < (vs.length : Int) := by omega
        have hi2 : (m : Int) < (vs.length : Int) := by omega
        have hm2 : (m : Int) ≤ 1048576 := by omega
        have hw : IntKind.i64.wrap (m : Int) = (m : Int) := by rw [IntKind.wrap_i64]; omega
        have hN : ((m : Int) + 1).toNat = m + 1 := by omega
        have h0m : 0 ≤ (m : Int) + 1 := by omega
        have hlt' : m + 1 < vs.length := hlt
        clear hx hy
        by_cases hxy : (y : Int) ≤ (x : Int)
        · go_wp2
          go_quiet (fail)
          go_wp2
          go_ret
          exact ⟨rfl, BR.trans (below_drewN _ _ _)⟩
        · have hasc2 := hasc.next hlt HX.out HY.out (by omega)
          clear hasc
          go_wp2
          go_quiet (fail)
          go_wp2
          go_roundw
          case rel => exact ⟨m + 1, _, by omega, by go_num, hasc2, by rw [HW.out, World.drewN_drewN]⟩
          case measure => simp [intOf]; omega
      · have hi : (vs.length : Int) ≤ (m : Int) + 1 := by omega
        have hv : Asc vs := ⟨hz, fun j hj => hasc j hj (by omega)⟩
        have hnn : vs.length ≤ 1048576 := by omega
        have hvz := hz
        clear hasc hlt hm hz
        obtain ⟨wm, hwm⟩ : ∃ wm, wm = wr := ⟨_, rfl⟩
        subst hwm
        go_upto_region 14 with fail
        go_cut [61] (fun s61 wk => ∃ bb : Bool, s61 = .bool bb ∧ wk = wm ∧ (bb = false → ∀ j (h : j < vs.length), 2 * vs[j] + x0 < 4294967296))
        case first =>
          by_cases h0 : vs.length = 0
          · have h0' : (vs.length : Int) ≤ 0 := by omega
            have H0 : Hid (vs.length = 0) := h0
            clear h0
            go_wp2
            go_meet
            case rel => exact ⟨false, by first | rfl | trivial, rfl, fun _ j hj => by have := H0.out; omega⟩
          · obtain ⟨b, off, rfl, hl, c1⟩ := hsr (vs.length - 1) (by omega)
            have h0' : (0 : Int) < (vs.length : Int) := by omega
            obtain ⟨y, hy⟩ : ∃ y, y = vs[vs.length - 1]'(by omega) := ⟨_, rfl⟩
            rw [← hy] at c1
            have HY : Hid (y = vs[vs.length - 1]'(by omega)) := hy
            have hyb : y < 4294967296 := by rw [hy]; exact hvz _ _
            clear hy
            go_wp2
            go_meet
            case rel =>
              refine ⟨_, rfl, rfl, fun hb j hj => ?_⟩
              have h1 := of_decide_eq_false hb
              have h2 := asc_le hv j (vs.length - 1) (by omega) (by omega)
              rw [← HY.out] at h2
              omega
        case rest =>
          obtain ⟨bb, rfl, rfl, hlim⟩ := hcut
          cases bb with
          | true =>
            go_wp2
            go_ret
            exact ⟨rfl, BR⟩
          | false =>
          replace hlim := hlim rfl
          obtain ⟨wm, hwm⟩ : ∃ wm, wm = wc := ⟨_, rfl⟩
          subst hwm
          obtain ⟨i0, hinf, hz0, hz1, hz2⟩ := info_parts info24
          go_wp2_with (at_make; go_loud (refine wpList_make_full _ rfl _ _ 22 rfl wm.heap.size 24 i0 _ 1 Tryf.underlying22 hinf hz0 hz1 _ _ _ _ vs.length rfl rfl rfl rfl (by rw [hz2]; omega) (by unfold maxLen; omega) (Nat.le_refl _) ?_; intro w1 hown hgrow))
          obtain ⟨cur0, hg0, hs0⟩ := row_of hown
          have B1 := below_of_none hgrow
          clear hown hgrow
          go_loopw [8] (fun i wr => ∃ (k : Nat) (cur : Array Value), k ≤ vs.length ∧ i = .int .i64 (k : Int) ∧ wr.heap[wm.heap.size]? = some (.cells cur 24 (0, 0)) ∧ cur.size = vs.length ∧ (∀ j (h : j < vs.length), j < k → cur[j]? = some (uv (2 * vs[j] + x0))) ∧ Below wm.heap.size wm wr) (fun i _ => vs.length - (intOf i).toNat)
          case atStart => exact ⟨0, cur0, Nat.zero_le _, rfl, hg0, hs0, fun j h hj => absurd hj (Nat.not_lt_zero _), B1⟩
          case round =>
            clear hg0 hs0 B1
            obtain ⟨k, cur, hk, rfl, hg, hcs, hall, Br⟩ := hrel
            by_cases hlt : k < vs.length
            · obtain ⟨b, off, rfl, hl, c1⟩ := hsr k hlt
              replace c1 := cell_kept hl Br c1
              have hlk := hlim k hlt
              obtain ⟨v, hv0⟩ : ∃ v, v = vs[k] := ⟨_, rfl⟩
              rw [← hv0] at c1 hlk
              have HV : Hid (v = vs[k]) := hv0
              have t0 : wr.cell? ⟨wm.heap.size, k, none⟩ = some (cur[k]'(by omega)) := by rw [cell_of_row wr _ k cur 24 _ hg, Array.getElem?_eq_getElem (by omega)]
              have f0 : wr.frozen? ⟨wm.heap.size, k, none⟩ = false := by simp [World.frozen?, hg]
              have n1 : b ≠ wm.heap.size := by omega
              have hi : (k : Int) < (vs.length : Int) := by omega
              have hb1 : 2 * (v : Int) + (x0 : Int) < 4294967296 := by omega
              have hb2 : 2 * (v : Int) < 4294967296 := by omega
              have HALL : Hid (∀ j (h : j < vs.length), j < k → cur[j]? = some (uv (2 * vs[j] + x0))) := hall
              clear hv0 hall
              go_wp2
              go_roundw
              case rel => exact ⟨k + 1, _, by omega, by go_num, heap_set wr _ k _ cur 24 hg, by simpa using hcs, set_all HALL.out hlt hcs HV.out, Br.setCell (p := ⟨wm.heap.size, k, none⟩) (Nat.le_refl _) _⟩
              case measure => simp [intOf]; omega
            · have hkk : k = vs.length := by omega
              subst hkk
              have hi : (vs.length : Int) ≤ (vs.length : Int) := Int.le_refl _
              have uW : U32 wr (some ⟨wm.heap.size, 0, none⟩) (dbl vs x0) := u32_row hg hcs hall
              have uV := hsr.kept Br (Nat.le_refl _)
              have BB : Below w'.heap.size w' wr := BR.trans (Br.mono BR.size)
              clear hall hg hcs hlt hk
              obtain ⟨w3, hw3⟩ : ∃ w3, w3 = wr := ⟨_, rfl⟩
              subst hw3
              go_wp2_with fail
              go_loopw [9, 10] (fun s9 i wr => ∃ (bb : Bool) (m n : Nat), m ≤ vs.length - 1 ∧ s9 = .bool bb ∧ i = .int .i64 ((m + 1 : Nat) : Int) ∧ (bb = true → ∀ j, j < m → gap vs j = 1) ∧ (bb = false → ∃ j, j < m ∧ gap vs j ≠ 1) ∧ wr = w3.drewN n) (fun _ i _ => vs.length - (intOf i).toNat)
              case atStart => exact ⟨true, 0, 0, Nat.zero_le _, rfl, rfl, (fun _ j hj => absurd hj (Nat.not_lt_zero _)), (fun h => absurd h (by simp)), rfl⟩
              case round =>
                obtain ⟨bb, m, n, hm, rfl, rfl, h1, h2, hwr⟩ := hrel
                have HW : Hid (wr = w3.drewN n) := hwr
                have uVr : U32 wr a' vs := by rw [hwr]; exact uV
                clear hwr
                by_cases hlt : m + 1 < vs.length
                · obtain ⟨b, off, rfl, hl, c1⟩ := uVr (m + 1) hlt
                  obtain ⟨b', off', e', hl', c0⟩ := uVr m (by omega)
                  injection e' with e'
                  injection e' with e1 e2
                  subst e1; subst e2
                  have ha := hv.2 m hlt
                  have hb := hv.1 (m + 1) hlt
                  have hgp := gap_eq vs m hlt
                  obtain ⟨x, hx⟩ : ∃ x, x = vs[m]'(by omega) := ⟨_, rfl⟩
                  obtain ⟨y, hy⟩ : ∃ y, y = vs[m + 1] := ⟨_, rfl⟩
                  rw [← hx] at c0 ha hgp
                  rw [← hy] at c1 ha hb hgp
                  have HG : Hid (gap vs m = y - x) := hgp
                  have hi : (m : Int) + 1 < (vs.length : Int) := by omega
                  have hi2 : (m : Int) < (vs.length : Int) := by omega
                  have hm2 : (m : Int) ≤ 1048576 := by omega
                  have hw : IntKind.i64.wrap (m : Int) = (m : Int) := by rw [IntKind.wrap_i64]; omega
                  have hN : ((m : Int) + 1).toNat = m + 1 := by omega
                  have h0m : 0 ≤ (m : Int) + 1 := by omega
                  have hlt' : m + 1 < vs.length := hlt
                  have hwd : IntKind.u32.wrap ((y : Int) - (x : Int)) = ((y : Int) - (x : Int)) := by rw [IntKind.wrap_u32]; omega
                  have H1 : Hid (bb = true → ∀ j, j < m → gap vs j = 1) := h1
                  have H2 : Hid (bb = false → ∃ j, j < m ∧ gap vs j ≠ 1) := h2
                  clear hx hy hgp h1 h2
                  by_cases hone : y - x = 1
                  · have hone' : ((y : Int) - (x : Int) != 1) = false := by rw [bne_eq_false_iff_eq]; omega
                    have K1 : Hid (bb = true → ∀ j, j < m + 1 → gap vs j = 1) := (fun h j hj => by
                      by_cases e : j = m
                      · subst e; rw [HG.out]; exact hone
                      · exact H1.out h j (by omega) : bb = true → ∀ j, j < m + 1 → gap vs j = 1)
                    have K2 : Hid (bb = false → ∃ j, j < m + 1 ∧ gap vs j ≠ 1) := (fun h => by obtain ⟨j, hj, hne⟩ := H2.out h; exact ⟨j, by omega, hne⟩ : bb = false → ∃ j, j < m + 1 ∧ gap vs j ≠ 1)
                    clear hone
                    go_wp2
                    go_quiet (fail)
                    go_wp2
                    go_roundw
                    case rel => exact ⟨bb, m + 1, _, by omega, rfl, by go_num, K1.out, K2.out, by rw [HW.out, World.drewN_drewN]⟩
                    case measure => simp [intOf]; omega
                  · have hone' : ((y : Int) - (x : Int) != 1) = true := by rw [bne_iff_ne]; omega
                    have K2 : Hid (∃ j, j < m + 1 ∧ gap vs j ≠ 1) := (⟨m, by omega, by rw [HG.out]; exact hone⟩ : ∃ j, j < m + 1 ∧ gap vs j ≠ 1)
                    clear hone
                    go_wp2
                    go_quiet (fail)
                    go_wp2
                    go_roundw
                    case rel => exact ⟨false, m + 1, _, by omega, rfl, by go_num, fun h => (by cases h), fun _ => K2.out, by rw [HW.out, World.drewN_drewN]⟩
                    case measure => simp [intOf]; omega
                · have hi : (vs.length : Int) ≤ (m : Int) + 1 := by omega
                  have hmm : m = vs.length - 1 := by omega
                  have hn2 : vs.length ≤ 1048576 := by omega
                  have BW : Below w'.heap.size w' wr := by rw [HW.out]; exact BB.trans (below_drewN _ _ _)
                  have uWr : U32 wr (some ⟨wm.heap.size, 0, none⟩) (dbl vs x0) := by rw [HW.out]; exact uW
                  have hv2 := dbl_asc hv x0 hlim
                  have S2 := fun (wx : World) (n : Nat) (h : U32 wx (some ⟨wm.heap.size, 0, none⟩) (dbl vs x0)) => short_any (some ⟨wm.heap.size, 0, none⟩) vs.length (dbl vs x0) wx h hv2 (by rw [dbl_length]; exact hn2)
                  rw [dbl_length] at S2
                  clear hlt hm
                  go_wp2_with fail
                  refine (short_any a' c' vs _ uVr hv hn2).mono ?_
                  rintro e w5 ⟨ka, n5, rfl, hKa, rfl⟩
                  go_wp2_with fail
                  refine (S2 _ 0 (uWr.drewN n5)).mono ?_
                  rintro e w6 ⟨kb, n6, rfl, hKb, rfl⟩
                  have ka32 := hKa.1
                  clear S2
                  cases bb with
                  | true =>
                    obtain ⟨rfl, rfl⟩ := ones_zero (fun j hj => h1 rfl j (by omega)) hKa hKb
                    clear h1 h2 hKa hKb hmm
                    go_wp2
                    go_ret
                    exact ⟨rfl, BW.trans (below_drewN _ _ _)⟩
                  | false =>
                    obtain ⟨j, hj, hne⟩ := h2 rfl
                    obtain rfl := more_one hv (i := j) (by omega) hne hlim hKa hKb
                    clear h1 h2 hKa hKb hmm
                    go_wp2
                    go_ret
                    exact ⟨rfl, BW.trans (below_drewN _ _ _)⟩

end Go.Proofs.Qxb6629241aFmt
