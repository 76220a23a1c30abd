import Derived.Test.Qxb6629149aGrd
import Derived.Laws.CopyOwn
import Derived.Deep.QuietTactic
import Derived.BigQuiet
import Derived.Deep.DeepCutAuto
namespace Go.Proofs.Qxb6629149a
open Go.RowKit
set_option linter.unusedSimpArgs false
set_option linter.unusedVariables false

theorem info9 : (Try.prog.info? 9).map (fun i => (i.zero, i.size, i.bytes)) = some (some (.string ByteArray.empty), 1, 16) := by kernel_rfl
theorem size9 : (Try.prog.info? 9).map (·.size) = some 1 := by kernel_rfl
/-- the strings' sizes, summed -/
def szs (ss : List ByteArray) : Nat := (ss.map ByteArray.size).sum
theorem szs_take (ss : List ByteArray) (k : Nat) (h : k < ss.length) : szs (ss.take (k + 1)) = szs (ss.take k) + ss[k].size := by
  unfold szs; rw [List.take_succ_eq_append_getElem h, List.map_append, List.sum_append]; simp
theorem szs_le (ss : List ByteArray) (k : Nat) : szs (ss.take k) ≤ szs ss := by
  have h : szs ss = szs (ss.take k) + szs (ss.drop k) := by
    unfold szs; rw [← List.sum_append, ← List.map_append, List.take_append_drop]
  omega
theorem tB_drop_le (ss : List ByteArray) (k : Nat) : (tB (ss.drop k)).length ≤ (tB ss).length := by
  have h : tB ss = tB (ss.take k) ++ tB (ss.drop k) := by rw [← tB_append, List.take_append_drop]
  rw [h, List.length_append]; omega
theorem Strs.take {w : World} {a : Option Addr} {ss : List ByteArray} (h : Strs w a ss) (k : Nat) : Strs w a (ss.take k) := by
  intro j hj
  have hj' : j < ss.length := by simp at hj; omega
  obtain ⟨b, off, e, hl, hc⟩ := h j hj'
  exact ⟨b, off, e, hl, by rw [List.getElem_take]; exact hc⟩
theorem Strs.drop {w : World} {b off : Nat} {ss : List ByteArray} (h : Strs w (some ⟨b, off, none⟩) ss) (k : Nat) : Strs w (some ⟨b, off + k, none⟩) (ss.drop k) := by
  intro j hj
  have hj' : k + j < ss.length := by simp at hj; omega
  obtain ⟨b', off', e, hl, hc⟩ := h (k + j) hj'
  injection e with e
  injection e with e1 e2
  subst e1; subst e2
  exact ⟨b, off + k, rfl, hl, by rw [List.getElem_drop, Nat.add_assoc]; exact hc⟩
theorem tB_szs (ss : List ByteArray) : (tB ss).length = szs ss + ss.length := by
  rw [tB_length]; unfold szs
  induction ss with
  | nil => rfl
  | cons s l ih => simp only [List.map_cons, List.sum_cons, List.length_cons]; rw [ih]; omega
/-- a copy of the strings, or nil -/
def Own (w : World) (v : Value) (ss : List ByteArray) : Prop := (v = .slice none 0 0 ∧ ss = []) ∨ ∃ g, v = .slice (some ⟨g, 0, none⟩) ss.length ss.length ∧ Strs w (some ⟨g, 0, none⟩) ss
theorem run_copy_strs {w1 : World} {base g c : Nat} {a : Addr} {ss : List ByteArray} {xs : List Value} (hown : w1.ownsRow base 9 1 (.slice (some ⟨g, 0, none⟩) ss.length ss.length) ss.length xs) (hs : Strs w1 (some a) ss) :
    ∃ w2, Sem.run Try.prog (Builtin.copy_ #[22, 22] 3 #[.slice (some ⟨g, 0, none⟩) ss.length ss.length, .slice (some a) ss.length c]) w1 = .ok (goInt ss.length) w2 ∧
      Strs w2 (some ⟨g, 0, none⟩) ss ∧ w1.grownBy w2 (some g) := by
  rcases hown.2 with ⟨h, _⟩ | ⟨g2, cap, cur, h, hb, hg, hnc, hcm, hcs, ht⟩
  · cases h
  injection h with h _ h3
  injection h with h
  injection h with h
  subst h; subst h3
  have hsz : cur.size = ss.length := by simpa using hcs
  have hl : (ss.map Value.string).length = ss.length := by simp
  have hrun := run_copy_row (P := Try.prog) w1 22 22 3 9 g 0 ss.length ss.length a ss.length c cur 9 (ss.map Value.string) Try.underlying22 size9 hg (by simp) (by
    intro j u hj
    rw [List.getElem?_map] at hj
    have hjl : j < ss.length := by
      rcases Nat.lt_or_ge j ss.length with h | h
      · exact h
      · rw [List.getElem?_eq_none h] at hj; cases hj
    rw [List.getElem?_eq_getElem hjl] at hj
    obtain ⟨b, off, e, _, hc⟩ := hs j hjl
    injection e with e
    subst e
    have hadd : (⟨b, off, none⟩ : Addr).add j = ⟨b, off + j, none⟩ := by unfold Addr.add; split <;> simp_all
    rw [hadd, hc]; exact hj) (by rw [hl, hsz]; omega) (by intro u hu; obtain ⟨s, _, rfl⟩ := List.mem_map.1 hu; rfl)
  rw [hl] at hrun
  have hgl : g < w1.heap.size := (Array.getElem?_eq_some_iff.1 hg).1
  refine ⟨_, hrun, ?_, ⟨rfl, rfl, rfl, by simp, fun k _ hk => setRow_other w1 g k _ (fun e => hk (by rw [e]))⟩⟩
  intro j hj
  refine ⟨g, 0, rfl, by simpa using hgl, ?_⟩
  rw [cell_of_row _ g (0 + j) _ _ _ (setRow_heap w1 g cur _ 9 _ hg)]
  have e1 : cur.toList.drop (0 + ss.length) = [] := List.drop_of_length_le (by simp; omega)
  rw [e1]
  simp [List.getElem?_map, List.getElem?_eq_getElem hj]

theorem below_of_none {w w' : World} (h : w.grownBy w' none) : Below w.heap.size w w' := ⟨h.os, h.tape, h.output, h.size, fun k hk => h.block k hk (by simp)⟩
theorem below_made {w w1 w2 : World} (h : w.grownBy w1 none) (k : w1.grownBy w2 (some w.heap.size)) : Below w.heap.size w w2 :=
  ⟨k.os.trans h.os, k.tape.trans h.tape, k.output.trans h.output, Nat.le_trans h.size k.size, fun i hi => (k.block i (Nat.lt_of_lt_of_le hi h.size) (by intro e; injection e; omega)).trans (h.block i hi (by simp))⟩
theorem Own.form {w : World} {v : Value} {ss : List ByteArray} (h : Own w v ss) : ∃ a c, v = .slice a ss.length c ∧ Strs w a ss ∧ ((a = none ∧ c = 0 ∧ ss = []) ∨ ∃ g, a = some ⟨g, 0, none⟩ ∧ c = ss.length) := by
  rcases h with ⟨rfl, rfl⟩ | ⟨g, rfl, hs⟩
  · exact ⟨none, 0, rfl, fun j hj => absurd hj (Nat.not_lt_zero _), .inl ⟨rfl, rfl, rfl⟩⟩
  · exact ⟨_, _, rfl, hs, .inr ⟨g, rfl, rfl⟩⟩

theorem txt_size (ss : List ByteArray) (h : 0 < ss.length) : (ByteArray.mk (txt ss).toArray).size = szs ss + ss.length + 1 := by
  show (txt ss).toArray.size = _
  rw [List.size_toArray, txt_pre ss h, List.length_append, pre_length, tB_szs]; rfl
theorem get_list (W : ByteArray) (i : Nat) (h : i < W.size) : W[i] = W.data.toList[i]'(by simpa using h) := rfl
theorem first_byte {W : ByteArray} {ss : List ByteArray} (hF : W.data.toList = txt ss) (hpos : 0 < ss.length) (h : 0 < W.size) : (W[0]'h) = 91 := by
  cases ss with
  | nil => simp at hpos
  | cons s l =>
    rw [get_list]
    simp only [hF, txt_cons, List.getElem_cons_zero]
theorem last_byte {W : ByteArray} {ss : List ByteArray} (hF : W.data.toList = txt ss) (hpos : 0 < ss.length) (i : Nat) (h : i < W.size) (hi : i = W.size - 1) : (W[i]'h) = 93 := by
  have hl : W.size = (txt ss).length := by rw [← hF]; rfl
  rw [txt_pre ss hpos, List.length_append] at hl
  simp at hl
  rw [get_list]
  simp only [hF, txt_pre ss hpos]
  rw [List.getElem_append_right (by omega)]
  simp
theorem ext_of {A B : ByteArray} (h : A.data.toList = B.data.toList) : A = B := by
  cases A; cases B; simp at h; subst h; rfl
theorem eqb_of {A B : ByteArray} (h : A = B) : (A.toList == B.toList) = true := by subst h; simp
theorem first_piece {W s0 : ByteArray} {ss : List ByteArray} (hF : W.data.toList = txt ss) (hpos : 0 < ss.length) (h0 : s0 = ss[0]) : W.extract 1 (1 + s0.size) = s0 := by
  cases ss with
  | nil => simp at hpos
  | cons s l =>
    apply ext_of
    rw [Lib.extract_data, hF, txt_cons, h0]
    have e : 1 + s.size - 1 = s.data.toList.length := by show 1 + s.data.size - 1 = _; simp
    show ((91 :: (s.data.toList ++ tB l ++ [93])).drop 1).take (1 + s.size - 1) = s.data.toList
    rw [e, List.drop_succ_cons, List.drop_zero, List.append_assoc]
    simp
theorem glue {W Lf Rt : ByteArray} {ss : List ByteArray} {k : Nat} (hW : W = ByteArray.mk (txt ss).toArray) (hL : Lf = ByteArray.mk (txt (ss.take k)).toArray) (hR : Rt = ByteArray.mk (txt (ss.drop k)).toArray) (h0 : 0 < k) (hk : k < ss.length) :
    W = Lf.extract 0 (Lf.size - 1) ++ { data := #[44] } ++ Rt.extract 1 Rt.size := by
  have hs : ss = ss.take k ++ ss.drop k := (List.take_append_drop k ss).symm
  have hl1 : 0 < (ss.take k).length := by simp; omega
  have hl2 : 0 < (ss.drop k).length := by simp; omega
  obtain ⟨T, hT⟩ : ∃ T, T = ss.take k := ⟨_, rfl⟩
  obtain ⟨D, hD⟩ : ∃ D, D = ss.drop k := ⟨_, rfl⟩
  rw [← hT, ← hD] at hs
  rw [← hT] at hL hl1
  rw [← hD] at hR hl2
  subst hs
  clear hT hD
  cases T with
  | nil => simp at hl1
  | cons s a =>
    cases D with
    | nil => simp at hl2
    | cons s' b =>
      have eL : Lf.data.toList = txt (s :: a) := by rw [hL]
      have eR : Rt.data.toList = txt (s' :: b) := by rw [hR]
      have zL : Lf.size = (txt (s :: a)).length := by rw [← eL]; rfl
      have zR : Rt.size = (txt (s' :: b)).length := by rw [← eR]; rfl
      apply ext_of
      rw [hW]
      have ea : (Lf.extract 0 (Lf.size - 1) ++ { data := #[44] } ++ Rt.extract 1 Rt.size).data.toList = (Lf.extract 0 (Lf.size - 1)).data.toList ++ [44] ++ (Rt.extract 1 Rt.size).data.toList := by simp
      rw [ea, Lib.extract_data, Lib.extract_data, eL, eR, zL, zR]
      have t1 : ((txt (s :: a)).drop 0).take ((txt (s :: a)).length - 1 - 0) = pre (s :: a) := by
        have h : txt (s :: a) = pre (s :: a) ++ [93] := rfl
        rw [h, List.drop_zero]; simp
      have t2 : ((txt (s' :: b)).drop 1).take ((txt (s' :: b)).length - 1) = (txt (s' :: b)).drop 1 := List.take_of_length_le (by simp)
      rw [t1, t2]
      show txt ((s :: a) ++ (s' :: b)) = _
      rw [List.cons_append, txt_cons, txt_cons, pre_cons, tB_append, tB_cons]
      simp
theorem text_n (f : Nat) (a : Option Addr) (c : Nat) (L : Int) (n : Nat) (ss : List ByteArray) (hn' : n = ss.length) (w : World) (c0 : w.cell? ⟨f, 0, none⟩ = some (.slice a n c)) (c2 : w.cell? ⟨f, 2, none⟩ = some (.int .i64 L)) (hf : f < w.heap.size)
    (hs : Strs w a ss) (h0 : 0 ≤ L) (h1 : L ≤ 1048576) (hl : (tB ss).length ≤ 4194304) (hn : ss.length ≤ 1048576) :
    Calls Try.prog 7 #[.pointer (some ⟨f, 0, none⟩)] w fun e w' => e = .returned (.string ⟨(txt ss).toArray⟩) ∧ Below w.heap.size w w' := by
  subst hn'
  exact text_any f a c L ss w c0 c2 hf hs h0 h1 hl hn

set_option maxHeartbeats 1000000 in
set_option maxRecDepth 100000 in
theorem cut_any (a : Option Addr) (c : Nat) (L k0 : Int) (ss : List ByteArray) (w : World) (hs : Strs w a ss) (hn : ss.length ≤ maxLen) (hz : ∀ s ∈ ss, s.size ≤ maxLen) (hnil : a = none → c = 0 ∧ ss = []) :
    Calls Try.prog 3 #[.slice a ss.length c, .int .i64 L, .int .i64 k0] w fun e w' => e = .returned (.bool true) ∧ Below w.heap.size w w' := by
  have hg := guard5_any a c L k0 ss w hs hn hz
  unfold maxLen at hn hz
  go_enter Try.func3, Try.ntmps3
  go_wp2_with fail
  refine hg.mono ?_
  rintro e w' ⟨⟨bb, rfl, hsm⟩, rfl⟩
  clear hg
  cases bb with
  | false =>
    go_wp2
    go_ret
    exact ⟨rfl, Below.refl _ _⟩
  | true =>
  replace hsm := hsm rfl
  clear hz
  by_cases hbig : (65536 : Int) < (ss.length : Int)
  · go_wp2
    go_ret
    exact ⟨rfl, Below.refl _ _⟩
  have hn := fun (wx : World) => run_neq_slice_nil_any (P := Try.prog) wx 22 9 a ss.length c 0 0 Try.underlying22
  go_upto_if 26 with fail
  go_cut [0] (fun s0 wk => Own wk s0 ss ∧ Below w'.heap.size w' wk)
  case first =>
    cases a with
    | none =>
      obtain ⟨rfl, rfl⟩ := hnil rfl
      go_wp2
      go_meet
      case rel => exact ⟨.inl ⟨rfl, rfl⟩, Below.refl _ _⟩
    | some a =>
      obtain ⟨i0, hinf, hz0, hz1, hz2⟩ := info_parts info9
      go_wp2_with (at_make; go_loud (refine wpList_make_full _ rfl _ _ 22 rfl w'.heap.size 9 i0 _ 1 Try.underlying22 hinf hz0 hz1 _ _ _ _ ss.length rfl rfl rfl rfl (by rw [hz2]; omega) (by unfold maxLen; omega) (Nat.le_refl _) ?_; intro w1 hown hgrow; obtain ⟨w2, hrun, hs2, hg2⟩ := run_copy_strs (c := c) hown (hs.kept (below_of_none hgrow) (Nat.le_refl _))))
      go_meet
      case rel => exact ⟨.inr ⟨_, rfl, hs2⟩, below_made hgrow hg2⟩
  case rest =>
    obtain ⟨ho, Bw⟩ := hcut
    obtain ⟨a', c', rfl, hs', hfm⟩ := ho.form
    clear hs hnil hn ho
    go_wp2_with fail
    go_loopw [8, 9] (fun t i wr => ∃ (k : Nat), k ≤ ss.length ∧ i = .int .i64 k ∧ t = .int .i64 ((8 * ss.length + szs (ss.take k) : Nat) : Int) ∧ 8 * ss.length + szs (ss.take k) ≤ 1048576 ∧ wr = wc) (fun _ i _ => ss.length - (intOf i).toNat)
    case atStart => exact ⟨0, Nat.zero_le _, rfl, by simp [szs], by simp [szs]; omega, rfl⟩
    case round =>
      obtain ⟨k, hk, rfl, rfl, h1, rfl⟩ := hrel
      by_cases hlt : k < ss.length
      · obtain ⟨b, off, rfl, hl, hc⟩ := hs' k hlt
        have hz0 := hsm k hlt hlt
        have e1 := szs_take ss k hlt
        obtain ⟨s, es⟩ : ∃ s, s = ss[k] := ⟨_, rfl⟩
        rw [← es] at hc hz0 e1
        have E1 : Hid (szs (ss.take (k + 1)) = szs (ss.take k) + s.size) := e1
        obtain ⟨m, hm⟩ : ∃ m, m = 8 * ss.length + szs (ss.take k) := ⟨_, rfl⟩
        have HM : Hid (m = 8 * ss.length + szs (ss.take k)) := hm
        rw [← hm] at h1 ⊢
        have hi : (k : Int) < (ss.length : Int) := by omega
        clear es e1 hm
        by_cases h3 : 1048576 < (m : Int) + (s.size : Int)
        · go_wp2
          go_ret
          exact ⟨rfl, Bw⟩
        · have e2 : Hid (m + s.size = 8 * ss.length + szs (ss.take (k + 1))) := (by have := E1.out; have := HM.out; omega : m + s.size = 8 * ss.length + szs (ss.take (k + 1)))
          go_wp2
          go_roundw
          case rel =>
            refine ⟨k + 1, by omega, by go_num, ?_, ?_, by first | rfl | trivial⟩
            · rw [← e2.out]; go_num
            · rw [← e2.out]; omega
          case measure => simp [intOf]; omega
      · have hkk : k = ss.length := by omega
        subst hkk
        rw [List.take_length] at h1 ⊢
        clear hlt hk
        by_cases a1 : L < 0
        · go_wp2
          go_ret
          exact ⟨rfl, Bw⟩
        by_cases a2 : 1048576 < L
        · go_wp2
          go_ret
          exact ⟨rfl, Bw⟩
        by_cases a3 : k0 < 0
        · go_wp2
          go_ret
          exact ⟨rfl, Bw⟩
        by_cases a4 : (ss.length : Int) < k0
        · go_wp2
          go_ret
          exact ⟨rfl, Bw⟩
        obtain ⟨k, rfl⟩ : ∃ k : Nat, k0 = (k : Int) := ⟨k0.toNat, (Int.toNat_of_nonneg (by omega)).symm⟩
        go_wp2_with fail
        go_loopw [11, 12] (fun t i wx => ∃ (j : Nat), j ≤ ss.length ∧ i = .int .i64 j ∧ t = .int .i64 (szs (ss.take j) : Int) ∧ wx = wr) (fun _ i _ => ss.length - (intOf i).toNat)
        case atStart => exact ⟨0, Nat.zero_le _, rfl, by simp [szs], rfl⟩
        case round =>
          obtain ⟨j, hj, rfl, rfl, rfl⟩ := hrel
          by_cases hlt : j < ss.length
          · obtain ⟨b, off, rfl, hl, hc⟩ := hs' j hlt
            have hz0 := hsm j hlt hlt
            have e1 := szs_take ss j hlt
            have hle := szs_le ss j
            obtain ⟨s, es⟩ : ∃ s, s = ss[j] := ⟨_, rfl⟩
            rw [← es] at hc hz0 e1
            have E1 : Hid (szs (ss.take (j + 1)) = szs (ss.take j) + s.size) := e1
            obtain ⟨m, hm⟩ : ∃ m, m = szs (ss.take j) := ⟨_, rfl⟩
            have HM : Hid (m = szs (ss.take j)) := hm
            rw [← hm] at hle ⊢
            have hi : (j : Int) < (ss.length : Int) := by omega
            have e2 : Hid (m + s.size = szs (ss.take (j + 1))) := (by have := E1.out; have := HM.out; omega : m + s.size = szs (ss.take (j + 1)))
            clear es e1 hm
            go_wp2
            go_roundw
            case rel =>
              refine ⟨j + 1, by omega, by go_num, ?_, by first | rfl | trivial⟩
              rw [← e2.out]; go_num
            case measure => simp [intOf]; omega
          · have hjj : j = ss.length := by omega
            subst hjj
            rw [List.take_length]
            clear hlt hj
            have htl := tB_szs ss
            have hkn : k ≤ ss.length := by omega
            have lT := tB_take_le ss k
            have lD := tB_drop_le ss k
            have sT := Strs.take hs' k
            go_wp2_with fail
            refine (newFetches_any _ _ _ _ _).mono ?_
            rintro e w1 ⟨rfl, m1, rfl⟩
            go_wp2_with fail
            refine (text_n wr.heap.size a' c' L ss.length ss rfl _ (by simp) (by simp) (by simp) (hs'.kept (below_of_none (World.grownBy_alloc _ _ _)) (Nat.le_refl _)) (by omega) (by omega) (by omega) (by omega)).mono ?_
            rintro e w1 ⟨rfl, B1⟩
            obtain ⟨W, hW⟩ : ∃ W, W = ByteArray.mk (txt ss).toArray := ⟨_, rfl⟩
            rw [← hW]
            have HW : Hid (W = ByteArray.mk (txt ss).toArray) := hW
            have C1 : Below wr.heap.size wr w1 := ((Below.refl _ wr).alloc (Nat.le_refl _) _).trans (B1.mono (by simp))
            have s1 := hs'.kept C1 (Nat.le_refl _)
            have z1 := C1.size
            clear hW B1
            rcases hfm with ⟨rfl, rfl, rfl⟩ | ⟨g, rfl, rfl⟩
            · have hk0 : k = 0 := by simp at hkn; exact hkn
              subst hk0
              have q1 : W = ByteArray.mk #[] := by rw [HW.out]; rfl
              subst q1
              clear HW
              go_wp2_with fail
              refine (newFetches_any _ _ _ _ _).mono ?_
              rintro e w2 ⟨rfl, m2, rfl⟩
              go_wp2_with fail
              refine (text_n w1.heap.size none 0 L 0 [] rfl _ (by simp) (by simp) (by simp) (fun j hj => absurd hj (Nat.not_lt_zero _)) (by omega) (by omega) (by simp [tB]) (by simp)).mono ?_
              rintro e w2 ⟨rfl, B2⟩
              have C2 : Below w1.heap.size w1 w2 := ((Below.refl _ w1).alloc (Nat.le_refl _) _).trans (B2.mono (by simp))
              have z2 := C2.size
              clear B2
              go_wp2_with fail
              refine (newFetches_any _ _ _ _ _).mono ?_
              rintro e w3 ⟨rfl, m3, rfl⟩
              go_wp2_with fail
              refine (text_n w2.heap.size none 0 L 0 [] rfl _ (by simp) (by simp) (by simp) (fun j hj => absurd hj (Nat.not_lt_zero _)) (by omega) (by omega) (by simp [tB]) (by simp)).mono ?_
              rintro e w3 ⟨rfl, B3⟩
              have C3 : Below w2.heap.size w2 w3 := ((Below.refl _ w2).alloc (Nat.le_refl _) _).trans (B3.mono (by simp))
              have BB : Below w'.heap.size w' w3 := Bw.trans ((C1.mono Bw.size).trans ((C2.mono (Nat.le_trans Bw.size z1)).trans (C3.mono (Nat.le_trans Bw.size (Nat.le_trans z1 z2)))))
              clear B3
              have qq : ByteArray.mk (txt []).toArray = ByteArray.mk #[] := rfl
              rw [qq]
              clear qq
              go_wp2
              go_ret
              exact ⟨rfl, BB⟩
            · have hkT : k = (ss.take k).length := by rw [List.length_take]; omega
              have HKT : Hid (k = (ss.take k).length) := hkT
              clear hkT
              go_wp2_with fail
              refine (newFetches_any _ _ _ _ _).mono ?_
              rintro e w2 ⟨rfl, m2, rfl⟩
              go_wp2_with fail
              refine (text_n w1.heap.size (some ⟨g, 0, none⟩) ss.length L k (ss.take k) HKT.out _ (by simp) (by simp) (by simp) ((s1.take k).kept (below_of_none (World.grownBy_alloc _ _ _)) (Nat.le_refl _)) (by omega) (by omega) (by omega) (by have := HKT.out; omega)).mono ?_
              rintro e w2 ⟨rfl, B2⟩
              obtain ⟨Lf, hLf⟩ : ∃ W, W = ByteArray.mk (txt (ss.take k)).toArray := ⟨_, rfl⟩
              rw [← hLf]
              have HL : Hid (Lf = ByteArray.mk (txt (ss.take k)).toArray) := hLf
              have C2 : Below w1.heap.size w1 w2 := ((Below.refl _ w1).alloc (Nat.le_refl _) _).trans (B2.mono (by simp))
              have s2 := s1.kept C2 (Nat.le_refl _)
              have z2 := C2.size
              clear hLf B2
              by_cases hkc : k = ss.length
              · subst hkc
                have s2d : Strs w2 (some ⟨g, 0, none⟩) [] := fun j hj => absurd hj (Nat.not_lt_zero _)
                have hTk : Hid (Lf = W) := (by rw [HL.out, HW.out, List.take_length] : Lf = W)
                go_wp2_with fail
                refine (newFetches_any _ _ _ _ _).mono ?_
                rintro e w3 ⟨rfl, m3, rfl⟩
                go_wp2_with fail
                refine (text_n w2.heap.size (some ⟨g, 0, none⟩) 0 L 0 [] rfl _ (by simp) (by simp) (by simp) (s2d.kept (below_of_none (World.grownBy_alloc _ _ _)) (Nat.le_refl _)) (by omega) (by omega) (by simp [tB]) (by simp)).mono ?_
                rintro e w3 ⟨rfl, B3⟩
                obtain ⟨Rt, hRt⟩ : ∃ W, W = ByteArray.mk (txt []).toArray := ⟨_, rfl⟩
                rw [← hRt]
                have hR0 : Rt = ByteArray.mk #[] := hRt
                have C3 : Below w2.heap.size w2 w3 := ((Below.refl _ w2).alloc (Nat.le_refl _) _).trans (B3.mono (by simp))
                have s3 := s2.kept C3 (Nat.le_refl _)
                have BB : Below w'.heap.size w' w3 := Bw.trans ((C1.mono Bw.size).trans ((C2.mono (Nat.le_trans Bw.size z1)).trans (C3.mono (Nat.le_trans Bw.size (Nat.le_trans z1 z2)))))
                clear hRt B3 C1 C2 C3
                subst hR0
                by_cases hn0 : ss.length = 0
                · have q1 : W = ByteArray.mk #[] := by rw [HW.out, List.length_eq_zero_iff.1 hn0]; rfl
                  have q2 : Lf = ByteArray.mk #[] := by rw [hTk.out, q1]
                  subst q1
                  subst q2
                  clear HW HL hTk
                  have hE : ((ss.length : Int) == 0) = true := by rw [beq_iff_eq]; omega
                  go_wp2
                  go_ret
                  exact ⟨rfl, BB⟩
                · have hpos : 0 < ss.length := by omega
                  have hE : ((ss.length : Int) == 0) = false := by rw [beq_eq_false_iff_ne]; omega
                  have hWz : W.size = szs ss + ss.length + 1 := by rw [HW.out]; exact txt_size ss hpos
                  have hSz : ((W.size : Int) != (szs ss : Int) + (ss.length : Int) + 1) = false := by rw [bne_eq_false_iff_eq]; omega
                  have hb1 : (W.size : Int) ≤ 4194304 := by omega
                  have hb2 : 0 < W.size := by omega
                  have HZ : Hid (W.size = szs ss + ss.length + 1) := hWz
                  have hF : W.data.toList = txt ss := by rw [HW.out]
                  have HF : Hid (W.data.toList = txt ss) := hF
                  clear hWz hF
                  go_upto_region 33 with fail
                  go_cut [125] (fun s125 wk => s125 = .bool false ∧ wk = w3)
                  case first =>
                    have h0 : ∀ h : 0 < W.size, ((W[0]'h).toNat : Int) = 91 := fun h => by rw [first_byte HF.out hpos h]; rfl
                    go_wp2
                    go_meet
                    case rel => exact ⟨by rw [last_byte HF.out hpos _ _ (by omega)]; rfl, rfl⟩
                  case rest =>
                    obtain ⟨rfl, rfl⟩ := hcut
                    obtain ⟨b3, off3, e3, _, hc3⟩ := s3 0 hpos
                    injection e3 with e3
                    injection e3 with e3 e4
                    subst e3; subst e4
                    rw [Nat.zero_add] at hc3
                    obtain ⟨s0, hs0⟩ : ∃ s0, s0 = ss[0] := ⟨_, rfl⟩
                    rw [← hs0] at hc3
                    have HS0 : Hid (s0 = ss[0]) := hs0
                    have hz0 : s0.size ≤ 1048576 := by rw [hs0]; exact hsm 0 hpos hpos
                    clear hs0
                    go_upto_region 36 with fail
                    go_cut [16, 135] (fun s16 s135 wk => s16 = .string s0 ∧ s135 = .bool false ∧ wk = wc)
                    case first =>
                      have hs0W : 1 + (s0.size : Int) ≤ (W.size : Int) := by
                        have q1 := szs_take ss 0 hpos
                        have q2 := szs_le ss (0 + 1)
                        rw [← HS0.out] at q1
                        have := HZ.out
                        omega
                      go_wp2
                      go_meet
                      case rel =>
                        refine ⟨rfl, ?_, rfl⟩
                        rw [eqb_of (first_piece HF.out hpos HS0.out)]; rfl
                    case rest =>
                      obtain ⟨rfl, rfl, rfl⟩ := hcut
                      obtain rfl := hTk.out
                      clear HL HW HF hTk
                      have hk0' : ((ss.length : Int) == 0) = false := by rw [beq_eq_false_iff_ne]; omega
                      go_wp2
                      go_ret
                      exact ⟨rfl, BB⟩
              · have hkD : ss.length - k = (ss.drop k).length := by rw [List.length_drop]
                have HKD : Hid (ss.length - k = (ss.drop k).length) := hkD
                clear hkD
                have hkc2 : ¬ ss.length = k := fun e => hkc e.symm
                have s2d := s2.drop k
                rw [Nat.zero_add] at s2d
                go_wp2_with fail
                refine (newFetches_any _ _ _ _ _).mono ?_
                rintro e w3 ⟨rfl, m3, rfl⟩
                go_wp2_with fail
                refine (text_n w2.heap.size (some ⟨g, k, none⟩) (ss.length - k) L (ss.length - k) (ss.drop k) HKD.out _ (by simp) (by simp) (by simp) (s2d.kept (below_of_none (World.grownBy_alloc _ _ _)) (Nat.le_refl _)) (by omega) (by omega) (by omega) (by have := HKD.out; omega)).mono ?_
                rintro e w3 ⟨rfl, B3⟩
                obtain ⟨Rt, hRt⟩ : ∃ W, W = ByteArray.mk (txt (ss.drop k)).toArray := ⟨_, rfl⟩
                rw [← hRt]
                have HR : Hid (Rt = ByteArray.mk (txt (ss.drop k)).toArray) := hRt
                have C3 : Below w2.heap.size w2 w3 := ((Below.refl _ w2).alloc (Nat.le_refl _) _).trans (B3.mono (by simp))
                have s3 := s2.kept C3 (Nat.le_refl _)
                have BB : Below w'.heap.size w' w3 := Bw.trans ((C1.mono Bw.size).trans ((C2.mono (Nat.le_trans Bw.size z1)).trans (C3.mono (Nat.le_trans Bw.size (Nat.le_trans z1 z2)))))
                clear hRt B3 C1 C2 C3
                have hpos : 0 < ss.length := by omega
                have hE : ((ss.length : Int) == 0) = false := by rw [beq_eq_false_iff_ne]; omega
                have hWz : W.size = szs ss + ss.length + 1 := by rw [HW.out]; exact txt_size ss hpos
                have hSz : ((W.size : Int) != (szs ss : Int) + (ss.length : Int) + 1) = false := by rw [bne_eq_false_iff_eq]; omega
                have hb1 : (W.size : Int) ≤ 4194304 := by omega
                have hb2 : 0 < W.size := by omega
                have HZ : Hid (W.size = szs ss + ss.length + 1) := hWz
                have hF : W.data.toList = txt ss := by rw [HW.out]
                have HF : Hid (W.data.toList = txt ss) := hF
                clear hWz hF
                go_upto_region 33 with fail
                go_cut [125] (fun s125 wk => s125 = .bool false ∧ wk = w3)
                case first =>
                  have h0 : ∀ h : 0 < W.size, ((W[0]'h).toNat : Int) = 91 := fun h => by rw [first_byte HF.out hpos h]; rfl
                  go_wp2
                  go_meet
                  case rel => exact ⟨by rw [last_byte HF.out hpos _ _ (by omega)]; rfl, rfl⟩
                case rest =>
                  obtain ⟨rfl, rfl⟩ := hcut
                  obtain ⟨b3, off3, e3, _, hc3⟩ := s3 0 hpos
                  injection e3 with e3
                  injection e3 with e3 e4
                  subst e3; subst e4
                  rw [Nat.zero_add] at hc3
                  obtain ⟨s0, hs0⟩ : ∃ s0, s0 = ss[0] := ⟨_, rfl⟩
                  rw [← hs0] at hc3
                  have HS0 : Hid (s0 = ss[0]) := hs0
                  have hz0 : s0.size ≤ 1048576 := by rw [hs0]; exact hsm 0 hpos hpos
                  clear hs0
                  go_upto_region 36 with fail
                  go_cut [16, 135] (fun s16 s135 wk => s16 = .string s0 ∧ s135 = .bool false ∧ wk = wc)
                  case first =>
                    have hs0W : 1 + (s0.size : Int) ≤ (W.size : Int) := by
                      have q1 := szs_take ss 0 hpos
                      have q2 := szs_le ss (0 + 1)
                      rw [← HS0.out] at q1
                      have := HZ.out
                      omega
                    go_wp2
                    go_meet
                    case rel =>
                      refine ⟨rfl, ?_, rfl⟩
                      rw [eqb_of (first_piece HF.out hpos HS0.out)]; rfl
                  case rest =>
                    obtain ⟨rfl, rfl, rfl⟩ := hcut
                    by_cases hk0 : k = 0
                    · subst hk0
                      have q1 : Lf = ByteArray.mk #[] := by rw [HL.out]; rfl
                      have q2 : Rt = W := by rw [HR.out, HW.out]; rfl
                      subst q1
                      subst q2
                      clear HL HR HW HF
                      go_wp2
                      go_ret
                      exact ⟨rfl, BB⟩
                    · have hk0' : ((k : Int) == 0) = false := by rw [beq_eq_false_iff_ne]; omega
                      have hkn' : ((k : Int) == (ss.length : Int)) = false := by rw [beq_eq_false_iff_ne]; omega
                      have hkp : 0 < k := by omega
                      have y1 : Lf.size = szs (ss.take k) + k + 1 := by
                        have h := txt_size (ss.take k) (by have := HKT.out; omega)
                        rw [← HL.out, ← HKT.out] at h
                        exact h
                      have y2 : Rt.size = szs (ss.drop k) + (ss.length - k) + 1 := by
                        have h := txt_size (ss.drop k) (by have := HKD.out; omega)
                        rw [← HR.out, ← HKD.out] at h
                        exact h
                      have y3 : szs (ss.take k) + szs (ss.drop k) = szs ss := by unfold szs; rw [← List.sum_append, ← List.map_append, List.take_append_drop]
                      have g1 : 2 ≤ (Lf.size : Int) := by omega
                      have g2 : 2 ≤ (Rt.size : Int) := by omega
                      have g3 : (Lf.size : Int) ≤ 4194304 := by omega
                      have g4 : (Rt.size : Int) ≤ 4194304 := by omega
                      have GL : Hid ((W.toList == (Lf.extract 0 (Lf.size - 1) ++ { data := #[44] } ++ Rt.extract 1 Rt.size).toList) = true) := eqb_of (glue HW.out HL.out HR.out hkp (by omega))
                      clear y1 y2 y3
                      go_wp2
                      go_quiet (fail)
                      rw [GL.out]
                      go_wp2
                      go_ret
                      exact ⟨rfl, BB.trans ⟨rfl, rfl, rfl, Nat.le_refl _, fun _ _ => rfl⟩⟩

end Go.Proofs.Qxb6629149a
