import Derived.Test.Qxb6629149aCut
import Derived.Deep.AppendLies
namespace Go.Proofs.Qxb6629149a
open Go.RowKit
set_option linter.unusedSimpArgs false
set_option linter.unusedVariables false

theorem strs_of_own {w : World} {B n c : Nat} {a : Option Addr} {ss : List ByteArray} (h : w.ownsRow B 9 1 (.slice a n c) ss.length (ss.map Value.string)) : Strs w a ss := by
  rcases h.2 with ⟨e, h0⟩ | ⟨g, cap, cur, e, hb, hg, _⟩
  · intro j hj; omega
  · intro j hj
    injection e with e1 e2 e3
    subst e1; subst e2; subst e3
    refine ⟨g, 0, rfl, (Array.getElem?_eq_some_iff.1 hg).1, ?_⟩
    rw [Nat.zero_add, h.cellAt j (by omega)]
    simp [List.getElem?_map, List.getElem?_eq_getElem hj]
theorem cells_new1 (w : World) (t : TypeId) (cs : Array Value) (a : Nat) (ha : a = w.heap.size) : ∀ (j : Nat) (u : Value), cs.toList[j]? = some u → (w.alloc (.cells cs t)).cell? ((⟨a, 0, none⟩ : Addr).add j) = some u := by
  subst ha; exact World.news_of_block (heap_alloc_new w (.cells cs t))
theorem map_take (ss : List ByteArray) (k : Nat) (h : k < ss.length) : (ss.take (k + 1)).map Value.string = (ss.take k).map Value.string ++ [.string ss[k]] := by
  rw [List.take_succ_eq_append_getElem h, List.map_append]; rfl
/-- with one put in -/
def put (ss : List ByteArray) (x : ByteArray) (i : Nat) : List ByteArray := ss.take i ++ x :: ss.drop i
theorem put_length (ss : List ByteArray) (x : ByteArray) (i : Nat) (h : i ≤ ss.length) : (put ss x i).length = ss.length + 1 := by unfold put; rw [List.length_append, List.length_cons, List.length_take, List.length_drop]; omega
theorem put_lo (ss : List ByteArray) (x : ByteArray) (k j : Nat) (h : j < k) (hk : k ≤ ss.length) (hj : j < (put ss x k).length) : (put ss x k)[j] = ss[j] := by
  simp only [put]
  rw [List.getElem_append_left (by rw [List.length_take]; omega), List.getElem_take]
theorem put_at (ss : List ByteArray) (x : ByteArray) (k : Nat) (hk : k ≤ ss.length) (hj : k < (put ss x k).length) : (put ss x k)[k] = x := by
  simp only [put]
  rw [List.getElem_append_right (by rw [List.length_take]; omega)]
  have e : k - (ss.take k).length = 0 := by rw [List.length_take]; omega
  simp only [e, List.getElem_cons_zero]
theorem put_hi (ss : List ByteArray) (x : ByteArray) (k j : Nat) (h : k ≤ j) (hj : j < ss.length) (hj' : j + 1 < (put ss x k).length) : (put ss x k)[j + 1] = ss[j] := by
  simp only [put]
  rw [List.getElem_append_right (by rw [List.length_take]; omega)]
  have e : j + 1 - (ss.take k).length = (j - k) + 1 := by rw [List.length_take]; omega
  simp only [e, List.getElem_cons_succ, List.getElem_drop]
  congr 1; omega
theorem tB_put (ss : List ByteArray) (x : ByteArray) (i : Nat) : (tB (put ss x i)).length = (tB ss).length + x.size + 1 := by
  have h : tB ss = tB (ss.take i) ++ tB (ss.drop i) := by rw [← tB_append, List.take_append_drop]
  unfold put
  rw [tB_append, tB_cons, h]; simp only [List.length_append, List.length_cons]
  have : x.data.toList.length = x.size := rfl
  omega

theorem put_none {V x : ByteArray} {ss : List ByteArray} {k : Nat} (hV : V = ByteArray.mk (txt (put ss x k)).toArray) (h0 : ss.length = 0) : V = ByteArray.mk #[91] ++ x ++ ByteArray.mk #[93] := by
  have e : ss = [] := List.length_eq_zero_iff.1 h0
  subst e
  have h : put [] x k = [x] := by unfold put; simp
  rw [hV, h, txt_cons]
  apply ext_of
  simp [tB]
theorem put_last {W V x : ByteArray} {ss : List ByteArray} {k : Nat} (hW : W = ByteArray.mk (txt ss).toArray) (hV : V = ByteArray.mk (txt (put ss x k)).toArray) (hk : k = ss.length) (hpos : 0 < ss.length) : V = W.extract 0 (W.size - 1) ++ { data := #[44] } ++ x ++ { data := #[93] } := by
  have h : put ss x k = ss ++ [x] := by unfold put; rw [hk]; simp
  rw [h] at hV
  have eW : W.data.toList = txt ss := by rw [hW]
  have zW : W.size = (txt ss).length := by rw [← eW]; rfl
  apply ext_of
  have ea : (W.extract 0 (W.size - 1) ++ { data := #[44] } ++ x ++ { data := #[93] }).data.toList = (W.extract 0 (W.size - 1)).data.toList ++ [44] ++ x.data.toList ++ [93] := by simp
  rw [ea, Lib.extract_data, eW, zW, hV]
  have t1 : ((txt ss).drop 0).take ((txt ss).length - 1 - 0) = pre ss := by
    rw [txt_pre ss hpos, List.drop_zero]; simp
  rw [t1]
  cases ss with
  | nil => simp at hpos
  | cons s l =>
    show txt (s :: (l ++ [x])) = _
    rw [txt_cons, pre_cons, tB_append, tB_cons]
    simp [tB]

theorem put_mid {W V x : ByteArray} {ss : List ByteArray} {k p : Nat} (hW : W = ByteArray.mk (txt ss).toArray) (hV : V = ByteArray.mk (txt (put ss x k)).toArray) (hk : k < ss.length) (hp : p = (tB (ss.take k)).length + 1) : V = W.extract 0 p ++ x ++ { data := #[44] } ++ W.extract p W.size := by
  have hs : ss = ss.take k ++ ss.drop k := (List.take_append_drop k ss).symm
  have hl2 : 0 < (ss.drop k).length := by simp; omega
  unfold put at hV
  obtain ⟨T, hT⟩ : ∃ T, T = ss.take k := ⟨_, rfl⟩
  obtain ⟨D, hD⟩ : ∃ D, D = ss.drop k := ⟨_, rfl⟩
  rw [← hT, ← hD] at hs hV
  rw [← hT] at hp
  rw [← hD] at hl2
  subst hs
  clear hT hD
  cases D with
  | nil => simp at hl2
  | cons d D' =>
    have eW : W.data.toList = txt (T ++ d :: D') := by rw [hW]
    have zW : W.size = (txt (T ++ d :: D')).length := by rw [← eW]; rfl
    apply ext_of
    have ea : (W.extract 0 p ++ x ++ { data := #[44] } ++ W.extract p W.size).data.toList = (W.extract 0 p).data.toList ++ x.data.toList ++ [44] ++ (W.extract p W.size).data.toList := by simp
    rw [ea, Lib.extract_data, Lib.extract_data, eW, zW, hV]
    have t2 : ((txt (T ++ d :: D')).drop p).take ((txt (T ++ d :: D')).length - p) = (txt (T ++ d :: D')).drop p := List.take_of_length_le (by simp)
    rw [t2, List.drop_zero, Nat.sub_zero]
    cases T with
    | nil =>
      have hp1 : p = 1 := by rw [hp]; rfl
      subst hp1
      show txt (x :: d :: D') = _
      rw [List.nil_append, txt_cons, txt_cons, tB_cons]
      simp
    | cons s a =>
      have hX : txt (s :: (a ++ d :: D')) = (91 :: (s.data.toList ++ tB a ++ [44])) ++ (d.data.toList ++ tB D' ++ [93]) := by
        rw [txt_cons, tB_append, tB_cons]; simp
      have hpl : p = (91 :: (s.data.toList ++ tB a ++ [44])).length := by
        rw [hp, tB_cons]; simp; omega
      show txt (s :: (a ++ x :: d :: D')) = (txt (s :: (a ++ d :: D'))).take p ++ _ ++ _ ++ (txt (s :: (a ++ d :: D'))).drop p
      rw [hX, hpl, List.take_left', List.drop_left', txt_cons, tB_append, tB_cons, tB_cons]
      · simp
      · rfl
      · rfl

set_option maxHeartbeats 1000000 in
set_option maxRecDepth 100000 in
theorem ins_any (a : Option Addr) (c : Nat) (x : ByteArray) (L i0 : Int) (ss : List ByteArray) (w : World) (hs : Strs w a ss) (hn : ss.length ≤ maxLen) (hz : ∀ s ∈ ss, s.size ≤ maxLen) (hnil : a = none → c = 0 ∧ ss = []) (hx : x.size ≤ maxLen) :
    Calls Try.prog 4 #[.slice a ss.length c, .string x, .int .i64 i0, .int .i64 L] w fun e w' => e = .returned (.bool true) ∧ Below w.heap.size w w' := by
  have hg := guard8_any a c x i0 L ss w hs hn hz hx
  unfold maxLen at hn hz hx
  go_enter Try.func4, Try.ntmps4
  go_wp2_with fail
  refine hg.mono ?_
  rintro e w' ⟨⟨bb, rfl, hsm⟩, rfl⟩
  clear hg
  cases bb with
  | false =>
    go_wp2
    go_ret
    exact ⟨rfl, Below.refl _ _⟩
  | true =>
  replace hsm := hsm rfl
  clear hz
  by_cases hbig : (65536 : Int) < (ss.length : Int)
  · go_wp2
    go_ret
    exact ⟨rfl, Below.refl _ _⟩
  by_cases hxb : (1048576 : Int) < (x.size : Int)
  · go_wp2
    go_ret
    exact ⟨rfl, Below.refl _ _⟩
  have hn := fun (wx : World) => run_neq_slice_nil_any (P := Try.prog) wx 22 9 a ss.length c 0 0 Try.underlying22
  go_upto_if 35 with fail
  go_cut [0] (fun s0 wk => Own wk s0 ss ∧ Below w'.heap.size w' wk)
  case first =>
    cases a with
    | none =>
      obtain ⟨rfl, rfl⟩ := hnil rfl
      go_wp2
      go_meet
      case rel => exact ⟨.inl ⟨rfl, rfl⟩, Below.refl _ _⟩
    | some a =>
      obtain ⟨i0, hinf, hz0, hz1, hz2⟩ := info_parts info9
      go_wp2_with (at_make; go_loud (refine wpList_make_full _ rfl _ _ 22 rfl w'.heap.size 9 i0 _ 1 Try.underlying22 hinf hz0 hz1 _ _ _ _ ss.length rfl rfl rfl rfl (by rw [hz2]; omega) (by unfold maxLen; omega) (Nat.le_refl _) ?_; intro w1 hown hgrow; obtain ⟨w2, hrun, hs2, hg2⟩ := run_copy_strs (c := c) hown (hs.kept (below_of_none hgrow) (Nat.le_refl _))))
      go_meet
      case rel => exact ⟨.inr ⟨_, rfl, hs2⟩, below_made hgrow hg2⟩
  case rest =>
    obtain ⟨ho, Bw⟩ := hcut
    obtain ⟨a', c', rfl, hs', hfm⟩ := ho.form
    clear hs hnil hn ho hfm
    by_cases hsz : 1048576 < 8 * (ss.length : Int) + (x.size : Int)
    · go_wp2
      go_ret
      exact ⟨rfl, Bw⟩
    go_wp2_with fail
    go_loopw [10, 11] (fun t i wr => ∃ (k : Nat), k ≤ ss.length ∧ i = .int .i64 k ∧ t = .int .i64 ((8 * ss.length + x.size + szs (ss.take k) : Nat) : Int) ∧ 8 * ss.length + x.size + szs (ss.take k) ≤ 1048576 ∧ wr = wc) (fun _ i _ => ss.length - (intOf i).toNat)
    case atStart => exact ⟨0, Nat.zero_le _, rfl, by simp [szs], by simp [szs]; omega, rfl⟩
    case round =>
      obtain ⟨k, hk, rfl, rfl, h1, rfl⟩ := hrel
      by_cases hlt : k < ss.length
      · obtain ⟨b, off, rfl, hl, hc⟩ := hs' k hlt
        have hz0 := hsm k hlt hlt
        have e1 := szs_take ss k hlt
        obtain ⟨s, es⟩ : ∃ s, s = ss[k] := ⟨_, rfl⟩
        rw [← es] at hc hz0 e1
        have E1 : Hid (szs (ss.take (k + 1)) = szs (ss.take k) + s.size) := e1
        obtain ⟨m, hm⟩ : ∃ m, m = 8 * ss.length + x.size + szs (ss.take k) := ⟨_, rfl⟩
        have HM : Hid (m = 8 * ss.length + x.size + szs (ss.take k)) := hm
        rw [← hm] at h1 ⊢
        have hi : (k : Int) < (ss.length : Int) := by omega
        clear es e1 hm
        by_cases h3 : 1048576 < (m : Int) + (s.size : Int)
        · go_wp2
          go_ret
          exact ⟨rfl, Bw⟩
        · have e2 : Hid (m + s.size = 8 * ss.length + x.size + szs (ss.take (k + 1))) := (by have := E1.out; have := HM.out; omega : m + s.size = 8 * ss.length + x.size + szs (ss.take (k + 1)))
          go_wp2
          go_roundw
          case rel =>
            refine ⟨k + 1, by omega, by go_num, ?_, ?_, by first | rfl | trivial⟩
            · rw [← e2.out]; go_num
            · rw [← e2.out]; omega
          case measure => simp [intOf]; omega
      · have hkk : k = ss.length := by omega
        subst hkk
        rw [List.take_length] at h1 ⊢
        clear hlt hk
        by_cases a1 : L < 0
        · go_wp2
          go_ret
          exact ⟨rfl, Bw⟩
        by_cases a2 : 1048576 < L
        · go_wp2
          go_ret
          exact ⟨rfl, Bw⟩
        by_cases a3 : i0 < 0
        · go_wp2
          go_ret
          exact ⟨rfl, Bw⟩
        by_cases a4 : (ss.length : Int) < i0
        · go_wp2
          go_ret
          exact ⟨rfl, Bw⟩
        obtain ⟨k, rfl⟩ : ∃ k : Nat, i0 = (k : Int) := ⟨i0.toNat, (Int.toNat_of_nonneg (by omega)).symm⟩
        go_wp2_with fail
        go_loopw [13, 14] (fun t i wx => ∃ (j : Nat), j ≤ ss.length ∧ i = .int .i64 j ∧ t = .int .i64 (szs (ss.take j) : Int) ∧ wx = wr) (fun _ i _ => ss.length - (intOf i).toNat)
        case atStart => exact ⟨0, Nat.zero_le _, rfl, by simp [szs], rfl⟩
        case round =>
          obtain ⟨j, hj, rfl, rfl, rfl⟩ := hrel
          by_cases hlt : j < ss.length
          · obtain ⟨b, off, rfl, hl, hc⟩ := hs' j hlt
            have hz0 := hsm j hlt hlt
            have e1 := szs_take ss j hlt
            have hle := szs_le ss j
            obtain ⟨s, es⟩ : ∃ s, s = ss[j] := ⟨_, rfl⟩
            rw [← es] at hc hz0 e1
            have E1 : Hid (szs (ss.take (j + 1)) = szs (ss.take j) + s.size) := e1
            obtain ⟨m, hm⟩ : ∃ m, m = szs (ss.take j) := ⟨_, rfl⟩
            have HM : Hid (m = szs (ss.take j)) := hm
            rw [← hm] at hle ⊢
            have hi : (j : Int) < (ss.length : Int) := by omega
            have e2 : Hid (m + s.size = szs (ss.take (j + 1))) := (by have := E1.out; have := HM.out; omega : m + s.size = szs (ss.take (j + 1)))
            clear es e1 hm
            go_wp2
            go_roundw
            case rel =>
              refine ⟨j + 1, by omega, by go_num, ?_, by first | rfl | trivial⟩
              rw [← e2.out]; go_num
            case measure => simp [intOf]; omega
          · have hjj : j = ss.length := by omega
            subst hjj
            rw [List.take_length]
            clear hlt hj
            obtain ⟨wm, hwm⟩ : ∃ wm, wm = wr := ⟨_, rfl⟩
            subst hwm
            have hkn : k ≤ ss.length := by omega
            have htl := tB_szs ss
            have lP := tB_put ss x k
            obtain ⟨Pt, hPt⟩ : ∃ P, P = put ss x k := ⟨_, rfl⟩
            have nP : Pt.length = ss.length + 1 := by rw [hPt]; exact put_length ss x k hkn
            have NP : Hid (Pt.length = ss.length + 1) := nP
            have HP : Hid (Pt = put ss x k) := hPt
            have P1 : ∀ j (h1 : j < k) (h2 : j < Pt.length) (h3 : j < ss.length), Pt[j] = ss[j] := by subst hPt; intro j h1 h2 h3; exact put_lo ss x k j h1 hkn h2
            have P2 : ∀ (h2 : k < Pt.length), Pt[k] = x := by subst hPt; intro h2; exact put_at ss x k hkn h2
            have P3 : ∀ j (h1 : k ≤ j) (h2 : j < ss.length) (h3 : j + 1 < Pt.length), Pt[j + 1] = ss[j] := by subst hPt; intro j h1 h2 h3; exact put_hi ss x k j h1 h2 h3
            rw [← hPt] at lP
            clear hPt nP
            obtain ⟨i9, hinf, hz0, hz1, hz2⟩ := info_parts info9
            go_wp2_with (at_make; go_loud (refine wpList_make_own _ rfl _ _ 22 rfl wm.heap.size 9 i9 _ 1 Try.underlying22 hinf hz0 hz1 _ _ _ (ss.length + 1) rfl rfl (by go_num) (by rw [hz2]; omega) (by unfold maxLen; omega) (Nat.le_refl _) ?_; intro w1 hown1 hgrow1))
            have Bm1 := below_of_none hgrow1
            go_loopw [15, 16] (fun v i wr => ∃ (j : Nat) (aa : Option Addr) (ac : Nat), j ≤ k ∧ v = .slice aa j ac ∧ i = .int .i64 j ∧ wr.ownsRow wm.heap.size 9 1 (.slice aa j ac) j ((Pt.take j).map Value.string) ∧ Below wm.heap.size wm wr) (fun _ i _ => k - (intOf i).toNat)
            case atStart => exact ⟨0, _, _, Nat.zero_le _, rfl, rfl, by simpa using hown1, Bm1⟩
            case round =>
              obtain ⟨j, aa, ac, hj, rfl, rfl, own, Br⟩ := hrel
              clear hown1 hgrow1 Bm1
              by_cases hlt : j < k
              · obtain ⟨b, off, rfl, hl, hc⟩ := hs'.kept Br (Nat.le_refl _) j (by omega)
                have e1 := P1 j hlt (by have := NP.out; omega) (by omega)
                have e2 := map_take Pt j (by have := NP.out; omega)
                obtain ⟨s, es⟩ : ∃ s, s = ss[j]'(by omega) := ⟨_, rfl⟩
                rw [← es] at hc e1
                rw [e1] at e2
                have E2 : Hid ((Pt.take (j + 1)).map Value.string = (Pt.take j).map Value.string ++ [.string s]) := e2
                have hi : (j : Int) < (k : Int) := by omega
                have hi2 : (j : Int) < (ss.length : Int) := by omega
                have zr := Br.size
                clear es e1 e2 P1 P2 P3
                go_wp2_with (at_builtin; go_loud (refine wpList_append_lies _ rfl _ _ 22 rfl wm.heap.size 9 i9 _ 1 16 Try.underlying22 hinf hz0 hz1 hz2 rfl (by decide) (.slice aa j ac) j ((Pt.take j).map Value.string) rfl (own.alloc _) ⟨wr.heap.size, 0, none⟩ 1 1 [.string s] rfl rfl (cells_new1 _ 9 #[.string s] _ rfl) (by simp [Value.oneCell']) (by decide) (by unfold maxLen; omega) (by omega) (by simp; omega) (wr.heap.size + 1) (by simp) ?_; intro g cap w2 hown2 hgrow hat hlt2))
                rw [← E2.out] at hown2
                have B2 : Below wm.heap.size wm w2 := (Br.alloc zr _).grown hgrow (by simp; omega) (fun q hq => (own.lt q hq).1)
                go_wp2
                go_roundw
                case rel => exact ⟨j + 1, _, _, hlt, rfl, by go_num, hown2, B2⟩
                case measure => simp [intOf]; omega
              · have hjk : j = k := by omega
                subst hjk
                have hi : (j : Int) ≤ (j : Int) := Int.le_refl _
                have zr := Br.size
                have e1 := P2 (by have := NP.out; omega)
                have e2 := map_take Pt j (by have := NP.out; omega)
                rw [e1] at e2
                have E2 : Hid ((Pt.take (j + 1)).map Value.string = (Pt.take j).map Value.string ++ [.string x]) := e2
                clear e1 e2 P1 P2 hlt hj
                go_wp2_with (at_builtin; go_loud (refine wpList_append_lies _ rfl _ _ 22 rfl wm.heap.size 9 i9 _ 1 16 Try.underlying22 hinf hz0 hz1 hz2 rfl (by decide) (.slice aa j ac) j ((Pt.take j).map Value.string) rfl (own.alloc _) ⟨wr.heap.size, 0, none⟩ 1 1 [.string x] rfl rfl (cells_new1 _ 9 #[.string x] _ rfl) (by simp [Value.oneCell']) (by decide) (by unfold maxLen; omega) (by omega) (by simp; omega) (wr.heap.size + 1) (by simp) ?_; intro g cap w2 hown2 hgrow hat hlt2))
                rw [← E2.out] at hown2
                have B2 : Below wm.heap.size wm w2 := (Br.alloc zr _).grown hgrow (by simp; omega) (fun q hq => (own.lt q hq).1)
                clear hgrow own Br hat
                go_wp2
                go_loopw [15, 17] (fun v i wr => ∃ (q : Nat) (aa : Option Addr) (ac : Nat), j ≤ q ∧ q ≤ ss.length ∧ v = .slice aa (q + 1) ac ∧ i = .int .i64 q ∧ wr.ownsRow wm.heap.size 9 1 (.slice aa (q + 1) ac) (q + 1) ((Pt.take (q + 1)).map Value.string) ∧ Below wm.heap.size wm wr) (fun _ i _ => ss.length - (intOf i).toNat)
                case atStart => exact ⟨j, _, _, Nat.le_refl _, hkn, rfl, rfl, hown2, B2⟩
                case round =>
                  clear hown2 B2
                  obtain ⟨q, aa, ac, hjq, hq, rfl, rfl, own, Br⟩ := hrel
                  by_cases hlt : q < ss.length
                  · obtain ⟨b, off, rfl, hl, hc⟩ := hs'.kept Br (Nat.le_refl _) q hlt
                    have e1 := P3 q hjq hlt (by have := NP.out; omega)
                    have e2 := map_take Pt (q + 1) (by have := NP.out; omega)
                    obtain ⟨s, es⟩ : ∃ s, s = ss[q] := ⟨_, rfl⟩
                    rw [← es] at hc e1
                    rw [e1] at e2
                    have E2 : Hid ((Pt.take (q + 1 + 1)).map Value.string = (Pt.take (q + 1)).map Value.string ++ [.string s]) := e2
                    have hi : (q : Int) < (ss.length : Int) := by omega
                    have zr := Br.size
                    clear es e1 e2 P3
                    go_wp2_with (at_builtin; go_loud (refine wpList_append_lies _ rfl _ _ 22 rfl wm.heap.size 9 i9 _ 1 16 Try.underlying22 hinf hz0 hz1 hz2 rfl (by decide) (.slice aa (q + 1) ac) (q + 1) ((Pt.take (q + 1)).map Value.string) rfl (own.alloc _) ⟨wr.heap.size, 0, none⟩ 1 1 [.string s] rfl rfl (cells_new1 _ 9 #[.string s] _ rfl) (by simp [Value.oneCell']) (by decide) (by unfold maxLen; omega) (by omega) (by simp; omega) (wr.heap.size + 1) (by simp) ?_; intro g cap w2 hown2 hgrow hat hlt2))
                    rw [← E2.out] at hown2
                    have B2 : Below wm.heap.size wm w2 := (Br.alloc zr _).grown hgrow (by simp; omega) (fun q hq => (own.lt q hq).1)
                    go_wp2
                    go_roundw
                    case rel => exact ⟨q + 1, _, _, by omega, hlt, rfl, by go_num, hown2, B2⟩
                    case measure => simp [intOf]; omega
                  · have hqq : q = ss.length := by omega
                    subst hqq
                    have hi : (ss.length : Int) ≤ (ss.length : Int) := Int.le_refl _
                    clear hlt hq P3
                    have nP := NP.out
                    rw [← nP, List.take_length] at own
                    have sP := strs_of_own own
                    have sO := hs'.kept Br (Nat.le_refl _)
                    have zr := Br.size
                    have NPs : Hid (ss.length + 1 = Pt.length) := NP.out.symm
                    rw [nP] at own
                    clear nP own
                    go_wp2_with fail
                    refine (newFetches_any _ _ _ _ _).mono ?_
                    rintro e w1 ⟨rfl, m1, rfl⟩
                    go_wp2_with fail
                    refine (text_n wr.heap.size a' c' L ss.length ss rfl _ (by simp) (by simp) (by simp) (sO.kept (below_of_none (World.grownBy_alloc _ _ _)) (Nat.le_refl _)) (by omega) (by omega) (by omega) (by omega)).mono ?_
                    rintro e w1 ⟨rfl, B1⟩
                    obtain ⟨W, hW⟩ : ∃ W, W = ByteArray.mk (txt ss).toArray := ⟨_, rfl⟩
                    rw [← hW]
                    have HW : Hid (W = ByteArray.mk (txt ss).toArray) := hW
                    have C1 : Below wr.heap.size wr w1 := ((Below.refl _ wr).alloc (Nat.le_refl _) _).trans (B1.mono (by simp))
                    have s1 := sO.kept C1 (Nat.le_refl _)
                    have p1 := sP.kept C1 (Nat.le_refl _)
                    have z1 := C1.size
                    clear hW B1
                    go_wp2_with fail
                    refine (newFetches_any _ _ _ _ _).mono ?_
                    rintro e w2 ⟨rfl, m2, rfl⟩
                    go_wp2_with fail
                    refine (text_n w1.heap.size aa ac L (ss.length + 1) Pt NPs.out _ (by simp) (by simp) (by simp) (p1.kept (below_of_none (World.grownBy_alloc _ _ _)) (Nat.le_refl _)) (by omega) (by omega) (by omega) (by have := NPs.out; omega)).mono ?_
                    rintro e w2 ⟨rfl, B2⟩
                    obtain ⟨V, hV⟩ : ∃ W, W = ByteArray.mk (txt Pt).toArray := ⟨_, rfl⟩
                    rw [← hV]
                    have HV : Hid (V = ByteArray.mk (txt (put ss x j)).toArray) := (by rw [hV, HP.out] : V = ByteArray.mk (txt (put ss x j)).toArray)
                    have C2 : Below w1.heap.size w1 w2 := ((Below.refl _ w1).alloc (Nat.le_refl _) _).trans (B2.mono (by simp))
                    have s2 := s1.kept C2 (Nat.le_refl _)
                    have BB : Below w'.heap.size w' w2 := Bw.trans ((Br.mono Bw.size).trans ((C1.mono (Nat.le_trans Bw.size zr)).trans (C2.mono (Nat.le_trans Bw.size (Nat.le_trans zr z1)))))
                    clear hV B2 C1 C2 sP p1 s1 sO
                    by_cases hn0 : ss.length = 0
                    · have q1 : W = ByteArray.mk #[] := by rw [HW.out, List.length_eq_zero_iff.1 hn0]; rfl
                      have q2 : (V.toList == (ByteArray.mk #[91] ++ x ++ ByteArray.mk #[93]).toList) = true := eqb_of (put_none HV.out hn0)
                      subst q1
                      have hE : ((ss.length : Int) == 0) = true := by rw [beq_iff_eq]; omega
                      clear HW HV
                      go_wp2
                      go_ret
                      exact ⟨rfl, BB⟩
                    · have hpos : 0 < ss.length := by omega
                      have hE : ((ss.length : Int) == 0) = false := by rw [beq_eq_false_iff_ne]; omega
                      have hWz : W.size = szs ss + ss.length + 1 := by rw [HW.out]; exact txt_size ss hpos
                      have hSz : ((W.size : Int) != (szs ss : Int) + (ss.length : Int) + 1) = false := by rw [bne_eq_false_iff_eq]; omega
                      have hb1 : (W.size : Int) ≤ 4194304 := by omega
                      have hb2 : 0 < W.size := by omega
                      have hb3 : 1 ≤ (W.size : Int) := by omega
                      have HZ : Hid (W.size = szs ss + ss.length + 1) := hWz
                      clear hWz
                      by_cases hjn : j = ss.length
                      · have hjn' : ((j : Int) == (ss.length : Int)) = true := by rw [beq_iff_eq]; omega
                        have GL : Hid ((V.toList == (W.extract 0 (W.size - 1) ++ { data := #[44] } ++ x ++ { data := #[93] }).toList) = true) := eqb_of (put_last HW.out HV.out hjn hpos)
                        go_wp2
                        rw [GL.out]
                        go_ret
                        exact ⟨rfl, BB⟩
                      · have hjn' : ((j : Int) == (ss.length : Int)) = false := by rw [beq_eq_false_iff_ne]; omega
                        go_wp2_with fail
                        go_loopw [20, 21] (fun t i wx => ∃ (q : Nat), q ≤ j ∧ i = .int .i64 q ∧ t = .int .i64 (((tB (ss.take q)).length + 1 : Nat) : Int) ∧ wx = w2) (fun _ i _ => j - (intOf i).toNat)
                        case atStart => exact ⟨0, Nat.zero_le _, rfl, by simp [tB], rfl⟩
                        case round =>
                          obtain ⟨q, hq, rfl, rfl, rfl⟩ := hrel
                          have hle := tB_take_le ss q
                          by_cases hlt : q < j
                          · obtain ⟨b, off, rfl, hl, hc⟩ := s2 q (by omega)
                            have hz0 := hsm q (by omega) (by omega)
                            have e1 : (tB (ss.take (q + 1))).length = (tB (ss.take q)).length + ((ss[q]'(by omega)).size + 1) := by
                              rw [tB_szs, tB_szs, szs_take ss q (by omega), List.length_take, List.length_take]; omega
                            obtain ⟨s, es⟩ : ∃ s, s = ss[q]'(by omega) := ⟨_, rfl⟩
                            rw [← es] at hc hz0 e1
                            obtain ⟨m, hm⟩ : ∃ m, m = (tB (ss.take q)).length + 1 := ⟨_, rfl⟩
                            have e2 : Hid (m + (s.size + 1) = (tB (ss.take (q + 1))).length + 1) := (by omega : m + (s.size + 1) = (tB (ss.take (q + 1))).length + 1)
                            rw [← hm]
                            have hm2 : m ≤ 4194305 := by omega
                            have hi : (q : Int) < (j : Int) := by omega
                            have hi2 : (q : Int) < (ss.length : Int) := by omega
                            clear es e1 hm hle
                            go_wp2
                            go_roundw
                            case rel =>
                              refine ⟨q + 1, by omega, by go_num, ?_, by first | rfl | trivial⟩
                              rw [← e2.out]; go_num
                            case measure => simp [intOf]; omega
                          · have hqq : q = j := by omega
                            subst hqq
                            obtain ⟨p, hp⟩ : ∃ p, p = (tB (ss.take q)).length + 1 := ⟨_, rfl⟩
                            rw [← hp]
                            have hpW : p ≤ W.size := by have := HZ.out; have := tB_szs ss; omega
                            have hpW' : (p : Int) ≤ (W.size : Int) := by omega
                            have GL : Hid ((V.toList == (W.extract 0 p ++ x ++ { data := #[44] } ++ W.extract p W.size).toList) = true) := eqb_of (put_mid HW.out HV.out (by omega) hp)
                            have hi : (q : Int) ≤ (q : Int) := Int.le_refl _
                            clear hp hle hlt
                            go_wp2
                            go_quiet (fail)
                            rw [GL.out]
                            go_wp2
                            go_ret
                            exact ⟨rfl, BB.trans ⟨rfl, rfl, rfl, Nat.le_refl _, fun _ _ => rfl⟩⟩

end Go.Proofs.Qxb6629149a
