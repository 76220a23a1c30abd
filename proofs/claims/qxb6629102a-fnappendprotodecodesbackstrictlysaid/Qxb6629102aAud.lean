import Derived.Test.Qxb6629102aTo
namespace Go.Proofs.Qxb6629102a
open Go.RowKit
set_option linter.unusedSimpArgs false
set_option linter.unusedVariables false

theorem Try.info38 : (Try.prog.info? 38).map (fun i => (i.zero, i.size, i.bytes)) = some (some (.agg #[.string ByteArray.empty, .string ByteArray.empty, .pointer none, .pointer none, .slice none 0 0, .slice none 0 0]), 6, 96) := by kernel_rfl

theorem RegAt.wide {w : World} {lo hi lo' hi' b off : Nat} {r : Re} (h : RegAt w lo hi b off r) (h1 : lo' ≤ lo) (h2 : hi ≤ hi') : RegAt w lo' hi' b off r := by
  obtain ⟨t, u, a, ve, c0, c1, c2, c3, c4, c5, p1, p2, p3, p4⟩ := h
  exact ⟨t, u, a, ve, c0, c1, c2, c3, c4, c5, p1.wide h1 h2, p2.wide h1 h2, p3.wide h1 h2, p4.wide h1 h2⟩

theorem laid6k {wr : World} {g t n k : Nat} (x0 x1 x2 x3 x4 x5 : Value) (hr : Row wr g t n) (hn : k + 6 ≤ n) :
    Laid wr ((((((wr.setCell ⟨g, k, none⟩ x0).setCell ⟨g, k + 1, none⟩ x1).setCell ⟨g, k + 2, none⟩ x2).setCell ⟨g, k + 3, none⟩ x3).setCell ⟨g, k + 4, none⟩ x4).setCell ⟨g, k + 5, none⟩ x5) g t n k [x0, x1, x2, x3, x4, x5] :=
  Laid.mk0 [x0, x1, x2, x3, x4, x5] hr (by simpa using hn)

/-- a registration laid behind those that lie already -/
theorem reg_step {w wr w2 W : World} {g n k : Nat} {rs : List Re} {ea : Re} {t u a ve : Value} (L : Laid w2 W g 38 n (k * 6) [.string ea.key, .string ea.desc, t, u, a, ve]) (hlt : k < rs.length)
    (hat : ∀ j (h : j < rs.length), j < k → RegAt wr (g + 1) wr.heap.size g (j * 6) rs[j]) (hea : ea = rs[k]) (hgr : w.grownBy wr none) (hg2 : wr.grownBy w2 none) (hg : w.heap.size ≤ g) (hgl : g < wr.heap.size)
    (p1 : PtrIn w2 wr.heap.size w2.heap.size t ea.tenant) (p2 : PtrIn w2 wr.heap.size w2.heap.size u ea.user) (p3 : AttrsIn w2 wr.heap.size w2.heap.size a ea.attrs) (p4 : VerIn w2 wr.heap.size w2.heap.size ve ea.ver) :
    Row W g 38 n ∧ (∀ j (h : j < rs.length), j < k + 1 → RegAt W (g + 1) W.heap.size g (j * 6) rs[j]) ∧ w.grownBy W none := by
  refine ⟨L.row, ?_, none_of_some (none_trans hgr hg2) L.grown hg⟩
  have z2 := hg2.size
  have zW := L.grown.size
  have S1 : Same wr.heap.size w2.heap.size w2 W := Same.of_grownS L.grown hgl (Nat.le_refl _)
  have S2 : Same (g + 1) wr.heap.size w2 W := Same.of_grownS L.grown (by omega) (by omega)
  have S3 : Same (g + 1) wr.heap.size wr w2 := Same.of_grown hg2 (Nat.le_refl _)
  intro j h hj
  by_cases e : j = k
  · subst e
    rw [← hea]
    refine ⟨t, u, a, ve, L.new 0 (by simp), L.new 1 (by simp), L.new 2 (by simp), L.new 3 (by simp), L.new 4 (by simp), L.new 5 (by simp), ?_, ?_, ?_, ?_⟩
    · exact (S1.ptrIn p1).wide (by omega) zW
    · exact (S1.ptrIn p2).wide (by omega) zW
    · exact (S1.attrsIn p3).wide (by omega) zW
    · exact (S1.verIn p4).wide (by omega) zW
  · obtain ⟨t', u', a', ve', c0, c1, c2, c3, c4, c5, p1, p2, p3, p4⟩ := hat j h (by omega)
    have cc : ∀ x v, wr.cell? ⟨g, x, none⟩ = some v → x < k * 6 → W.cell? ⟨g, x, none⟩ = some v := fun x v hv hx => L.old _ _ _ (hg2.cell hv (by simp)) (.inr hx)
    exact ⟨t', u', a', ve', cc _ _ c0 (by omega), cc _ _ c1 (by omega), cc _ _ c2 (by omega), cc _ _ c3 (by omega), cc _ _ c4 (by omega), cc _ _ c5 (by omega),
      (S2.ptrIn (S3.ptrIn p1)).wide (Nat.le_refl _) (by omega), (S2.ptrIn (S3.ptrIn p2)).wide (Nat.le_refl _) (by omega), (S2.attrsIn (S3.attrsIn p3)).wide (Nat.le_refl _) (by omega), (S2.verIn (S3.verIn p4)).wide (Nat.le_refl _) (by omega)⟩

set_option maxHeartbeats 1000000 in
theorem toAudit_any (lo hi : Nat) (rs : List Re) (lv : Value) (w : World) (hl : RegsIn w lo hi lv rs) (hhi : hi ≤ w.heap.size) (hlen : rs.length ≤ 1048576)
    (hok : ∀ r ∈ rs, (∀ bs, r.ver = some bs → bs.length ≤ 1048576) ∧ r.attrs.length ≤ 1048576) :
    Calls Try.prog 8 #[lv] w fun e w' => ∃ a' c', e = .returned (.slice a' rs.length c') ∧ RegsIn w' w.heap.size w'.heap.size (.slice a' rs.length c') rs ∧ w.grownBy w' none := by
  rcases hl with ⟨rfl, rfl⟩ | ⟨b, off, sp, c, rfl, l1, hc⟩
  · have hn := fun (wx : World) => Lib.run_eql_slice_nil (P := Try.prog) wx 22 43 none 0 0 0 0 Try.underlying22
    go_enter Try.func8, Try.ntmps8
    go_wp2
    go_ret
    exact ⟨_, _, rfl, .inl ⟨rfl, rfl⟩, World.grownBy.refl _ _⟩
  · have hn := fun (wx : World) => Lib.run_eql_slice_nil (P := Try.prog) wx 22 43 (some ⟨b, off, sp⟩) rs.length c 0 0 Try.underlying22
    obtain ⟨i0, hinf, hz0, hz1, hz2⟩ := info_parts Try.info38
    go_enter Try.func8, Try.ntmps8
    go_wp2_with (at_make; go_loud (refine wpList_make_full _ rfl _ _ 27 rfl w.heap.size 38 i0 _ 6 Try.underlying27 hinf hz0 hz1 _ _ _ _ rs.length rfl rfl rfl rfl (by rw [hz2]; omega) (by unfold maxLen; omega) (by omega) ?_; intro w1 hown hgrow))
    have hrow := Row.of_own hown
    clear hown
    go_wp2
    go_loopw [4] (fun i wr => ∃ k : Nat, k ≤ rs.length ∧ i = .int .i64 k ∧ Row wr w.heap.size 38 (rs.length * 6) ∧ (∀ j (h : j < rs.length), j < k → RegAt wr (w.heap.size + 1) wr.heap.size w.heap.size (j * 6) rs[j]) ∧ w.grownBy wr none) (fun i _ => rs.length - (intOf i).toNat)
    case atStart => exact ⟨0, Nat.zero_le _, rfl, hrow, fun j h hj => absurd hj (Nat.not_lt_zero _), hgrow⟩
    case round =>
      obtain ⟨k, hk, rfl, rw_, hat, hgr⟩ := hrel
      clear hrow hgrow
      by_cases hlt : k < rs.length
      · obtain ⟨rfl, l1, l2⟩ := l1 (by omega)
        have S := Same.of_grown (lo := lo) hgr hhi
        have hr := S.regAt l1 l2 (hc k hlt)
        obtain ⟨ka1, ka2⟩ := hok rs[k] (List.getElem_mem hlt)
        obtain ⟨ea, hea⟩ : ∃ ea, ea = rs[k] := ⟨_, rfl⟩
        rw [← hea] at hr ka1 ka2
        have HEA : Hid (ea = rs[k]) := hea
        have zr := hgr.size
        have gl := rw_.lt
        obtain ⟨t, u, a, ve, c0, c1, c2, c3, c4, c5, p1, p2, p3, p4⟩ := hr
        clear hea hc S hok
        go_wp2_with fail
        refine (toReg_any lo hi ea _ _ _ _ _ p1 p2 p3 p4 (by omega) ka1 ka2).mono ?_
        rintro e w2 ⟨t', u', a', ve', rfl, d1, d2, d3, d4, g2⟩
        obtain ⟨pt, hpt⟩ := d1.form
        obtain ⟨pu, hpu⟩ := d2.form
        obtain ⟨aa, an, ac, haa⟩ := d3.form
        obtain ⟨va, vn, vc, hva⟩ := d4.form
        rw [hpt, hpu, haa, hva]
        rw [hpt] at d1
        rw [hpu] at d2
        rw [haa] at d3
        rw [hva] at d4
        clear hpt hpu haa hva t' u' a' ve' c0 c1 c2 c3 c4 c5 p1 p2 p3 p4
        have rw2 := rw_.kept g2 (by simp)
        obtain ⟨y0, r0⟩ := rw2.cell (k * 6) (by omega)
        obtain ⟨y1, r1⟩ := rw2.cell (k * 6 + 1) (by omega)
        obtain ⟨y2, r2⟩ := rw2.cell (k * 6 + 2) (by omega)
        obtain ⟨y3, r3⟩ := rw2.cell (k * 6 + 3) (by omega)
        obtain ⟨y4, r4⟩ := rw2.cell (k * 6 + 4) (by omega)
        obtain ⟨y5, r5⟩ := rw2.cell (k * 6 + 5) (by omega)
        have z0 := rw2.frozen (k * 6)
        have z1 := rw2.frozen (k * 6 + 1)
        have z2 := rw2.frozen (k * 6 + 2)
        have z3 := rw2.frozen (k * 6 + 3)
        have z4 := rw2.frozen (k * 6 + 4)
        have z5 := rw2.frozen (k * 6 + 5)
        have L := laid6k (k := k * 6) (.string ea.key) (.string ea.desc) (.pointer pt) (.pointer pu) (.slice aa an ac) (.slice va vn vc) rw2 (by omega)
        obtain ⟨R1, R2, R3⟩ := reg_step L hlt hat HEA.out hgr g2 (Nat.le_refl _) gl d1 d2 d3 d4
        clear L hat
        go_wp2
        go_roundw
        case rel => exact ⟨k + 1, by omega, by go_num, R1, R2, R3⟩
        case measure => simp [intOf]; omega
      · have hkk : k = rs.length := by omega
        subst hkk
        clear hc hlt
        go_wp2
        go_ret
        exact ⟨_, _, rfl, .inr ⟨w.heap.size, 0, _, _, rfl, fun _ => ⟨rfl, Nat.le_refl _, rw_.lt⟩, fun j hj => by rw [Nat.zero_add]; exact (hat j hj hj).wide (by omega) (Nat.le_refl _)⟩, hgr⟩

end Go.Proofs.Qxb6629102a
