import Derived.Test.Qxb6629102aLaw4
namespace Go.Proofs.Qxb6629102a
open Go.RowKit
set_option linter.unusedSimpArgs false
set_option linter.unusedVariables false

theorem RegsIn.wide {w : World} {lo hi lo' hi' : Nat} {v : Value} {rs : List Re} (h : RegsIn w lo hi v rs) (h1 : lo' ≤ lo) (h2 : hi ≤ hi') : RegsIn w lo' hi' v rs := by
  rcases h with h | ⟨b, off, sp, c, a1, a2, a3⟩
  · exact .inl h
  · exact .inr ⟨b, off, sp, c, a1, fun h => ⟨(a2 h).1, by have := a2 h; omega⟩, fun i hi => (a3 i hi).wide h1 h2⟩
theorem OB.keptN {base : Nat} {w w' : World} {v : Value} {bs : List UInt8} (h : OB base w v bs) (hg : w.grownBy w' none) : OB base w' v bs := h.kept hg (by cases v.ownBlock <;> simp)
theorem OB.ge {base : Nat} {w : World} {v : Value} {bs : List UInt8} (h : OB base w v bs) : ∀ g, v.ownBlock = some g → base ≤ g := fun g e => (World.ownsRow.lt h g e).1
theorem OB.far {base : Nat} {w w' : World} {v : Value} {bs : List UInt8} {row : Option Nat} (h : OB base w v bs) (hg : w.grownBy w' row) (hne : ∀ g, v.ownBlock = some g → row ≠ some g) : OB base w' v bs := by
  refine h.kept hg ?_
  cases e : v.ownBlock with
  | none => exact .inl rfl
  | some g => exact .inr (Ne.symm (hne g e))
theorem OB.rb {base : Nat} {w : World} {v : Value} {bs : List UInt8} (h : OB base w v bs) : ∃ a c, v = .slice a bs.length c ∧ ∀ j, j < bs.length → ∃ b off, a = some ⟨b, off, none⟩ ∧ At w b off bs := by
  rcases h.form with ⟨h1, h2⟩ | ⟨g, cap, h1, h2, h3, h4, h5⟩
  · subst h2; exact ⟨_, _, h1, fun j hj => absurd hj (Nat.not_lt_zero _)⟩
  · exact ⟨_, _, h1, fun j _ => ⟨g, 0, rfl, h5⟩⟩
theorem At.take {w : World} {b off : Nat} {p : List UInt8} (h : At w b off p) (n : Nat) : At w b off (p.take n) := by
  intro j hj
  rw [List.length_take] at hj
  rw [h j (by omega)]
  simp only [List.getD_eq_getElem?_getD, List.getElem?_take]
  rw [if_pos (by omega)]
theorem At.drop {w : World} {b off : Nat} {p : List UInt8} (h : At w b off p) (n : Nat) : At w b (off + n) (p.drop n) := by
  intro j hj
  rw [List.length_drop] at hj
  rw [Nat.add_assoc, h (n + j) (by omega)]
  simp only [List.getD_eq_getElem?_getD, List.getElem?_drop]
theorem regsEnc_frames (all : List Re) : regsEnc all = frames (all.map Re.enc) := by
  unfold regsEnc frames
  rw [List.map_map]; rfl
theorem countR (w : World) (b off c : Nat) (all : List Re) (hat : At w b off (regsEnc all)) (hl : (regsEnc all).length < 4194304) :
    Calls Try.prog 14 #[.slice (some ⟨b, off, none⟩) (regsEnc all).length c] w fun e w' => e = .returned (.int .i64 (all.length : Int)) ∧ w = w' := by
  rw [regsEnc_frames] at hat hl ⊢
  have h := countD w b off c (all.map Re.enc) hat (by omega)
  rw [List.length_map] at h
  exact h
theorem below_drewN (B : Nat) (w : World) (n : Nat) : Below B w (w.drewN n) := ⟨rfl, rfl, rfl, Nat.le_refl _, fun _ _ => rfl⟩
theorem regsTot_append (a b : List Re) : regsTot (a ++ b) = regsTot a + regsTot b := by
  induction a with
  | nil => simp [regsTot]
  | cons x l ih => simp only [List.cons_append, regsTot]; rw [ih]; omega
theorem below_of_none {w w' : World} (h : w.grownBy w' none) : Below w.heap.size w w' := ⟨h.os, h.tape, h.output, h.size, fun k hk => h.block k hk (by simp)⟩

/-- a registration's cells copied into the row of all -/
theorem reg_copy {w7 wr W : World} {g n m lo hi : Nat} {all : List Re} {ea : Re} {t u a ve : Value} (L : Laid wr W g 38 n (m * 6) [.string ea.key, .string ea.desc, t, u, a, ve]) (hm : m < all.length)
    (hat : ∀ j (h : j < all.length), j < m → RegAt wr lo hi g (j * 6) all[j]) (hea : ea = all[m]) (hgr : w7.grownBy wr none) (hg : w7.heap.size ≤ g) (hhi : hi ≤ w7.heap.size)
    (p1 : PtrIn wr lo hi t ea.tenant) (p2 : PtrIn wr lo hi u ea.user) (p3 : AttrsIn wr lo hi a ea.attrs) (p4 : VerIn wr lo hi ve ea.ver) :
    Row W g 38 n ∧ (∀ j (h : j < all.length), j < m + 1 → RegAt W lo hi g (j * 6) all[j]) ∧ w7.grownBy W none := by
  refine ⟨L.row, ?_, none_of_some hgr L.grown hg⟩
  have zr := hgr.size
  have S : Same lo hi wr W := fun k h1 h2 => L.grown.block k (by omega) (by intro e; injection e; omega)
  intro j h hj
  by_cases e : j = m
  · subst e
    rw [← hea]
    exact ⟨t, u, a, ve, L.new 0 (by simp), L.new 1 (by simp), L.new 2 (by simp), L.new 3 (by simp), L.new 4 (by simp), L.new 5 (by simp), S.ptrIn p1, S.ptrIn p2, S.attrsIn p3, S.verIn p4⟩
  · obtain ⟨t', u', a', ve', c0, c1, c2, c3, c4, c5, p1, p2, p3, p4⟩ := hat j h (by omega)
    have cc : ∀ x v, wr.cell? ⟨g, x, none⟩ = some v → x < m * 6 → W.cell? ⟨g, x, none⟩ = some v := fun x v hv hx => L.old _ _ _ hv (.inr hx)
    exact ⟨t', u', a', ve', cc _ _ c0 (by omega), cc _ _ c1 (by omega), cc _ _ c2 (by omega), cc _ _ c3 (by omega), cc _ _ c4 (by omega), cc _ _ c5 (by omega), S.ptrIn p1, S.ptrIn p2, S.attrsIn p3, S.verIn p4⟩

set_option maxHeartbeats 2000000 in
set_option maxRecDepth 100000 in
theorem law4_any (lo hi : Nat) (rs1 rs2 : List Re) (lv1 lv2 : Value) (ba : Option Addr) (bn bc : Nat) (o : Option (List UInt8)) (w : World) (hl1 : RegsIn w lo hi lv1 rs1) (hl2 : RegsIn w lo hi lv2 rs2) (hb : VerIn w lo hi (.slice ba bn bc) o) (hhi : hi ≤ w.heap.size)
    (wf1 : ∀ r ∈ rs1, r.wf) (wf2 : ∀ r ∈ rs2, r.wf) (hbn : bn ≤ maxLen) (hg : Calls Try.prog 13 #[lv1, lv2, .slice ba bn bc] w fun e w' => SomeBool e ∧ w' = w) :
    Calls Try.prog 4 #[lv1, lv2, .slice ba bn bc] w fun e w' => e = .returned (.bool true) ∧ Below w.heap.size w w' := by
  obtain ⟨la1, lc1, rfl⟩ := hl1.form
  obtain ⟨la2, lc2, rfl⟩ := hl2.form
  have hbl := verLen hb
  have eb : verTot o = ((o.getD []).length : Int) := by cases o <;> rfl
  unfold maxLen at hbn
  obtain ⟨bs, hbs⟩ : ∃ bs : List UInt8, bs = o.getD [] := ⟨_, rfl⟩
  have hbb : bn = bs.length := by rw [hbs]; omega
  subst hbb
  have HBS : Hid (bs = o.getD []) := hbs
  clear hbl eb hbs
  go_enter Try.func4, Try.ntmps4
  go_wp2_with fail
  refine hg.mono ?_
  rintro e w' ⟨⟨bb, rfl⟩, rfl⟩
  clear hg
  cases bb with
  | false =>
    go_wp2
    go_ret
    exact ⟨rfl, Below.refl _ _⟩
  | true =>
  by_cases hbig : (1048576 : Int) < (bs.length : Int)
  · go_wp2
    go_ret
    exact ⟨rfl, Below.refl _ _⟩
  go_wp2_with fail
  refine (zzAcc_any lo hi rs1 _ _ (bs.length : Int) _ hl1 hhi (by unfold okN; omega)).mono ?_
  rintro e w1 ⟨m1, rfl, k1, g1⟩
  have hl2' := (Same.of_grown (lo := lo) g1 hhi).regsIn hl2
  go_wp2_with fail
  refine (zzAcc_any lo hi rs2 _ _ _ _ hl2' (Nat.le_trans hhi g1.size) k1).mono ?_
  rintro e w2 ⟨m2, rfl, k2, g2⟩
  clear hl2' k1
  have G2 := none_trans g1 g2
  clear g1 g2
  have hm0 := k2.1
  have hm1 := k2.2.1
  by_cases hbig2 : 1048576 < m2
  · go_wp2
    go_ret
    exact ⟨rfl, below_of_none G2⟩
  have hm2 := k2.2.2 (by omega)
  have t1 := regsTot_nonneg rs1
  have t2 := regsTot_nonneg rs2
  have htot : (bs.length : Int) + regsTot rs1 + regsTot rs2 ≤ 1048576 := by omega
  clear k2 hm2 hm0 hm1
  have S2 := Same.of_grown (lo := lo) G2 hhi
  replace hl1 := S2.regsIn hl1
  replace hl2 := S2.regsIn hl2
  replace hb := S2.verIn hb
  have z2 := G2.size
  clear S2
  have hbl : (o.getD []).length ≤ 1048576 := by rw [← HBS.out]; omega
  go_wp2_with fail
  refine (cloneB_any lo hi _ o _ hb hbl).mono ?_
  rintro e w3 ⟨v3, rfl, o3, g3⟩
  rw [← HBS.out] at o3
  have S3 := Same.of_grown (lo := lo) g3 (Nat.le_trans hhi z2)
  replace hl1 := S3.regsIn hl1
  replace hl2 := S3.regsIn hl2
  replace hb := S3.verIn hb
  have z3 := g3.size
  have G3 := none_trans G2 g3
  clear S3
  go_wp2_with fail
  refine (cloneB_any lo hi _ o _ hb hbl).mono ?_
  rintro e w4 ⟨v4, rfl, o4, g4⟩
  rw [← HBS.out] at o4
  have S4 := Same.of_grown (lo := lo) (hi := hi) g4 (by omega)
  replace hl1 := S4.regsIn hl1
  replace hl2 := S4.regsIn hl2
  replace hb := S4.verIn hb
  have z4 := g4.size
  have G4 := none_trans G3 g4
  clear S4
  go_wp2_with fail
  refine (cloneB_any lo hi _ o _ hb hbl).mono ?_
  rintro e w5 ⟨v5, rfl, o5, g5⟩
  rw [← HBS.out] at o5
  have S5 := Same.of_grown (lo := lo) (hi := hi) g5 (by omega)
  replace hl1 := S5.regsIn hl1
  replace hl2 := S5.regsIn hl2
  have z5 := g5.size
  have G5 := none_trans G4 g5
  clear S5 hb hbl
  have tl1 := regsTot_len rs1
  have tl2 := regsTot_len rs2
  go_wp2_with fail
  refine (toAudit_any lo hi rs1 _ _ hl1 (by omega) (by omega) (fun r hr => r.small (by have := regsTot_mem rs1 r hr; omega))).mono ?_
  rintro e w6 ⟨a6, c6, rfl, r6, g6⟩
  have S6 := Same.of_grown (lo := lo) (hi := hi) g6 (by omega)
  replace hl2 := S6.regsIn hl2
  have z6 := g6.size
  clear hl1 S6
  go_wp2_with fail
  refine (toAudit_any lo hi rs2 _ _ hl2 (by omega) (by omega) (fun r hr => r.small (by have := regsTot_mem rs2 r hr; omega))).mono ?_
  rintro e w7 ⟨a7, c7, rfl, r7, g7⟩
  have z7 := g7.size
  have r67 := (Same.of_grown (lo := w5.heap.size) g7 (Nat.le_refl _)).regsIn r6
  clear hl2 r6
  obtain ⟨i0, hinf, hz0, hz1, hz2⟩ := info_parts Try.info38
  have r77 := r7.wide (lo' := w5.heap.size) (hi' := w7.heap.size) (by omega) (Nat.le_refl _)
  have r66 := r67.wide (lo' := w5.heap.size) (hi' := w7.heap.size) (Nat.le_refl _) (by omega)
  clear r7 r67
  go_wp2_with (at_make; go_loud (refine wpList_make_full _ rfl _ _ 27 rfl w7.heap.size 38 i0 _ 6 Try.underlying27 hinf hz0 hz1 _ _ _ _ (rs1.length + rs2.length) rfl rfl (by omega) (by omega) (by rw [hz2]; omega) (by unfold maxLen; omega) (by omega) ?_; intro w8 hown8 hgrow8))
  have hrow := Row.of_own hown8
  clear hown8
  obtain ⟨all, hall⟩ : ∃ all : List Re, all = rs1 ++ rs2 := ⟨_, rfl⟩
  have HALL : Hid (all = rs1 ++ rs2) := hall
  have lall : all.length = rs1.length + rs2.length := by rw [hall]; simp
  have LALL : Hid (all.length = rs1.length + rs2.length) := lall
  clear hall lall
  go_wp2
  go_loopw [14] (fun i wr => ∃ k : Nat, k ≤ rs1.length ∧ i = .int .i64 k ∧ Row wr w7.heap.size 38 ((rs1.length + rs2.length) * 6) ∧ (∀ j (h : j < all.length), j < k → RegAt wr w5.heap.size w7.heap.size w7.heap.size (j * 6) all[j]) ∧ w7.grownBy wr none) (fun i _ => rs1.length - (intOf i).toNat)
  case atStart => exact ⟨0, Nat.zero_le _, rfl, hrow, fun j h hj => absurd hj (Nat.not_lt_zero _), hgrow8⟩
  case round =>
    obtain ⟨k, hk, rfl, rw_, hat, hgr⟩ := hrel
    clear hrow hgrow8
    by_cases hlt : k < rs1.length
    · have S := Same.of_grown (lo := w5.heap.size) hgr (Nat.le_refl _)
      rcases r66 with ⟨e1, e2⟩ | ⟨b, off, sp, c, e1, l1, hc⟩
      · subst e2; simp at hlt
      injection e1 with e1 _ e3
      subst e1; subst e3
      obtain ⟨rfl, l1, l2⟩ := l1 (by omega)
      have hr := S.regAt l1 l2 (hc k hlt)
      have hm : k < all.length := by rw [LALL.out]; omega
      have hea : rs1[k] = all[k] := by simp only [HALL.out]; rw [List.getElem_append_left hlt]
      obtain ⟨ea, hE⟩ : ∃ ea, ea = rs1[k] := ⟨_, rfl⟩
      rw [← hE] at hr hea
      have HEA : Hid (ea = all[k]) := hea
      clear hea hE hc S
      have zr := hgr.size
      have gl := rw_.lt
      obtain ⟨t, u, a, ve, c0, c1, c2, c3, c4, c5, p1, p2, p3, p4⟩ := hr
      obtain ⟨pt, rfl⟩ := p1.form
      obtain ⟨pu, rfl⟩ := p2.form
      obtain ⟨aa, an, ac, rfl⟩ := p3.form
      obtain ⟨va, vn, vc, rfl⟩ := p4.form
      obtain ⟨y0, r0⟩ := rw_.cell (k * 6) (by omega)
      obtain ⟨y1, r1⟩ := rw_.cell (k * 6 + 1) (by omega)
      obtain ⟨y2, r2⟩ := rw_.cell (k * 6 + 2) (by omega)
      obtain ⟨y3, r3⟩ := rw_.cell (k * 6 + 3) (by omega)
      obtain ⟨y4, r4⟩ := rw_.cell (k * 6 + 4) (by omega)
      obtain ⟨y5, r5⟩ := rw_.cell (k * 6 + 5) (by omega)
      have f0 := rw_.frozen (k * 6)
      have f1 := rw_.frozen (k * 6 + 1)
      have f2 := rw_.frozen (k * 6 + 2)
      have f3 := rw_.frozen (k * 6 + 3)
      have f4 := rw_.frozen (k * 6 + 4)
      have f5 := rw_.frozen (k * 6 + 5)
      have L := laid6k (k := k * 6) (.string ea.key) (.string ea.desc) (.pointer pt) (.pointer pu) (.slice aa an ac) (.slice va vn vc) rw_ (by omega)
      obtain ⟨R1, R2, R3⟩ := reg_copy L hm hat HEA.out hgr (Nat.le_refl _) (Nat.le_refl _) p1 p2 p3 p4
      clear L hat p1 p2 p3 p4 r77
      go_wp2
      go_roundw
      case rel => exact ⟨k + 1, by omega, by go_num, R1, R2, R3⟩
      case measure => simp [intOf]; omega
    · have hkk : k = rs1.length := by omega
      subst hkk
      clear hlt hk
      go_wp2
      go_loopw [15] (fun i wr => ∃ k : Nat, k ≤ rs2.length ∧ i = .int .i64 k ∧ Row wr w7.heap.size 38 ((rs1.length + rs2.length) * 6) ∧ (∀ j (h : j < all.length), j < rs1.length + k → RegAt wr w5.heap.size w7.heap.size w7.heap.size (j * 6) all[j]) ∧ w7.grownBy wr none) (fun i _ => rs2.length - (intOf i).toNat)
      case atStart => exact ⟨0, Nat.zero_le _, rfl, rw_, hat, hgr⟩
      case round =>
        clear rw_ hat hgr
        obtain ⟨k, hk, rfl, rw_, hat, hgr⟩ := hrel
        by_cases hlt : k < rs2.length
        · have S := Same.of_grown (lo := w5.heap.size) hgr (Nat.le_refl _)
          rcases r77 with ⟨e1, e2⟩ | ⟨b, off, sp, c, e1, l1, hc⟩
          · subst e2; simp at hlt
          injection e1 with e1 _ e3
          subst e1; subst e3
          obtain ⟨rfl, l1, l2⟩ := l1 (by omega)
          have hr := S.regAt l1 l2 (hc k hlt)
          have hm : rs1.length + k < all.length := by rw [LALL.out]; omega
          have hea : rs2[k] = all[rs1.length + k] := by simp only [HALL.out]; rw [List.getElem_append_right (by omega)]; simp
          obtain ⟨ea, hE⟩ : ∃ ea, ea = rs2[k] := ⟨_, rfl⟩
          rw [← hE] at hr hea
          have HEA : Hid (ea = all[rs1.length + k]) := hea
          clear hea hE hc S
          have zr := hgr.size
          have gl := rw_.lt
          obtain ⟨t, u, a, ve, c0, c1, c2, c3, c4, c5, p1, p2, p3, p4⟩ := hr
          obtain ⟨pt, rfl⟩ := p1.form
          obtain ⟨pu, rfl⟩ := p2.form
          obtain ⟨aa, an, ac, rfl⟩ := p3.form
          obtain ⟨va, vn, vc, rfl⟩ := p4.form
          obtain ⟨y0, r0⟩ := rw_.cell ((rs1.length + k) * 6) (by omega)
          obtain ⟨y1, r1⟩ := rw_.cell ((rs1.length + k) * 6 + 1) (by omega)
          obtain ⟨y2, r2⟩ := rw_.cell ((rs1.length + k) * 6 + 2) (by omega)
          obtain ⟨y3, r3⟩ := rw_.cell ((rs1.length + k) * 6 + 3) (by omega)
          obtain ⟨y4, r4⟩ := rw_.cell ((rs1.length + k) * 6 + 4) (by omega)
          obtain ⟨y5, r5⟩ := rw_.cell ((rs1.length + k) * 6 + 5) (by omega)
          have f0 := rw_.frozen ((rs1.length + k) * 6)
          have f1 := rw_.frozen ((rs1.length + k) * 6 + 1)
          have f2 := rw_.frozen ((rs1.length + k) * 6 + 2)
          have f3 := rw_.frozen ((rs1.length + k) * 6 + 3)
          have f4 := rw_.frozen ((rs1.length + k) * 6 + 4)
          have f5 := rw_.frozen ((rs1.length + k) * 6 + 5)
          have L := laid6k (k := (rs1.length + k) * 6) (.string ea.key) (.string ea.desc) (.pointer pt) (.pointer pu) (.slice aa an ac) (.slice va vn vc) rw_ (by omega)
          obtain ⟨R1, R2, R3⟩ := reg_copy L hm hat HEA.out hgr (Nat.le_refl _) (Nat.le_refl _) p1 p2 p3 p4
          clear L hat p1 p2 p3 p4 r66
          go_wp2
          go_roundw
          case rel => exact ⟨k + 1, by omega, by go_num, R1, R2, R3⟩
          case measure => simp [intOf]; omega
        · have hkk : k = rs2.length := by omega
          subst hkk
          clear hlt hk
          have rA : RegsIn wr w5.heap.size wr.heap.size (.slice (some ⟨w7.heap.size, 0, none⟩) (rs1.length + rs2.length) (rs1.length + rs2.length)) all :=
            .inr ⟨w7.heap.size, 0, _, _, by rw [LALL.out], fun _ => ⟨rfl, by omega, rw_.lt⟩, fun j hj => by rw [Nat.zero_add]; exact (hat j hj (by have := LALL.out; omega)).wide (Nat.le_refl _) hgr.size⟩
          have rc1 := (Same.of_grown (lo := w5.heap.size) hgr (Nat.le_refl _)).regsIn r66
          have rc2 := (Same.of_grown (lo := w5.heap.size) hgr (Nat.le_refl _)).regsIn r77
          have G9 := none_trans G5 (none_trans g6 (none_trans g7 hgr))
          have z9 := hgr.size
          have l3 := o3.lt
          have l4 := o4.lt
          have l5 := o5.lt
          have P3 := o3.ge
          have P4 := o4.ge
          have P5 := o5.ge
          replace o3 := ((((((o3.keptN g4).keptN g5).keptN g6).keptN g7).keptN hgr))
          replace o4 := ((((o4.keptN g5).keptN g6).keptN g7).keptN hgr)
          replace o5 := (((o5.keptN g6).keptN g7).keptN hgr)
          clear g3 g4 g5 g6 g7 hgr rw_ hat r66 r77 G2 G3 G4 G5 hinf hz0 hz1 hz2
          have eA := regsEnc_tot all
          have e1 := regsEnc_tot rs1
          have e2 := regsEnc_tot rs2
          have eAll : regsEnc all = regsEnc rs1 ++ regsEnc rs2 := by rw [HALL.out]; exact regsEnc_append _ _
          have tA : regsTot all = regsTot rs1 + regsTot rs2 := by rw [HALL.out]; exact regsTot_append _ _
          rw [tA] at eA
          have EALL : Hid (regsEnc all = regsEnc rs1 ++ regsEnc rs2) := eAll
          have ok1 : ∀ r ∈ rs1, r.ok := fun r hr => r.ok_of (wf1 r hr) (by have := regsTot_mem rs1 r hr; omega)
          have ok2 : ∀ r ∈ rs2, r.ok := fun r hr => r.ok_of (wf2 r hr) (by have := regsTot_mem rs2 r hr; omega)
          have okA : ∀ r ∈ all, r.ok := by
            rw [HALL.out]; intro r hr
            rcases List.mem_append.1 hr with h | h
            · exact ok1 r h
            · exact ok2 r h
          clear eAll tA
          go_wp2_with fail
          refine (appendProto_any w5.heap.size wr.heap.size w3.heap.size all _ _ bs _ rA (Nat.le_refl _) okA o4 (by omega) (fun g e => by have := l4 g e; omega) (by omega)).mono ?_
          rintro e w10 ⟨v10, rfl, o10, A10⟩
          have out4 : Out w5.heap.size w7.heap.size v4 := fun g e => by have := l4 g e; omega
          have out5 : Out w5.heap.size w7.heap.size v5 := fun g e => by have := l5 g e; omega
          have S10 := A10.same out4 (by omega)
          replace rc1 := S10.regsIn rc1
          replace rc2 := S10.regsIn rc2
          have z10 := A10.grown.size
          replace o5 := o5.far A10.grown (fun g e e' => by have := P5 g e; have := l4 g e'; omega)
          replace o3 := o3.far A10.grown (fun g e e' => by have := l3 g e; have := P4 g e'; omega)
          have v10ne : ∀ g, v10.ownBlock = some g → (w3.heap.size ≤ g ∧ g < w4.heap.size) ∨ wr.heap.size ≤ g := by
            intro g e
            rcases A10.lies with e2 | ⟨g2, e2, hg⟩
            · rw [e2] at e; exact .inl ⟨P4 g e, l4 g e⟩
            · rw [e2] at e; cases e; exact .inr hg
          have l10 := o10.lt
          clear S10 rA o4 okA
          go_wp2_with fail
          refine (appendProto_any w5.heap.size w7.heap.size w4.heap.size rs1 _ _ bs _ rc1 (by omega) ok1 o5 (by omega) out5 (by omega)).mono ?_
          rintro e w11 ⟨v11, rfl, o11, A11⟩
          have S11 := A11.same out5 (by omega)
          replace rc2 := S11.regsIn rc2
          have z11 := A11.grown.size
          have out11 := A11.out out5 (by omega)
          replace o3 := o3.far A11.grown (fun g e e' => by have := l3 g e; have := P5 g e'; omega)
          replace o10 := o10.far A11.grown (fun g e e' => by have := v10ne g e; have := P5 g e'; have := l5 g e'; omega)
          have v11ne : ∀ g, v11.ownBlock = some g → (w4.heap.size ≤ g ∧ g < w5.heap.size) ∨ w10.heap.size ≤ g := by
            intro g e
            rcases A11.lies with e2 | ⟨g2, e2, hg⟩
            · rw [e2] at e; exact .inl ⟨P5 g e, l5 g e⟩
            · rw [e2] at e; cases e; exact .inr hg
          clear S11 rc1 o5 ok1
          go_wp2_with fail
          refine (appendProto_any w5.heap.size w7.heap.size w4.heap.size rs2 _ _ _ _ rc2 (by omega) ok2 o11 (by omega) out11 (by simp; omega)).mono ?_
          rintro e w12 ⟨v12, rfl, o12, A12⟩
          have z12 := A12.grown.size
          replace o3 := o3.far A12.grown (fun g e e' => by have := l3 g e; have := v11ne g e'; omega)
          replace o10 := o10.far A12.grown (fun g e e' => by have := v10ne g e; have := v11ne g e'; have := l10 g e; omega)
          obtain ⟨wb, hwb⟩ : ∃ wb : List UInt8, wb = bs ++ regsEnc all := ⟨_, rfl⟩
          have hst : bs ++ regsEnc rs1 ++ regsEnc rs2 = wb := by rw [hwb, EALL.out, List.append_assoc]
          rw [hst] at o12
          rw [← hwb] at o10
          have lwb : wb.length < 4194304 := by rw [hwb]; simp; omega
          have HWB : Hid (wb = bs ++ regsEnc all) := hwb
          clear hst hwb o11 rc2 ok2
          have hG : w'.grownBy w12 none := ⟨A12.grown.os.trans (A11.grown.os.trans (A10.grown.os.trans G9.os)), A12.grown.tape.trans (A11.grown.tape.trans (A10.grown.tape.trans G9.tape)), A12.grown.output.trans (A11.grown.output.trans (A10.grown.output.trans G9.output)), by omega, fun i hi _ => by
            rw [A12.grown.block i (by omega) (fun e => by have := v11ne i e.symm; omega), A11.grown.block i (by omega) (fun e => by have := P5 i e.symm; omega), A10.grown.block i (by omega) (fun e => by have := P4 i e.symm; omega), G9.block i hi (by simp)]⟩
          clear A10 A11 A12 G9 out4 out5 out11 v10ne v11ne l10
          obtain ⟨a12, c12, rfl, hr12⟩ := o12.rb
          obtain ⟨a3, c3, rfl, hr3⟩ := o3.rb
          have hbT : beqB wb wb = true := by simp [beqB]
          have hbB : beqB bs bs = true := by simp [beqB]
          have HT : Hid (beqB wb wb = true) := hbT
          have HBB : Hid (beqB bs bs = true) := hbB
          clear hbT hbB
          have hgA := regsEnc_ge all
          rcases o10.form with ⟨hv, hwn⟩ | ⟨g, cap, hv, hcap, hb1, hb2, hAt⟩
          · subst hv
            have hb0 : bs = [] := by
              have h := HWB.out; rw [hwn] at h
              exact (List.append_eq_nil_iff.1 h.symm).1
            have hr0 : regsEnc all = [] := by
              have h := HWB.out; rw [hwn] at h
              exact (List.append_eq_nil_iff.1 h.symm).2
            have ha0 : all.length = 0 := by rw [hr0] at hgA; simpa using hgA
            have hn12 := LALL.out
            have hl1 : rs1.length = 0 := by omega
            have hl2 : rs2.length = 0 := by omega
            clear HT HBB hgA HWB hr0 ha0 hn12 o10
            subst hwn
            subst hb0
            have hbb : beqB [] [] = true := rfl
            go_wp2_with fail
            refine (bytesEq_any [] [] none a12 0 c12 _ (fun j hj => absurd hj (Nat.not_lt_zero _)) (fun j hj => absurd hj (Nat.not_lt_zero _)) (by simp) (by simp)).mono ?_
            rintro e w13 ⟨rfl, n13, rfl⟩
            rw [hbb]
            go_wp2_with fail
            refine (bytesEq_any [] [] none a3 0 c3 _ (fun j hj => absurd hj (Nat.not_lt_zero _)) (fun j hj => absurd hj (Nat.not_lt_zero _)) (by simp) (by simp)).mono ?_
            rintro e w14 ⟨rfl, n14, rfl⟩
            rw [hbb]
            go_wp2_with fail
            refine (countNil _).mono ?_
            rintro e w15 ⟨rfl, rfl⟩
            go_wp2
            go_ret
            exact ⟨rfl, (below_of_none hG).trans (below_drewN _ _ _)⟩
          · subst hv
            have hnb : bs.length ≤ wb.length := by rw [HWB.out]; simp
            have hx10 : ∀ j, j < wb.length → ∃ b off, (some ⟨g, 0, none⟩ : Option Addr) = some ⟨b, off, none⟩ ∧ At w12 b off wb := fun j _ => ⟨g, 0, rfl, hAt⟩
            go_wp2_with fail
            refine (bytesEq_any wb wb _ _ _ _ _ hx10 hr12 (by omega) (by omega)).mono ?_
            rintro e w13 ⟨rfl, n13, rfl⟩
            rw [HT.out]
            have hP : wb.take bs.length = bs := by rw [HWB.out]; simp
            have hD : wb.drop bs.length = regsEnc all := by rw [HWB.out]; simp
            have A1 : At w12 g 0 bs := by have h := hAt.take bs.length; rw [hP] at h; exact h
            have A2 : At w12 g bs.length (regsEnc all) := by have h := hAt.drop bs.length; rw [hD, Nat.zero_add] at h; exact h
            have lD : wb.length - bs.length = (regsEnc all).length := by rw [← hD]; simp
            have HLD : Hid (wb.length - bs.length = (regsEnc all).length) := lD
            clear hP hD lD hAt
            have hx13 : ∀ j, j < bs.length → ∃ b off, (some ⟨g, 0, none⟩ : Option Addr) = some ⟨b, off, none⟩ ∧ At (w12.drewN n13) b off bs := fun j _ => ⟨g, 0, rfl, A1⟩
            have hr13 : ∀ j, j < bs.length → ∃ b off, a3 = some ⟨b, off, none⟩ ∧ At (w12.drewN n13) b off bs := hr3
            go_wp2_with fail
            refine (bytesEq_any bs bs _ _ _ _ _ hx13 hr13 (by omega) (by omega)).mono ?_
            rintro e w14 ⟨rfl, n14, rfl⟩
            rw [HBB.out]
            have hEq : ((all.length : Int) == (rs1.length : Int) + (rs2.length : Int)) = true := by rw [beq_iff_eq]; have := LALL.out; omega
            have lE : (regsEnc all).length < 4194304 := by have := HLD.out; omega
            by_cases hce : cap = bs.length
            · have h0 : (regsEnc all).length = 0 := by have := HLD.out; omega
              have C := countR (w12.drewN (n13 + n14)) g 0 0 all (by intro j hj; omega) lE
              have hz : wb.length - bs.length = (regsEnc all).length := HLD.out
              clear h0
              go_wp2_with fail
              refine C.mono ?_
              rintro e w15 ⟨rfl, rfl⟩
              clear C hz
              go_wp2
              go_ret
              exact ⟨rfl, (below_of_none hG).trans (below_drewN _ _ _)⟩
            · have C := countR (w12.drewN (n13 + n14)) g bs.length (cap - bs.length) all A2 lE
              have hz : wb.length - bs.length = (regsEnc all).length := HLD.out
              go_wp2_with fail
              refine C.mono ?_
              rintro e w15 ⟨rfl, rfl⟩
              clear C hz
              go_wp2
              go_ret
              exact ⟨rfl, (below_of_none hG).trans (below_drewN _ _ _)⟩

end Go.Proofs.Qxb6629102a
