import Derived.Test.Qxb6629102aLaw4W
import Derived.Test.Qxb6629102aLeq
namespace Go.Proofs.Qxb6629102a
open Go.RowKit
set_option linter.unusedSimpArgs false
set_option linter.unusedVariables false

/-- what zzDecodeList answers -/
def DecNil : Prop := ∀ (w : World) (a : Option Addr) (c : Nat), Calls Try.prog 11 #[.slice a 0 c] w fun e w' => e = .returned (.tuple #[.slice none 0 0, .bool true]) ∧ w' = w
def DecSome : Prop := ∀ (w : World) (b off c : Nat) (rs : List Re) (hok : ∀ r ∈ rs, r.ok) (hat : At w b off (regsEnc rs)) (hc : (regsEnc rs).length ≤ c) (hl : (regsEnc rs).length < 67108864),
    Calls Try.prog 11 #[.slice (some ⟨b, off, none⟩) (regsEnc rs).length c] w fun e w' => ∃ a' c', e = .returned (.tuple #[.slice a' rs.length c', .bool true]) ∧ RegsIn w' w.heap.size w'.heap.size (.slice a' rs.length c') rs ∧ w.grownBy w' none

set_option maxHeartbeats 2000000 in
set_option maxRecDepth 100000 in
theorem law3_any (dn : DecNil) (dsm : DecSome) (lo hi : Nat) (rs : List Re) (lv : Value) (ba : Option Addr) (bn bc : Nat) (o : Option (List UInt8)) (w : World) (hl1 : RegsIn w lo hi lv rs) (hb : VerIn w lo hi (.slice ba bn bc) o) (hhi : hi ≤ w.heap.size)
    (wf1 : ∀ r ∈ rs, r.wf) (hbn : bn ≤ maxLen) (hg : Calls Try.prog 5 #[lv, .slice ba bn bc] w fun e w' => SomeBool e ∧ w' = w) :
    Calls Try.prog 3 #[lv, .slice ba bn bc] w fun e w' => e = .returned (.bool true) ∧ Below w.heap.size w w' := by
  obtain ⟨la1, lc1, rfl⟩ := hl1.form
  have hbl := verLen hb
  have eb : verTot o = ((o.getD []).length : Int) := by cases o <;> rfl
  unfold maxLen at hbn
  obtain ⟨bs, hbs⟩ : ∃ bs : List UInt8, bs = o.getD [] := ⟨_, rfl⟩
  have hbb : bn = bs.length := by rw [hbs]; omega
  subst hbb
  have HBS : Hid (bs = o.getD []) := hbs
  clear hbl eb hbs
  go_enter Try.func3, Try.ntmps3
  go_wp2_with fail
  refine hg.mono ?_
  rintro e w' ⟨⟨bb, rfl⟩, rfl⟩
  clear hg
  cases bb with
  | false =>
    go_wp2
    go_ret
    exact ⟨rfl, Below.refl _ _⟩
  | true =>
  by_cases hbig : (1048576 : Int) < (bs.length : Int)
  · go_wp2
    go_ret
    exact ⟨rfl, Below.refl _ _⟩
  go_wp2_with fail
  refine (zzAcc_any lo hi rs _ _ (bs.length : Int) _ hl1 hhi (by unfold okN; omega)).mono ?_
  rintro e w2 ⟨m2, rfl, k2, G2⟩
  have hm0 := k2.1
  have hm1 := k2.2.1
  by_cases hbig2 : 1048576 < m2
  · go_wp2
    go_ret
    exact ⟨rfl, below_of_none G2⟩
  have hm2 := k2.2.2 (by omega)
  have t1 := regsTot_nonneg rs
  have htot : (bs.length : Int) + regsTot rs ≤ 1048576 := by omega
  clear k2 hm2 hm0 hm1
  have S2 := Same.of_grown (lo := lo) G2 hhi
  replace hl1 := S2.regsIn hl1
  replace hb := S2.verIn hb
  have z2 := G2.size
  clear S2
  have hbl : (o.getD []).length ≤ 1048576 := by rw [← HBS.out]; omega
  go_wp2_with fail
  refine (cloneB_any lo hi _ o _ hb hbl).mono ?_
  rintro e w3 ⟨v3, rfl, o3, g3⟩
  rw [← HBS.out] at o3
  have S3 := Same.of_grown (lo := lo) g3 (Nat.le_trans hhi z2)
  replace hl1 := S3.regsIn hl1
  replace hb := S3.verIn hb
  have z3 := g3.size
  have G3 := none_trans G2 g3
  clear S3
  go_wp2_with fail
  refine (cloneB_any lo hi _ o _ hb hbl).mono ?_
  rintro e w4 ⟨v4, rfl, o4, g4⟩
  rw [← HBS.out] at o4
  have S4 := Same.of_grown (lo := lo) (hi := hi) g4 (by omega)
  replace hl1 := S4.regsIn hl1
  have z4 := g4.size
  have G4 := none_trans G3 g4
  clear S4 hb hbl
  have tl1 := regsTot_len rs
  have sm : ∀ r ∈ rs, (∀ bs, r.ver = some bs → bs.length ≤ 1048576) ∧ r.attrs.length ≤ 1048576 := fun r hr => r.small (by have := regsTot_mem rs r hr; omega)
  go_wp2_with fail
  refine (toAudit_any lo hi rs _ _ hl1 (by omega) (by omega) sm).mono ?_
  rintro e w6 ⟨a6, c6, rfl, r6, g6⟩
  have S6 := Same.of_grown (lo := lo) (hi := hi) g6 (by omega)
  replace hl1 := S6.regsIn hl1
  have z6 := g6.size
  clear S6
  have G9 := none_trans G4 g6
  have l3 := o3.lt
  have l4 := o4.lt
  have P3 := o3.ge
  have P4 := o4.ge
  replace o3 := ((o3.keptN g4).keptN g6)
  replace o4 := (o4.keptN g6)
  have e1 := regsEnc_tot rs
  have ok1 : ∀ r ∈ rs, r.ok := fun r hr => r.ok_of (wf1 r hr) (by have := regsTot_mem rs r hr; omega)
  clear g3 g4 g6 G2 G3 G4
  go_wp2_with fail
  refine (appendProto_any w4.heap.size w6.heap.size w3.heap.size rs _ _ bs _ r6 (Nat.le_refl _) ok1 o4 (by omega) (fun g e => by have := l4 g e; omega) (by omega)).mono ?_
  rintro e w10 ⟨v10, rfl, o10, A10⟩
  have out4 : Out lo hi v4 := fun g e => by have := P4 g e; omega
  have S10 := A10.same out4 (by omega)
  replace hl1 := S10.regsIn hl1
  have z10 := A10.grown.size
  replace o3 := o3.far A10.grown (fun g e e' => by have := l3 g e; have := P4 g e'; omega)
  have hG : w'.grownBy w10 none := World.grownBy.andThen G9 A10.grown (fun j e => .inl (by have := P4 j e; omega))
  clear S10 o4 r6 A10 G9 out4
  obtain ⟨wb, hwb⟩ : ∃ wb : List UInt8, wb = bs ++ regsEnc rs := ⟨_, rfl⟩
  rw [← hwb] at o10
  have lwb : wb.length < 4194304 := by rw [hwb]; simp; omega
  have HWB : Hid (wb = bs ++ regsEnc rs) := hwb
  clear hwb
  obtain ⟨a3, c3, rfl, hr3⟩ := o3.rb
  have hbB : beqB bs bs = true := by simp [beqB]
  have HBB : Hid (beqB bs bs = true) := hbB
  clear hbB
  have hgA := regsEnc_ge rs
  rcases o10.form with ⟨hv, hwn⟩ | ⟨g, cap, hv, hcap, hb1, hb2, hAt⟩
  · subst hv
    have hb0 : bs = [] := by
      have h := HWB.out; rw [hwn] at h
      exact (List.append_eq_nil_iff.1 h.symm).1
    have hr0 : regsEnc rs = [] := by
      have h := HWB.out; rw [hwn] at h
      exact (List.append_eq_nil_iff.1 h.symm).2
    have ha0 : rs = [] := List.length_eq_zero_iff.1 (by rw [hr0] at hgA; simpa using hgA)
    clear HBB hgA HWB hr0 o10
    subst hwn
    subst hb0
    subst ha0
    have hbb : beqB [] [] = true := rfl
    go_wp2_with fail
    refine (bytesEq_any [] [] none a3 0 c3 _ (fun j hj => absurd hj (Nat.not_lt_zero _)) (fun j hj => absurd hj (Nat.not_lt_zero _)) (by simp) (by simp)).mono ?_
    rintro e w14 ⟨rfl, n14, rfl⟩
    rw [hbb]
    go_wp2_with fail
    refine (dn _ _ _).mono ?_
    rintro e w15 ⟨rfl, rfl⟩
    go_wp2_with fail
    refine (listEq_any 0 0 lo hi [] none la1 0 lc1 _ (.inl ⟨rfl, rfl⟩) ((Same.of_grown (none_drewN _ _) (by omega)).regsIn hl1) (Nat.zero_le _) (by show hi ≤ w10.heap.size; omega) (by simp) (fun r hr => by cases hr)).mono ?_
    rintro e w16 ⟨rfl, g16⟩
    go_wp2
    go_ret
    exact ⟨rfl, below_of_none (none_trans hG (none_trans (none_drewN _ _) g16))⟩
  · subst hv
    have hnb : bs.length ≤ wb.length := by rw [HWB.out]; simp
    have hP : wb.take bs.length = bs := by rw [HWB.out]; simp
    have hD : wb.drop bs.length = regsEnc rs := by rw [HWB.out]; simp
    have A1 : At w10 g 0 bs := by have h := hAt.take bs.length; rw [hP] at h; exact h
    have A2 : At w10 g bs.length (regsEnc rs) := by have h := hAt.drop bs.length; rw [hD, Nat.zero_add] at h; exact h
    have lD : wb.length - bs.length = (regsEnc rs).length := by rw [← hD]; simp
    have HLD : Hid (wb.length - bs.length = (regsEnc rs).length) := lD
    clear hP hD lD hAt
    have hx13 : ∀ j, j < bs.length → ∃ b off, (some ⟨g, 0, none⟩ : Option Addr) = some ⟨b, off, none⟩ ∧ At w10 b off bs := fun j _ => ⟨g, 0, rfl, A1⟩
    go_wp2_with fail
    refine (bytesEq_any bs bs _ _ _ _ _ hx13 hr3 (by omega) (by omega)).mono ?_
    rintro e w14 ⟨rfl, n14, rfl⟩
    rw [HBB.out]
    have lE : (regsEnc rs).length < 4194304 := by have := HLD.out; omega
    have Q : ∃ off cc, (cap = bs.length → off = 0) ∧ (cap ≠ bs.length → off = bs.length) ∧ (cap = bs.length → cc = 0) ∧ (cap ≠ bs.length → cc = cap - bs.length) ∧ At (w10.drewN n14) g off (regsEnc rs) ∧ (regsEnc rs).length ≤ cc := by
      by_cases hce : cap = bs.length
      · have h0 : (regsEnc rs).length = 0 := by have := HLD.out; omega
        exact ⟨0, 0, fun _ => rfl, fun h => absurd hce h, fun _ => rfl, fun h => absurd hce h, fun j hj => by omega, by omega⟩
      · exact ⟨bs.length, cap - bs.length, fun h => absurd h hce, fun _ => rfl, fun h => absurd h hce, fun _ => rfl, A2, by have := HLD.out; omega⟩
    obtain ⟨off, cc, q1, q2, q3, q4, qA, qc⟩ := Q
    have C := dsm (w10.drewN n14) g off cc rs ok1 qA qc (by omega)
    have hz : wb.length - bs.length = (regsEnc rs).length := HLD.out
    have SL := (Same.of_grown (lo := lo) (hi := hi) (none_drewN w10 n14) (by omega)).regsIn hl1
    clear hl1 A1 A2 hx13 hr3 o3 o10
    by_cases hce : cap = bs.length
    · obtain rfl := q1 hce
      obtain rfl := q3 hce
      clear q1 q2 q3 q4 qA
      go_wp2_with fail
      refine C.mono ?_
      rintro e w15 ⟨a', c', rfl, R15, g15⟩
      clear C hz
      go_wp2_with fail
      refine (listEq_any _ _ lo hi rs a' la1 c' lc1 _ R15 ((Same.of_grown g15 (by show hi ≤ w10.heap.size; omega)).regsIn SL) (Nat.le_refl _) (Nat.le_trans (by show hi ≤ w10.heap.size; omega) g15.size) (by omega) sm).mono ?_
      rintro e w16 ⟨rfl, g16⟩
      go_wp2
      go_ret
      exact ⟨rfl, below_of_none (none_trans hG (none_trans (none_drewN _ _) (none_trans g15 g16)))⟩
    · obtain rfl := q2 hce
      obtain rfl := q4 hce
      clear q1 q2 q3 q4 qA
      go_wp2_with fail
      refine C.mono ?_
      rintro e w15 ⟨a', c', rfl, R15, g15⟩
      clear C hz
      go_wp2_with fail
      refine (listEq_any _ _ lo hi rs a' la1 c' lc1 _ R15 ((Same.of_grown g15 (by show hi ≤ w10.heap.size; omega)).regsIn SL) (Nat.le_refl _) (Nat.le_trans (by show hi ≤ w10.heap.size; omega) g15.size) (by omega) sm).mono ?_
      rintro e w16 ⟨rfl, g16⟩
      go_wp2
      go_ret
      exact ⟨rfl, below_of_none (none_trans hG (none_trans (none_drewN _ _) (none_trans g15 g16)))⟩

end Go.Proofs.Qxb6629102a
