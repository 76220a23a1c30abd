import Derived.Test.Qxb6629102aApp2
namespace Go.Proofs.Qxb6629102a
open Go.RowKit
set_option linter.unusedSimpArgs false
set_option linter.unusedVariables false

/-- a length-delimited field -/
def fld (tag : Nat) (m : List UInt8) : List UInt8 := UInt8.ofNat tag :: (vb m.length ++ m)
/-- a definition -/
structure De where
  desc : ByteArray
  ty : Nat
  card : Nat

def De.ok (d : De) : Prop := d.ty < 256 ∧ d.card < 256 ∧ d.desc.size ≤ 1048576
def De.enc (d : De) : List UInt8 := (if d.desc.size = 0 then [] else fld 10 d.desc.data.toList) ++ (16 :: vb d.ty ++ 24 :: vb d.card)
def De.val (d : De) : Value := .agg #[.string d.desc, .int .u8 (d.ty : Int), .int .u8 (d.card : Int)]

theorem OB.nil (base : Nat) (w : World) : OB base w (.slice none 0 0) [] := World.ownsRow_nil w base 5 1

theorem OB.kept {base : Nat} {w w' : World} {v : Value} {bs : List UInt8} {row : Option Nat} (h : OB base w v bs) (hg : w.grownBy w' row) (hne : v.ownBlock = none ∨ v.ownBlock ≠ row) : OB base w' v bs := World.ownsRow.kept h hg hne

theorem OB.alloc {base : Nat} {w : World} {v : Value} {bs : List UInt8} (h : OB base w v bs) (o : Obj) : OB base (w.alloc o) v bs := World.ownsRow.alloc h o

theorem App.refl (w : World) (v : Value) : App w v w v := ⟨World.grownBy.refl w _, .inl rfl⟩

/-- a new block, then whatever made new memory alone, leaves v as it was -/
theorem App.behind {w w6 : World} {o : Obj} {m : Value} (h : App (w.alloc o) (.slice none 0 0) w6 m) {v : Value} : App w v w6 v :=
  ⟨⟨h.grown.os, h.grown.tape, h.grown.output, Nat.le_trans (by simp) h.grown.size, fun k hk _ => (h.grown.block k (by simp; omega) (by simp [Value.ownBlock])).trans (Below.heap_alloc w o k hk)⟩, .inl rfl⟩

theorem bytes_toList (s : ByteArray) : s.toList = s.data.toList := ByteArray.toList_eq s
theorem bytes_isEmpty (s : ByteArray) (h : s.size = 0) : s.toList.isEmpty = true := by
  rw [bytes_toList, List.isEmpty_iff]
  exact List.eq_nil_of_length_eq_zero h
theorem bytes_notEmpty (s : ByteArray) (h : ¬ s.size = 0) : s.toList.isEmpty = false := by
  rw [bytes_toList]
  cases e : s.data.toList with
  | nil => exact absurd (congrArg List.length e) h
  | cons a l => rfl

/-- what an owned row holds, cell by cell -/
theorem At.of_own {base : Nat} {w : World} {g n cap : Nat} {bs : List UInt8} (h : w.ownsRow base 5 1 (.slice (some ⟨g, 0, none⟩) n cap) bs.length (bs.map bv)) : At w g 0 bs := by
  intro j hj
  have h2 := World.ownsRow.cells h (g := g) rfl j (bv (bs.getD j 0)) (by simp [List.getElem?_map, List.getElem?_eq_getElem hj, List.getD_eq_getElem?_getD])
  have hadd : (⟨g, 0, none⟩ : Addr).add j = ⟨g, j, none⟩ := by unfold Addr.add; split <;> simp_all
  rw [hadd] at h2
  rw [Nat.zero_add]
  exact h2

set_option maxHeartbeats 400000 in
theorem appendDef_any (base : Nat) (v : Value) (bs : List UInt8) (num : Int) (d : De) (w : World) (h0 : 1 ≤ num) (h1 : num ≤ 6) (hd : d.ok) (hown : OB base w v bs) (hb : base ≤ w.heap.size) (hl : bs.length < 134217728) :
    Calls Try.prog 28 #[v, .int .i32 num, d.val] w fun e w' => ∃ v', e = .returned v' ∧ OB base w' v' (bs ++ fld (num * 8 + 2).toNat d.enc) ∧ App w v w' v' := by
  obtain ⟨s, t, c⟩ := d
  obtain ⟨ht, hc, hs⟩ := hd
  simp only at ht hc hs
  unfold De.val
  simp only
  obtain ⟨tg, htg⟩ : ∃ tg : List UInt8, tg = De.enc ⟨s, t, c⟩ := ⟨_, rfl⟩
  rw [← htg]
  have HT : Hid (tg = De.enc ⟨s, t, c⟩) := htg
  clear htg
  have lt4 := vb_length t
  have lc4 := vb_length c
  have ls4 := vb_length s.size
  by_cases hz : s.size = 0
  · have hz' : s.toList.isEmpty = true := bytes_isEmpty s hz
    go_enter Try.func28, Try.ntmps28
    have A1 : App (w.alloc (Obj.cells #[Value.string s, Value.int IntKind.u8 ↑t, Value.int IntKind.u8 ↑c] 64)) (.slice none 0 0) (w.alloc (Obj.cells #[Value.string s, Value.int IntKind.u8 ↑t, Value.int IntKind.u8 ↑c] 64)) (.slice none 0 0) := App.refl _ _
    have O1 : OB (w.heap.size + 1) (w.alloc (Obj.cells #[Value.string s, Value.int IntKind.u8 ↑t, Value.int IntKind.u8 ↑c] 64)) (.slice none 0 0) [] := OB.nil _ _
    have q1 := A1.grown.cell (a := ⟨w.heap.size, 1, none⟩) (v := .int .u8 (t : Int)) (by simp) (by simp [Value.ownBlock])
    have z1 := A1.grown.size
    simp at z1
    go_wp2_with fail
    refine (appendTag_any (w.heap.size + 1) _ [] _ _ _ (by omega) (by omega) (by omega) O1 (by first | omega | (simp; done) | (simp; omega)) (by first | omega | (simp [fld]; done) | (simp [fld]; omega))).mono ?_
    rintro e w3 ⟨m3, rfl, o3, a3⟩
    have A3 := A1.trans a3
    clear O1 A1 a3 q1
    have q3 := A3.grown.cell (a := ⟨w.heap.size, 1, none⟩) (v := .int .u8 (t : Int)) (by simp) (by simp [Value.ownBlock])
    have z3 := A3.grown.size
    simp at z3
    go_wp2_with fail
    refine (varint_any (w.heap.size + 1) _ _ _ _ (by omega) (by omega) o3 (by omega) (by first | omega | (simp [fld]; done) | (simp [fld]; omega))).mono ?_
    rintro e w4 ⟨m4, rfl, o4, a4⟩
    have A4 := A3.trans a4
    clear o3 A3 a4 q3
    have z4 := A4.grown.size
    simp at z4
    go_wp2_with fail
    refine (appendTag_any (w.heap.size + 1) _ _ _ _ _ (by omega) (by omega) (by omega) o4 (by omega) (by first | omega | (simp [fld]; done) | (simp [fld]; omega))).mono ?_
    rintro e w5 ⟨m5, rfl, o5, a5⟩
    have A5 := A4.trans a5
    clear o4 A4 a5
    have q5 := A5.grown.cell (a := ⟨w.heap.size, 2, none⟩) (v := .int .u8 (c : Int)) (by simp) (by simp [Value.ownBlock])
    have z5 := A5.grown.size
    simp at z5
    go_wp2_with fail
    refine (varint_any (w.heap.size + 1) _ _ _ _ (by omega) (by omega) o5 (by omega) (by first | omega | (simp [fld]; done) | (simp [fld]; omega))).mono ?_
    rintro e w6 ⟨m6, rfl, o6, a6⟩
    have A6 := A5.trans a6
    clear o5 A5 a6 q5
    have z6 := A6.grown.size
    simp at z6
    have hown6 : OB base w6 v bs := (hown.alloc _).kept A6.grown (by cases v.ownBlock <;> simp [Value.ownBlock])
    go_wp2_with fail
    refine (appendTag_any base _ bs _ _ _ h0 h1 (by omega) hown6 (by omega) (by omega)).mono ?_
    rintro e w7 ⟨v7, rfl, o7, a7⟩
    have hvlt := hown.lt
    obtain ⟨en, hen⟩ : ∃ en : List UInt8, en = ([] ++ (16 :: vb t ++ 24 :: vb c)) := ⟨_, rfl⟩
    have O6 : OB (w.heap.size + 1) w6 m6 en := by rw [hen]; simpa [fld] using o6
    have hel : 0 < en.length ∧ en.length ≤ 1048612 := by rw [hen]; simp [fld]; omega
    have HE : Hid (en = ([] ++ (16 :: vb t ++ 24 :: vb c))) := hen
    clear hen o6
    obtain ⟨hel0, hel1⟩ := hel
    obtain ⟨g, cap, hm6, hg6, hg6'⟩ := World.ownsRow.form O6 hel0
    subst hm6
    have At6 : At w6 g 0 en := At.of_own O6
    have hne6 : some g ≠ v.ownBlock := fun e => by have := hvlt g e.symm; omega
    have At7 := a7.at_ At6 (fun _ => hne6)
    have hne7 : some g ≠ v7.ownBlock := a7.ne hg6' hne6
    have z7 := a7.grown.size
    go_wp2_with fail
    refine (appendBytes_any base _ _ en _ _ _ _ _ o7 (by omega) At7 (fun _ => rfl) (fun _ => hne7) (by first | omega | (simp [fld]; done) | (simp [fld]; omega))).mono ?_
    rintro e w8 ⟨v8, rfl, o8, a8⟩
    go_wp2
    go_ret
    have e : tg = en := by
      rw [HT.out, HE.out]
      unfold De.enc
      simp only
      rw [if_pos hz]
    refine ⟨v8, rfl, ?_, (App.behind A6).trans (a7.trans a8)⟩
    rw [e]
    simpa [fld] using o8
  · have hz' : s.toList.isEmpty = false := bytes_notEmpty s hz
    go_enter Try.func28, Try.ntmps28
    go_wp2_with fail
    refine (appendTag_any (w.heap.size + 1) _ [] _ _ _ (by omega) (by omega) (by omega) (OB.nil _ _) (by simp) (by simp)).mono ?_
    rintro e w1 ⟨m1, rfl, o1, a1⟩
    have k0 := a1.grown.cell (a := ⟨w.heap.size, 0, none⟩) (v := .string s) (by simp) (by simp [Value.ownBlock])
    have y1 := a1.grown.size
    simp at y1
    go_wp2_with fail
    refine (appendString_any (w.heap.size + 1) _ _ s _ o1 (by omega) (by first | omega | (simp [fld]; done) | (simp [fld]; omega))).mono ?_
    rintro e w2 ⟨m2, rfl, O1, a2⟩
    have A1 := a1.trans a2
    clear o1 a1 a2 k0
    have q1 := A1.grown.cell (a := ⟨w.heap.size, 1, none⟩) (v := .int .u8 (t : Int)) (by simp) (by simp [Value.ownBlock])
    have z1 := A1.grown.size
    simp at z1
    go_wp2_with fail
    refine (appendTag_any (w.heap.size + 1) _ _ _ _ _ (by omega) (by omega) (by omega) O1 (by first | omega | (simp; done) | (simp; omega)) (by first | omega | (simp [fld]; done) | (simp [fld]; omega))).mono ?_
    rintro e w3 ⟨m3, rfl, o3, a3⟩
    have A3 := A1.trans a3
    clear O1 A1 a3 q1
    have q3 := A3.grown.cell (a := ⟨w.heap.size, 1, none⟩) (v := .int .u8 (t : Int)) (by simp) (by simp [Value.ownBlock])
    have z3 := A3.grown.size
    simp at z3
    go_wp2_with fail
    refine (varint_any (w.heap.size + 1) _ _ _ _ (by omega) (by omega) o3 (by omega) (by first | omega | (simp [fld]; done) | (simp [fld]; omega))).mono ?_
    rintro e w4 ⟨m4, rfl, o4, a4⟩
    have A4 := A3.trans a4
    clear o3 A3 a4 q3
    have z4 := A4.grown.size
    simp at z4
    go_wp2_with fail
    refine (appendTag_any (w.heap.size + 1) _ _ _ _ _ (by omega) (by omega) (by omega) o4 (by omega) (by first | omega | (simp [fld]; done) | (simp [fld]; omega))).mono ?_
    rintro e w5 ⟨m5, rfl, o5, a5⟩
    have A5 := A4.trans a5
    clear o4 A4 a5
    have q5 := A5.grown.cell (a := ⟨w.heap.size, 2, none⟩) (v := .int .u8 (c : Int)) (by simp) (by simp [Value.ownBlock])
    have z5 := A5.grown.size
    simp at z5
    go_wp2_with fail
    refine (varint_any (w.heap.size + 1) _ _ _ _ (by omega) (by omega) o5 (by omega) (by first | omega | (simp [fld]; done) | (simp [fld]; omega))).mono ?_
    rintro e w6 ⟨m6, rfl, o6, a6⟩
    have A6 := A5.trans a6
    clear o5 A5 a6 q5
    have z6 := A6.grown.size
    simp at z6
    have hown6 : OB base w6 v bs := (hown.alloc _).kept A6.grown (by cases v.ownBlock <;> simp [Value.ownBlock])
    go_wp2_with fail
    refine (appendTag_any base _ bs _ _ _ h0 h1 (by omega) hown6 (by omega) (by omega)).mono ?_
    rintro e w7 ⟨v7, rfl, o7, a7⟩
    have hvlt := hown.lt
    obtain ⟨en, hen⟩ : ∃ en : List UInt8, en = (fld 10 s.data.toList ++ (16 :: vb t ++ 24 :: vb c)) := ⟨_, rfl⟩
    have O6 : OB (w.heap.size + 1) w6 m6 en := by rw [hen]; simpa [fld] using o6
    have hel : 0 < en.length ∧ en.length ≤ 1048612 := by rw [hen]; simp [fld]; omega
    have HE : Hid (en = (fld 10 s.data.toList ++ (16 :: vb t ++ 24 :: vb c))) := hen
    clear hen o6
    obtain ⟨hel0, hel1⟩ := hel
    obtain ⟨g, cap, hm6, hg6, hg6'⟩ := World.ownsRow.form O6 hel0
    subst hm6
    have At6 : At w6 g 0 en := At.of_own O6
    have hne6 : some g ≠ v.ownBlock := fun e => by have := hvlt g e.symm; omega
    have At7 := a7.at_ At6 (fun _ => hne6)
    have hne7 : some g ≠ v7.ownBlock := a7.ne hg6' hne6
    have z7 := a7.grown.size
    go_wp2_with fail
    refine (appendBytes_any base _ _ en _ _ _ _ _ o7 (by omega) At7 (fun _ => rfl) (fun _ => hne7) (by first | omega | (simp [fld]; done) | (simp [fld]; omega))).mono ?_
    rintro e w8 ⟨v8, rfl, o8, a8⟩
    go_wp2
    go_ret
    have e : tg = en := by
      rw [HT.out, HE.out]
      unfold De.enc
      simp only
      rw [if_neg hz]
    refine ⟨v8, rfl, ?_, (App.behind A6).trans (a7.trans a8)⟩
    rw [e]
    simpa [fld] using o8

end Go.Proofs.Qxb6629102a
