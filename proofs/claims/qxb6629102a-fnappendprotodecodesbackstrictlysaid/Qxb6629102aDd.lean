import Derived.Test.Qxb6629102aDec
import Derived.Test.Qxb6629102aTo
namespace Go.Proofs.Qxb6629102a
open Go.RowKit
set_option linter.unusedSimpArgs false
set_option linter.unusedVariables false

/-! ### the readers, their places as letters -/
theorem varintE (w : World) (b off c : Nat) (p rest : List UInt8) (x : Int) (i n E : Nat) (hx : x = (i : Int)) (hE : E = i + (vb n).length) (hat : At w b off p) (hp : p.drop i = vb n ++ rest) (hn : n < 268435456) (hl : p.length < 1073741824) :
    Calls Try.prog 29 #[.slice (some ⟨b, off, none⟩) p.length c, .int .i64 x] w fun e w' => e = .returned (.tuple #[.int .u64 (n : Int), .int .i64 (E : Int), .bool true]) ∧ w = w' := by
  subst hx; subst hE
  have h := varintD w b off c p rest i n hat hp hn hl
  rw [show ((i + (vb n).length : Nat) : Int) = (i : Int) + ((vb n).length : Int) from by omega]
  exact h
theorem fieldE (w : World) (b off c : Nat) (p m rest : List UInt8) (x y : Int) (i tag A E : Nat) (hx : x = (i : Int)) (hy : y = (tag : Int)) (hA : A = i + 1 + (vb m.length).length) (hE : E = A + m.length) (hat : At w b off p) (hp : p.drop i = fld tag m ++ rest) (ht : tag < 128) (hl : p.length < 268435456) :
    Calls Try.prog 20 #[.slice (some ⟨b, off, none⟩) p.length c, .int .i64 x, .int .u8 y] w fun e w' => e = .returned (.tuple #[.int .i64 (A : Int), .int .i64 (E : Int), .bool true]) ∧ w = w' := by
  subst hx; subst hy; subst hE; subst hA
  have h := fieldD w b off c p m rest i tag hat hp ht hl
  rw [show ((i + 1 + (vb m.length).length + m.length : Nat) : Int) = (i : Int) + 1 + ((vb m.length).length : Int) + (m.length : Int) from by omega, show ((i + 1 + (vb m.length).length : Nat) : Int) = (i : Int) + 1 + ((vb m.length).length : Int) from by omega]
  exact h

/-! ### bytes to a string -/
theorem foldl_push (l : List UInt8) : ∀ (s : ByteArray), (l.map fun c : UInt8 => (c.toNat : Int)).foldl (fun r n => r.push (UInt8.ofNat n.toNat)) s = ⟨s.data ++ l.toArray⟩ := by
  induction l with
  | nil => intro s; simp
  | cons c l ih =>
    intro s
    simp only [List.map_cons, List.foldl_cons]
    rw [ih]
    have : UInt8.ofNat (c.toNat : Int).toNat = c := by simp
    rw [this]
    simp [ByteArray.push]
theorem run_str (w : World) (b off n c : Nat) (sp : Option Nat) (src : List UInt8) (hAt : At w b off src) (hn : src.length = n) (hsp : 0 < src.length → sp = none) :
    (convert 23 9 (.slice (some ⟨b, off, sp⟩) n c)).run Try.prog w = .ok (.string ⟨src.toArray⟩) w := by
  subst hn
  rw [run_convert_bytes_string w 23 9 5 _ _ _ Try.underlying23 Try.underlying5 Try.underlying9]
  have hl := run_loadCells_list (P := Try.prog) w ⟨b, off, sp⟩ (src.map bv) (hAt.newsS hsp)
  rw [List.length_map] at hl
  have e : src.map bv = (src.map fun c : UInt8 => (c.toNat : Int)).map (Value.int .u8) := by rw [List.map_map]; rfl
  rw [e] at hl
  rw [run_bytesToString w ⟨b, off, sp⟩ src.length c _ hl, foldl_push]
  have e2 : (ByteArray.empty).data = #[] := rfl
  rw [e2, Array.empty_append]

theorem At.alloc {w : World} {b off : Nat} {src : List UInt8} (h : At w b off src) (o : Obj) : At (w.alloc o) b off src := h.kept (World.grownBy_alloc w o none) (fun _ => by simp)
theorem At.sub {w : World} {b off : Nat} {p : List UInt8} (h : At w b off p) (i : Nat) {m rest : List UInt8} (hp : p.drop i = m ++ rest) : At w b (off + i) m := by
  intro j hj
  obtain ⟨_, h2⟩ := h.cellAt i hp j m[j] (by rw [List.getElem?_append_left hj, List.getElem?_eq_getElem hj])
  rw [Nat.add_assoc, h2, List.getD_eq_getElem?_getD, List.getElem?_eq_getElem hj]; rfl

theorem drop_fld0 (tag : Nat) (m rest : List UInt8) : (fld tag m ++ rest).drop (1 + (vb m.length).length) = m ++ rest := by
  simp only [fld, List.cons_append, List.append_assoc]
  rw [Nat.add_comm, List.drop_succ_cons, List.drop_append_of_le_length (Nat.le_refl _), List.drop_length, List.nil_append]
theorem drop_fld (p : List UInt8) (tag : Nat) (m rest : List UInt8) (h : p = fld tag m ++ rest) (A : Nat) (hA : A = 0 + 1 + (vb m.length).length) : p.drop A = m ++ rest := by
  rw [h, hA, Nat.zero_add]; exact drop_fld0 tag m rest
theorem eta_str (s : ByteArray) : (⟨s.data.toList.toArray⟩ : ByteArray) = s := by cases s; simp

set_option maxHeartbeats 1000000 in
set_option maxRecDepth 100000 in
/-- zzDecodeDef, the description not empty -/
theorem decDef1 (w : World) (b off c : Nat) (d : De) (hd : d.ok) (hz : ¬ d.desc.size = 0) (hat : At w b off d.enc) (hc : d.enc.length ≤ c) :
    Calls Try.prog 30 #[.slice (some ⟨b, off, none⟩) d.enc.length c] w fun e w' =>
      e = .returned (.tuple #[.agg #[.string d.desc, .int .u8 (d.ty : Int), .int .u8 (d.card : Int)], .bool true]) ∧ ∃ o1 o2, w' = (w.alloc o1).alloc o2 := by
  obtain ⟨s, t, q⟩ := d
  obtain ⟨ht, hq, hs⟩ := hd
  simp only at ht hq hs hz ⊢
  have lt4 := vb_length t
  have lq4 := vb_length q
  obtain ⟨S, hS⟩ : ∃ S : List UInt8, S = s.data.toList := ⟨_, rfl⟩
  have ls4 := vb_length S.length
  have esz : S.length = s.size := by subst hS; rfl
  have eS : (⟨S.toArray⟩ : ByteArray) = s := by subst hS; exact eta_str s
  obtain ⟨p, hp⟩ : ∃ p : List UInt8, p = De.enc ⟨s, t, q⟩ := ⟨_, rfl⟩
  have hpe : p = fld 10 S ++ (16 :: (vb t ++ 24 :: vb q)) := by rw [hp]; unfold De.enc; simp only; rw [if_neg hz, hS]; rfl
  rw [← hp] at hat hc ⊢
  obtain ⟨A, hA⟩ : ∃ A, A = 0 + 1 + (vb S.length).length := ⟨_, rfl⟩
  obtain ⟨E, hE⟩ : ∃ E, E = A + S.length := ⟨_, rfl⟩
  obtain ⟨F, hF⟩ : ∃ F, F = E + 1 + (vb t).length := ⟨_, rfl⟩
  obtain ⟨G, hG⟩ : ∃ G, G = F + 1 + (vb q).length := ⟨_, rfl⟩
  have lp : p.length = G := by rw [hpe]; simp [fld]; omega
  have d0 : p.drop 0 = fld 10 S ++ (16 :: (vb t ++ 24 :: vb q)) := by rw [List.drop_zero]; exact hpe
  have lE : (fld 10 S).length = E := by simp [fld]; omega
  have dE : p.drop E = 16 :: (vb t ++ 24 :: vb q) := by rw [hpe, ← lE]; simp
  have dE1 : p.drop (E + 1) = vb t ++ 24 :: vb q := by rw [← List.drop_drop, dE]; rfl
  have dF : p.drop F = 24 :: vb q := by rw [hF, ← List.drop_drop, dE1]; simp
  have dF1 : p.drop (F + 1) = vb q ++ [] := by rw [← List.drop_drop, dF]; simp
  have dA : p.drop A = S ++ (16 :: (vb t ++ 24 :: vb q)) := by
    have h1 : (fld 10 S).drop A = S := by rw [hA]; simp only [fld, Nat.zero_add]; rw [← List.drop_drop]; simp
    rw [hpe, List.drop_append_of_le_length (by omega), h1]
  have c0 := (hat.cellAt 0 d0 0 10 rfl).2
  have cE := (hat.cellAt E dE 0 16 rfl).2
  have cF := (hat.cellAt F dF 0 24 rfl).2
  simp only [Nat.add_zero] at c0 cE cF
  replace c0 : w.cell? ⟨b, off, none⟩ = some (.int .u8 10) := c0
  replace cE : w.cell? ⟨b, off + E, none⟩ = some (.int .u8 16) := cE
  replace cF : w.cell? ⟨b, off + F, none⟩ = some (.int .u8 24) := cF
  have hAs := hat.sub A dA
  have hb : b < w.heap.size := World.block_lt_of_cell? w _ c0
  have hb2 : b < w.heap.size + 1 := by omega
  have iAE : A < E := by omega
  have iEG : E < p.length := by omega
  have iFG : F < p.length := by omega
  have i0 : 0 < p.length := by omega
  have bG : p.length < 2097152 := by omega
  have hAc : ¬ A = c := by omega
  have hne : ((E : Int) == (A : Int)) = false := by rw [beq_eq_false_iff_ne]; omega
  have hGe : ((G : Int) == (p.length : Int)) = true := by rw [beq_iff_eq]; omega
  have lAE : S.length = E - A := by omega
  have hstr := fun (wx : World) (h : At wx b (off + A) S) (cc : Nat) => run_str wx b (off + A) (E - A) cc none S h lAE (fun _ => rfl)
  have hs1 : ∀ (o1 o2 : Obj) (cc : Nat), Sem.run Try.prog (convert 23 9 (.slice (some ⟨b, off + A, none⟩) (E - A) cc)) ((w.alloc o1).alloc o2) = .ok (.string s) ((w.alloc o1).alloc o2) := by
    intro o1 o2 cc
    rw [hstr _ ((hAs.alloc o1).alloc o2) cc, eS]
  have K1 : Hid (A = 0 + 1 + (vb S.length).length) := hA
  have K2 : Hid (E = A + S.length) := hE
  have K3 : Hid (F = E + 1 + (vb t).length) := hF
  have K4 : Hid (G = F + 1 + (vb q).length) := hG
  have D0 : Hid (p.drop 0 = fld 10 S ++ (16 :: (vb t ++ 24 :: vb q))) := d0
  have D1 : Hid (p.drop (E + 1) = vb t ++ 24 :: vb q) := dE1
  have D2 : Hid (p.drop (F + 1) = vb q ++ []) := dF1
  clear hstr lAE lp d0 dE dE1 dF dF1 dA lE hA hE hF hG hpe hp hS eS esz
  go_enter Try.func30, Try.ntmps30
  go_wp2_with fail
  refine (fieldE _ b off c p S _ _ _ 0 10 A E rfl rfl K1.out K2.out ((hat.alloc _).alloc _) D0.out (by omega) (by omega)).mono ?_
  rintro e w1 ⟨rfl, rfl⟩
  go_wp2_with fail
  refine (varintE _ b off c p (24 :: vb q) _ (E + 1) t F (by omega) K3.out ((hat.alloc _).alloc _) D1.out (by omega) (by omega)).mono ?_
  rintro e w1 ⟨rfl, rfl⟩
  go_wp2_with fail
  refine (varintE _ b off c p [] _ (F + 1) q G (by omega) K4.out ((hat.alloc _).alloc _) D2.out (by omega) (by omega)).mono ?_
  rintro e w1 ⟨rfl, rfl⟩
  go_wp2
  refine bodyPost_ret (v := .tuple #[.agg #[.string s, .int .u8 (t : Int), .int .u8 (q : Int)], .bool true]) (by simp [results, Try.results30, go_sem, hGe]) rfl ⟨rfl, _, _, rfl⟩

theorem empty_str (s : ByteArray) (h : s.size = 0) : s = ⟨#[]⟩ := by
  cases s with
  | mk a => have : a = #[] := Array.eq_empty_of_size_eq_zero h; rw [this]

set_option maxHeartbeats 1000000 in
set_option maxRecDepth 100000 in
/-- zzDecodeDef, the description empty -/
theorem decDef2 (w : World) (b off c : Nat) (d : De) (hd : d.ok) (hz : d.desc.size = 0) (hat : At w b off d.enc) (hc : d.enc.length ≤ c) :
    Calls Try.prog 30 #[.slice (some ⟨b, off, none⟩) d.enc.length c] w fun e w' =>
      e = .returned (.tuple #[.agg #[.string d.desc, .int .u8 (d.ty : Int), .int .u8 (d.card : Int)], .bool true]) ∧ ∃ o1 o2, w' = (w.alloc o1).alloc o2 := by
  obtain ⟨s, t, q⟩ := d
  obtain ⟨ht, hq, hs⟩ := hd
  simp only at ht hq hs hz ⊢
  have lt4 := vb_length t
  have lq4 := vb_length q
  obtain ⟨p, hp⟩ : ∃ p : List UInt8, p = De.enc ⟨s, t, q⟩ := ⟨_, rfl⟩
  have hpe : p = 16 :: (vb t ++ 24 :: vb q) := by rw [hp]; unfold De.enc; simp only; rw [if_pos hz]; rfl
  rw [← hp] at hat hc ⊢
  obtain rfl := empty_str s hz
  obtain ⟨F, hF⟩ : ∃ F, F = 1 + (vb t).length := ⟨_, rfl⟩
  obtain ⟨G, hG⟩ : ∃ G, G = F + 1 + (vb q).length := ⟨_, rfl⟩
  have lp : p.length = G := by rw [hpe]; simp; omega
  have d0 : p.drop 0 = 16 :: (vb t ++ 24 :: vb q) := by rw [List.drop_zero]; exact hpe
  have dE1 : p.drop 1 = vb t ++ 24 :: vb q := by rw [hpe]; rfl
  have dF : p.drop F = 24 :: vb q := by rw [hF, ← List.drop_drop, dE1]; simp
  have dF1 : p.drop (F + 1) = vb q ++ [] := by rw [← List.drop_drop, dF]; simp
  have c0 := (hat.cellAt 0 d0 0 16 rfl).2
  have cF := (hat.cellAt F dF 0 24 rfl).2
  simp only [Nat.add_zero] at c0 cF
  replace c0 : w.cell? ⟨b, off, none⟩ = some (.int .u8 16) := c0
  replace cF : w.cell? ⟨b, off + F, none⟩ = some (.int .u8 24) := cF
  have hb : b < w.heap.size := World.block_lt_of_cell? w _ c0
  have hb2 : b < w.heap.size + 1 := by omega
  have iFG : F < p.length := by omega
  have i0 : 0 < p.length := by omega
  have i00 : ¬ p.length = 0 := by omega
  have i01 : ¬ p = [] := by intro h; rw [h] at i0; simp at i0
  have bG : p.length < 2097152 := by omega
  have hGe : ((G : Int) == (p.length : Int)) = true := by rw [beq_iff_eq]; omega
  have K3 : Hid (F = 1 + (vb t).length) := hF
  have K4 : Hid (G = F + 1 + (vb q).length) := hG
  have D1 : Hid (p.drop 1 = vb t ++ 24 :: vb q) := dE1
  have D2 : Hid (p.drop (F + 1) = vb q ++ []) := dF1
  clear lp d0 dE1 dF dF1 hF hG hpe hp hz
  go_enter Try.func30, Try.ntmps30
  go_wp2_with fail
  refine (varintE _ b off c p (24 :: vb q) 1 1 t F rfl K3.out ((hat.alloc _).alloc _) D1.out (by omega) (by omega)).mono ?_
  rintro e w1 ⟨rfl, rfl⟩
  go_wp2_with fail
  refine (varintE _ b off c p [] _ (F + 1) q G (by omega) K4.out ((hat.alloc _).alloc _) D2.out (by omega) (by omega)).mono ?_
  rintro e w1 ⟨rfl, rfl⟩
  go_wp2
  refine bodyPost_ret (v := .tuple #[.agg #[.string ⟨#[]⟩, .int .u8 (t : Int), .int .u8 (q : Int)], .bool true]) (by simp [results, Try.results30, go_sem, hGe]) rfl ⟨rfl, _, _, rfl⟩

/-- zzDecodeDef, at the bytes of a definition -/
theorem decDef_any (w : World) (b off c : Nat) (d : De) (hd : d.ok) (hat : At w b off d.enc) (hc : d.enc.length ≤ c) :
    Calls Try.prog 30 #[.slice (some ⟨b, off, none⟩) d.enc.length c] w fun e w' =>
      e = .returned (.tuple #[.agg #[.string d.desc, .int .u8 (d.ty : Int), .int .u8 (d.card : Int)], .bool true]) ∧ ∃ o1 o2, w' = (w.alloc o1).alloc o2 := by
  by_cases hz : d.desc.size = 0
  · exact decDef2 w b off c d hd hz hat hc
  · exact decDef1 w b off c d hd hz hat hc

/-- a piece of what is read, its string -/
theorem piece_str {w : World} {b off A E : Nat} {p rest : List UInt8} {s : ByteArray} (hat : At w b off p) (hp : p.drop A = s.data.toList ++ rest) (hE : E = A + s.data.toList.length) (wx : World) (hg : w.grownBy wx none) (cc : Nat) :
    Sem.run Try.prog (convert 23 9 (.slice (some ⟨b, off + A, none⟩) (E - A) cc)) wx = .ok (.string s) wx := by
  have h := run_str wx b (off + A) (E - A) cc none s.data.toList ((hat.sub A hp).kept hg (fun _ => by simp)) (by omega) (fun _ => rfl)
  rw [eta_str] at h
  exact h
theorem none_alloc2 (w : World) (o1 o2 : Obj) : w.grownBy ((w.alloc o1).alloc o2) none := none_trans (World.grownBy_alloc _ _ _) (World.grownBy_alloc _ _ _)

set_option maxHeartbeats 1000000 in
set_option maxRecDepth 100000 in
/-- zzDecodeAttr, at the bytes of an attribute -/
theorem decAttr_any (w : World) (b off c : Nat) (a : Am) (ha : a.ok) (hat : At w b off a.enc) (hc : a.enc.length ≤ c) :
    Calls Try.prog 31 #[.slice (some ⟨b, off, none⟩) a.enc.length c] w fun e w' =>
      e = .returned (.tuple #[.agg #[.string a.name, .string a.de.desc, .int .u8 (a.de.ty : Int), .int .u8 (a.de.card : Int)], .bool true]) ∧ w.grownBy w' none := by
  obtain ⟨s, d⟩ := a
  obtain ⟨hd, hs⟩ := ha
  simp only at hd hs ⊢
  have esz : s.data.toList.length = s.size := rfl
  have le := De.enc_length d hd
  have lv1 := vb_length s.data.toList.length
  have lv2 := vb_length d.enc.length
  have lpos : 0 < d.enc.length := by unfold De.enc; simp; omega
  obtain ⟨p, hp⟩ : ∃ p : List UInt8, p = Am.enc ⟨s, d⟩ := ⟨_, rfl⟩
  have hpe : p = fld 10 s.data.toList ++ (fld 18 d.enc ++ []) := by rw [hp]; unfold Am.enc; simp
  rw [← hp] at hat hc ⊢
  obtain ⟨A, hA⟩ : ∃ A, A = 0 + 1 + (vb s.data.toList.length).length := ⟨_, rfl⟩
  obtain ⟨E, hE⟩ : ∃ E, E = A + s.data.toList.length := ⟨_, rfl⟩
  obtain ⟨A2, hA2⟩ : ∃ A2, A2 = E + 1 + (vb d.enc.length).length := ⟨_, rfl⟩
  obtain ⟨E2, hE2⟩ : ∃ E2, E2 = A2 + d.enc.length := ⟨_, rfl⟩
  obtain ⟨F1, hF1⟩ : ∃ F : List UInt8, F = fld 10 s.data.toList := ⟨_, rfl⟩
  have lE : F1.length = E := by rw [hF1, hE, hA]; simp only [fld, List.length_cons, List.length_append]; omega
  have lF2 : (fld 18 d.enc).length = 1 + (vb d.enc.length).length + d.enc.length := by simp only [fld, List.length_cons, List.length_append]; omega
  have lp : p.length = E2 := by rw [hpe, ← hF1, List.length_append, List.length_append, lF2, lE]; simp; omega
  have d0 : p.drop 0 = fld 10 s.data.toList ++ (fld 18 d.enc ++ []) := by rw [List.drop_zero]; exact hpe
  have dE : p.drop E = fld 18 d.enc ++ [] := by rw [hpe, ← hF1, ← lE]; simp
  have dA : p.drop A = s.data.toList ++ (fld 18 d.enc ++ []) := drop_fld _ _ _ _ hpe _ hA
  have dA2 : p.drop A2 = d.enc ++ [] := by
    have h1 : (p.drop E).drop (1 + (vb d.enc.length).length) = d.enc ++ [] := by rw [dE]; exact drop_fld0 _ _ _
    rw [List.drop_drop] at h1
    rw [hA2, Nat.add_assoc]; exact h1
  have hAs := hat.sub A2 dA2
  have hb : b < w.heap.size := hAs.lt lpos
  have hb2 : b < w.heap.size + 1 := by omega
  have iAE : A ≤ E := by omega
  have iE2 : A2 ≤ E2 := by omega
  have iA2 : E2 ≤ p.length := by omega
  have iEG : E < p.length := by omega
  have hAc : ¬ A = c := by omega
  have hA2c : ¬ A2 = c := by omega
  have hcl : d.enc.length ≤ c - A2 := by omega
  have bG : p.length < 4194304 := by omega
  have hGe : ((E2 : Int) == (p.length : Int)) = true := by rw [beq_iff_eq]; omega
  have hs1 := fun (o1 o2 : Obj) (cc : Nat) => piece_str hat dA hE _ (none_alloc2 w o1 o2) cc
  have L2 : Hid (E2 - A2 = d.enc.length) := (by omega : E2 - A2 = d.enc.length)
  have K1 : Hid (A = 0 + 1 + (vb s.data.toList.length).length) := hA
  have K2 : Hid (E = A + s.data.toList.length) := hE
  have K3 : Hid (A2 = E + 1 + (vb d.enc.length).length) := hA2
  have K4 : Hid (E2 = A2 + d.enc.length) := hE2
  have D0 : Hid (p.drop 0 = fld 10 s.data.toList ++ (fld 18 d.enc ++ [])) := d0
  have D1 : Hid (p.drop E = fld 18 d.enc ++ []) := dE
  clear lp d0 dE dA dA2 lE hA hE hA2 hE2 hpe hp esz lF2 hF1
  go_enter Try.func31, Try.ntmps31
  go_wp2_with fail
  refine (fieldE _ b off c p s.data.toList _ _ _ 0 10 A E rfl rfl K1.out K2.out ((hat.alloc _).alloc _) D0.out (by omega) (by omega)).mono ?_
  rintro e w1 ⟨rfl, rfl⟩
  go_wp2_with fail
  refine (fieldE _ b off c p d.enc _ _ _ E 18 A2 E2 rfl rfl K3.out K4.out ((hat.alloc _).alloc _) D1.out (by omega) (by omega)).mono ?_
  rintro e w1 ⟨rfl, rfl⟩
  go_wp2_with fail
  rw [L2.out]
  refine (decDef_any _ b (off + A2) _ d hd ((hAs.alloc _).alloc _) hcl).mono ?_
  rintro e w1 ⟨rfl, o1, o2, rfl⟩
  go_wp2
  refine bodyPost_ret (v := .tuple #[.agg #[.string s, .string d.desc, .int .u8 (d.ty : Int), .int .u8 (d.card : Int)], .bool true]) (by simp [results, Try.results31, go_sem]) rfl ⟨rfl, ?_⟩
  repeat (first | exact World.grownBy_alloc _ _ _ | refine none_trans ?_ (World.grownBy_alloc _ _ _))

end Go.Proofs.Qxb6629102a
