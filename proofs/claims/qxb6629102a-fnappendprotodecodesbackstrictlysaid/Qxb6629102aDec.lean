import Derived.Test.Qxb6629102aBytes
namespace Go.Proofs.Qxb6629102a
open Go.RowKit
set_option linter.unusedSimpArgs false
set_option linter.unusedVariables false

theorem and7 (x : Int) (h0 : 0 ≤ x) (h1 : x < 256) : bits .and .u8 x 127 = x % 128 := bits_mask .u8 8 (by decide) wraps_u8 7 (by decide) x h0 h1
theorem orJ (k : Nat) (a m : Int) (h0 : 0 ≤ a) (h1 : a < 2 ^ k) (h2 : 0 ≤ m) (h3 : m * 2 ^ k + a < 18446744073709551616) : bits .or .u64 a (m * 2 ^ k) = m * 2 ^ k + a := by
  obtain ⟨x, rfl⟩ := Int.eq_ofNat_of_zero_le h0
  obtain ⟨y, rfl⟩ := Int.eq_ofNat_of_zero_le h2
  have e : ((y : Int) * 2 ^ k) = ((y * 2 ^ k : Nat) : Int) := by simp
  have hx : x < 2 ^ k := by
    have : ((x : Nat) : Int) < ((2 ^ k : Nat) : Int) := by simpa using h1
    omega
  rw [e] at h3 ⊢
  rw [u64_or_nat _ _ (by omega) (by omega), Nat.or_comm]
  rw [nat_join k (y * 2 ^ k) x (Nat.mul_mod_left _ _) hx]
  omega

set_option maxHeartbeats 400000 in
set_option maxRecDepth 100000 in
theorem decv1 (w : World) (b off i len c : Nat) (n : Int) (g0 : 0 ≤ n) (h0 : n < 128) (hi : i < len) (hl : len < 1073741824) (c0 : w.cell? ⟨b, off + i, none⟩ = some (.int .u8 n)) :
    Calls Try.prog 29 #[.slice (some ⟨b, off, none⟩) len c, .int .i64 (i : Int)] w fun e w' => e = .returned (.tuple #[.int .u64 n, .int .i64 ((i : Int) + 1), .bool true]) ∧ w = w' := by
  have a0 := and7 n g0 (by omega)
  rw [Int.emod_eq_of_lt g0 h0] at a0
  have o0 : bits .or .u64 0 n = n := by have := orJ 0 0 n (by omega) (by omega) g0 (by omega); simpa using this
  go_enter Try.func29, Try.ntmps29
  go_wp2
  refine wp_loop_rounds 1 ?_
  rw [rounds_succ]
  go_wp2
  go_ret3
  exact ⟨rfl, rfl⟩

set_option maxHeartbeats 400000 in
set_option maxRecDepth 100000 in
theorem decv2 (w : World) (b off i len c : Nat) (n : Int) (g0 : 128 ≤ n) (h0 : n < 16384) (hi : i + 1 < len) (hl : len < 1073741824) (c0 : w.cell? ⟨b, off + i, none⟩ = some (.int .u8 (n % 128 + 128))) (c1 : w.cell? ⟨b, off + (i + 1), none⟩ = some (.int .u8 (n / 128))) :
    Calls Try.prog 29 #[.slice (some ⟨b, off, none⟩) len c, .int .i64 (i : Int)] w fun e w' => e = .returned (.tuple #[.int .u64 n, .int .i64 ((i : Int) + 2), .bool true]) ∧ w = w' := by
  obtain ⟨m0, e0⟩ : ∃ m, m = n % 128 := ⟨_, rfl⟩
  obtain ⟨m1, e1⟩ : ∃ m, m = n / 128 := ⟨_, rfl⟩
  rw [← e0] at c0
  rw [← e1] at c1
  have b0 : 0 ≤ m0 ∧ m0 < 128 := by omega
  have b1 : 1 ≤ m1 ∧ m1 < 128 := by omega
  have en : m1 * 128 + m0 = n := by omega
  obtain ⟨b01, b02⟩ := b0
  obtain ⟨b11, b12⟩ := b1
  have HN : Hid (m1 * 128 + m0 = n) := en
  clear e0 e1 en
  have a0 : bits .and .u8 (m0 + 128) 127 = m0 := by rw [and7 _ (by omega) (by omega)]; omega
  have a1 : bits .and .u8 m1 127 = m1 := by rw [and7 _ (by omega) (by omega)]; omega
  have o0 : bits .or .u64 0 m0 = m0 := by have := orJ 0 0 m0 (by omega) (by omega) (by omega) (by omega); simpa using this
  have o1 : bits .or .u64 m0 (m1 * 128) = m1 * 128 + m0 := orJ 7 m0 m1 (by omega) (by omega) (by omega) (by omega)
  go_enter Try.func29, Try.ntmps29
  go_wp2
  refine wp_loop_rounds 2 ?_
  rw [rounds_succ]
  go_wp2
  rw [rounds_succ]
  go_wp2
  go_ret3
  exact ⟨by rw [← HN.out]; rfl, rfl⟩

set_option maxHeartbeats 400000 in
set_option maxRecDepth 100000 in
theorem decv3 (w : World) (b off i len c : Nat) (n : Int) (g0 : 16384 ≤ n) (h0 : n < 2097152) (hi : i + 2 < len) (hl : len < 1073741824) (c0 : w.cell? ⟨b, off + i, none⟩ = some (.int .u8 (n % 128 + 128))) (c1 : w.cell? ⟨b, off + (i + 1), none⟩ = some (.int .u8 (n / 128 % 128 + 128)))
    (c2 : w.cell? ⟨b, off + (i + 2), none⟩ = some (.int .u8 (n / 16384))) :
    Calls Try.prog 29 #[.slice (some ⟨b, off, none⟩) len c, .int .i64 (i : Int)] w fun e w' => e = .returned (.tuple #[.int .u64 n, .int .i64 ((i : Int) + 3), .bool true]) ∧ w = w' := by
  obtain ⟨m0, e0⟩ : ∃ m, m = n % 128 := ⟨_, rfl⟩
  obtain ⟨m1, e1⟩ : ∃ m, m = n / 128 % 128 := ⟨_, rfl⟩
  obtain ⟨m2, e2⟩ : ∃ m, m = n / 16384 := ⟨_, rfl⟩
  rw [← e0] at c0
  rw [← e1] at c1
  rw [← e2] at c2
  have b0 : 0 ≤ m0 ∧ m0 < 128 := by omega
  have b1 : 0 ≤ m1 ∧ m1 < 128 := by omega
  have b2 : 1 ≤ m2 ∧ m2 < 128 := by omega
  have en : m2 * 16384 + (m1 * 128 + m0) = n := by omega
  obtain ⟨b01, b02⟩ := b0
  obtain ⟨b11, b12⟩ := b1
  obtain ⟨b21, b22⟩ := b2
  have HN : Hid (m2 * 16384 + (m1 * 128 + m0) = n) := en
  clear e0 e1 e2 en
  have a0 : bits .and .u8 (m0 + 128) 127 = m0 := by rw [and7 _ (by omega) (by omega)]; omega
  have a1 : bits .and .u8 (m1 + 128) 127 = m1 := by rw [and7 _ (by omega) (by omega)]; omega
  have a2 : bits .and .u8 m2 127 = m2 := by rw [and7 _ (by omega) (by omega)]; omega
  have o0 : bits .or .u64 0 m0 = m0 := by have := orJ 0 0 m0 (by omega) (by omega) (by omega) (by omega); simpa using this
  have o1 : bits .or .u64 m0 (m1 * 128) = m1 * 128 + m0 := orJ 7 m0 m1 (by omega) (by omega) (by omega) (by omega)
  have o2 : bits .or .u64 (m1 * 128 + m0) (m2 * 16384) = m2 * 16384 + (m1 * 128 + m0) := orJ 14 (m1 * 128 + m0) m2 (by omega) (by omega) (by omega) (by omega)
  go_enter Try.func29, Try.ntmps29
  go_wp2
  refine wp_loop_rounds 3 ?_
  rw [rounds_succ]
  go_wp2
  rw [rounds_succ]
  go_wp2
  rw [rounds_succ]
  go_wp2
  go_ret3
  exact ⟨by rw [← HN.out]; rfl, rfl⟩

set_option maxHeartbeats 400000 in
set_option maxRecDepth 100000 in
theorem decv4 (w : World) (b off i len c : Nat) (n : Int) (g0 : 2097152 ≤ n) (h0 : n < 268435456) (hi : i + 3 < len) (hl : len < 1073741824) (c0 : w.cell? ⟨b, off + i, none⟩ = some (.int .u8 (n % 128 + 128))) (c1 : w.cell? ⟨b, off + (i + 1), none⟩ = some (.int .u8 (n / 128 % 128 + 128)))
    (c2 : w.cell? ⟨b, off + (i + 2), none⟩ = some (.int .u8 (n / 16384 % 128 + 128))) (c3 : w.cell? ⟨b, off + (i + 3), none⟩ = some (.int .u8 (n / 2097152))) :
    Calls Try.prog 29 #[.slice (some ⟨b, off, none⟩) len c, .int .i64 (i : Int)] w fun e w' => e = .returned (.tuple #[.int .u64 n, .int .i64 ((i : Int) + 4), .bool true]) ∧ w = w' := by
  obtain ⟨m0, e0⟩ : ∃ m, m = n % 128 := ⟨_, rfl⟩
  obtain ⟨m1, e1⟩ : ∃ m, m = n / 128 % 128 := ⟨_, rfl⟩
  obtain ⟨m2, e2⟩ : ∃ m, m = n / 16384 % 128 := ⟨_, rfl⟩
  obtain ⟨m3, e3⟩ : ∃ m, m = n / 2097152 := ⟨_, rfl⟩
  rw [← e0] at c0
  rw [← e1] at c1
  rw [← e2] at c2
  rw [← e3] at c3
  have b0 : 0 ≤ m0 ∧ m0 < 128 := by omega
  have b1 : 0 ≤ m1 ∧ m1 < 128 := by omega
  have b2 : 0 ≤ m2 ∧ m2 < 128 := by omega
  have b3 : 1 ≤ m3 ∧ m3 < 128 := by omega
  have en : m3 * 2097152 + (m2 * 16384 + (m1 * 128 + m0)) = n := by omega
  obtain ⟨b01, b02⟩ := b0
  obtain ⟨b11, b12⟩ := b1
  obtain ⟨b21, b22⟩ := b2
  obtain ⟨b31, b32⟩ := b3
  have HN : Hid (m3 * 2097152 + (m2 * 16384 + (m1 * 128 + m0)) = n) := en
  clear e0 e1 e2 e3 en
  have a0 : bits .and .u8 (m0 + 128) 127 = m0 := by rw [and7 _ (by omega) (by omega)]; omega
  have a1 : bits .and .u8 (m1 + 128) 127 = m1 := by rw [and7 _ (by omega) (by omega)]; omega
  have a2 : bits .and .u8 (m2 + 128) 127 = m2 := by rw [and7 _ (by omega) (by omega)]; omega
  have a3 : bits .and .u8 m3 127 = m3 := by rw [and7 _ (by omega) (by omega)]; omega
  have o0 : bits .or .u64 0 m0 = m0 := by have := orJ 0 0 m0 (by omega) (by omega) (by omega) (by omega); simpa using this
  have o1 : bits .or .u64 m0 (m1 * 128) = m1 * 128 + m0 := orJ 7 m0 m1 (by omega) (by omega) (by omega) (by omega)
  have o2 : bits .or .u64 (m1 * 128 + m0) (m2 * 16384) = m2 * 16384 + (m1 * 128 + m0) := orJ 14 (m1 * 128 + m0) m2 (by omega) (by omega) (by omega) (by omega)
  have o3 : bits .or .u64 (m2 * 16384 + (m1 * 128 + m0)) (m3 * 2097152) = m3 * 2097152 + (m2 * 16384 + (m1 * 128 + m0)) := orJ 21 (m2 * 16384 + (m1 * 128 + m0)) m3 (by omega) (by omega) (by omega) (by omega)
  go_enter Try.func29, Try.ntmps29
  go_wp2
  refine wp_loop_rounds 4 ?_
  rw [rounds_succ]
  go_wp2
  rw [rounds_succ]
  go_wp2
  rw [rounds_succ]
  go_wp2
  rw [rounds_succ]
  go_wp2
  go_ret3
  exact ⟨by rw [← HN.out]; rfl, rfl⟩

/-- a cell out of the bytes behind i -/
theorem At.cellAt {w : World} {b off : Nat} {p l : List UInt8} (h : At w b off p) (i : Nat) (hp : p.drop i = l) (j : Nat) (c : UInt8) (hj : l[j]? = some c) : i + j < p.length ∧ w.cell? ⟨b, off + (i + j), none⟩ = some (bv c) := by
  subst hp
  rw [List.getElem?_drop] at hj
  have hlt : i + j < p.length := by
    rcases Nat.lt_or_ge (i + j) p.length with h | h
    · exact h
    · rw [List.getElem?_eq_none h] at hj; cases hj
  refine ⟨hlt, ?_⟩
  rw [h _ hlt, List.getD_eq_getElem?_getD, hj]; rfl

/-- zzVarint, at bytes that begin with a varint -/
theorem varintD (w : World) (b off c : Nat) (p rest : List UInt8) (i n : Nat) (hat : At w b off p) (hp : p.drop i = vb n ++ rest) (hn : n < 268435456) (hl : p.length < 1073741824) :
    Calls Try.prog 29 #[.slice (some ⟨b, off, none⟩) p.length c, .int .i64 (i : Int)] w fun e w' => e = .returned (.tuple #[.int .u64 (n : Int), .int .i64 ((i : Int) + ((vb n).length : Int)), .bool true]) ∧ w = w' := by
  unfold vb at hp ⊢
  by_cases a1 : n < 128
  · rw [if_pos a1] at hp ⊢
    have d0 := hat.cellAt i hp 0 (UInt8.ofNat n) rfl
    rw [bv_ofNat _ (by omega)] at d0
    exact decv1 w b off i p.length c n (by omega) (by omega) d0.1 hl d0.2
  rw [if_neg a1] at hp ⊢
  by_cases a2 : n < 16384
  · rw [if_pos a2] at hp ⊢
    have d0 := hat.cellAt i hp 0 _ rfl
    have d1 := hat.cellAt i hp 1 _ rfl
    rw [bv_ofNat _ (by omega)] at d0 d1
    exact decv2 w b off i p.length c n (by omega) (by omega) d1.1 hl (by simpa using d0.2) (by simpa using d1.2)
  rw [if_neg a2] at hp ⊢
  by_cases a3 : n < 2097152
  · rw [if_pos a3] at hp ⊢
    have d0 := hat.cellAt i hp 0 _ rfl
    have d1 := hat.cellAt i hp 1 _ rfl
    have d2 := hat.cellAt i hp 2 _ rfl
    rw [bv_ofNat _ (by omega)] at d0 d1 d2
    exact decv3 w b off i p.length c n (by omega) (by omega) d2.1 hl (by simpa using d0.2) (by simpa using d1.2) (by simpa using d2.2)
  rw [if_neg a3] at hp ⊢
  have d0 := hat.cellAt i hp 0 _ rfl
  have d1 := hat.cellAt i hp 1 _ rfl
  have d2 := hat.cellAt i hp 2 _ rfl
  have d3 := hat.cellAt i hp 3 _ rfl
  rw [bv_ofNat _ (by omega)] at d0 d1 d2 d3
  exact decv4 w b off i p.length c n (by omega) (by omega) d3.1 hl (by simpa using d0.2) (by simpa using d1.2) (by simpa using d2.2) (by simpa using d3.2)

set_option maxHeartbeats 400000 in
/-- zzField, at bytes that begin with that field -/
theorem fieldD (w : World) (b off c : Nat) (p m rest : List UInt8) (i tag : Nat) (hat : At w b off p) (hp : p.drop i = fld tag m ++ rest) (ht : tag < 128) (hl : p.length < 268435456) :
    Calls Try.prog 20 #[.slice (some ⟨b, off, none⟩) p.length c, .int .i64 (i : Int), .int .u8 (tag : Int)] w fun e w' =>
      e = .returned (.tuple #[.int .i64 ((i : Int) + 1 + ((vb m.length).length : Int)), .int .i64 ((i : Int) + 1 + ((vb m.length).length : Int) + (m.length : Int)), .bool true]) ∧ w = w' := by
  have hlen := congrArg List.length hp
  simp [fld] at hlen
  have d0 := hat.cellAt i hp 0 (UInt8.ofNat tag) rfl
  rw [bv_ofNat _ (by omega)] at d0
  obtain ⟨d1, d2⟩ := d0
  simp only [Nat.add_zero] at d1 d2
  have hp2 : p.drop (i + 1) = vb m.length ++ (m ++ rest) := by
    have : p.drop (i + 1) = (p.drop i).drop 1 := by rw [List.drop_drop]
    rw [this, hp]; simp [fld]
  have hv := varintD w b off c p (m ++ rest) (i + 1) m.length hat hp2 (by omega) (by omega)
  obtain ⟨vl, hvl⟩ : ∃ vl : Nat, vl = (vb m.length).length := ⟨_, rfl⟩
  obtain ⟨ml, hml⟩ : ∃ ml : Nat, ml = m.length := ⟨_, rfl⟩
  rw [← hvl, ← hml] at hv
  rw [← hvl, ← hml] at hlen ⊢
  have hq : (((tag : Nat) : Int) != (tag : Int)) = false := by simp
  have hlt : i + 1 + vl + ml ≤ p.length := by omega
  clear hlen hp hp2 hvl hml hat
  rw [show ((i + 1 : Nat) : Int) = (i : Int) + 1 from by omega] at hv
  go_enter Try.func20, Try.ntmps20
  go_wp2_with fail
  refine hv.mono ?_
  rintro e w' ⟨rfl, rfl⟩
  clear hv
  go_wp2
  go_ret3
  exact ⟨rfl, rfl⟩

/-- zzCountFrames, at a list of fields -/
def frames (ms : List (List UInt8)) : List UInt8 := (ms.map (fld 10)).flatten

theorem frames_drop (ms : List (List UInt8)) (k : Nat) (h : k < ms.length) : (frames ms).drop (frames (ms.take k)).length = fld 10 ms[k] ++ frames (ms.drop (k + 1)) := by
  have e : frames ms = frames (ms.take k) ++ (fld 10 ms[k] ++ frames (ms.drop (k + 1))) := by
    unfold frames
    rw [← List.flatten_cons, ← List.map_cons (f := fld 10), ← List.flatten_append, ← List.map_append, List.getElem_cons_drop h, List.take_append_drop]
  rw [e]; simp
theorem frames_take (ms : List (List UInt8)) (k : Nat) (h : k < ms.length) : (frames (ms.take (k + 1))).length = (frames (ms.take k)).length + 1 + (vb ms[k].length).length + ms[k].length := by
  unfold frames
  rw [List.take_succ_eq_append_getElem h, List.map_append, List.flatten_append]
  simp [fld]; omega
theorem frames_le (ms : List (List UInt8)) (k : Nat) : (frames (ms.take k)).length ≤ (frames ms).length := by
  have e : frames ms = frames (ms.take k) ++ frames (ms.drop k) := by
    unfold frames
    rw [← List.flatten_append, ← List.map_append, List.take_append_drop]
  rw [e, List.length_append]; omega
theorem frames_ge (ms : List (List UInt8)) : ms.length ≤ (frames ms).length := by
  unfold frames
  induction ms with
  | nil => simp
  | cons a l ih =>
    simp only [List.map_cons, List.flatten_cons, List.length_append, List.length_cons]
    have : 1 ≤ (fld 10 a).length := by simp [fld]
    omega
theorem frames_lt (ms : List (List UInt8)) (k : Nat) (h : k < ms.length) : (frames (ms.take k)).length < (frames ms).length := by
  have h1 := frames_take ms k h
  have h2 := frames_le ms (k + 1)
  omega

set_option maxHeartbeats 400000 in
theorem countD (w : World) (b off c : Nat) (ms : List (List UInt8)) (hat : At w b off (frames ms)) (hl : (frames ms).length < 268435456) :
    Calls Try.prog 14 #[.slice (some ⟨b, off, none⟩) (frames ms).length c] w fun e w' => e = .returned (.int .i64 (ms.length : Int)) ∧ w = w' := by
  have hg := frames_ge ms
  obtain ⟨p, hp⟩ : ∃ p : List UInt8, p = frames ms := ⟨_, rfl⟩
  rw [← hp] at hat hl hg ⊢
  have HP : Hid (p = frames ms) := hp
  clear hp
  go_enter Try.func14, Try.ntmps14
  go_wp2
  go_loop [3, 4] (fun n i => ∃ k : Nat, k ≤ ms.length ∧ n = .int .i64 k ∧ i = .int .i64 ((frames (ms.take k)).length : Nat)) (fun n _ => ms.length - (intOf n).toNat)
  case atStart => exact ⟨0, Nat.zero_le _, rfl, by simp [frames]⟩
  case round =>
    obtain ⟨k, hk, rfl, rfl⟩ := hrel
    by_cases hlt : k < ms.length
    · have f1 := frames_drop ms k hlt
      have f2 := frames_take ms k hlt
      have f3 := frames_lt ms k hlt
      have f4 := frames_le ms (k + 1)
      obtain ⟨q, hq⟩ : ∃ q : Nat, q = (frames (ms.take k)).length := ⟨_, rfl⟩
      obtain ⟨q2, hq2⟩ : ∃ q : Nat, q = (frames (ms.take (k + 1))).length := ⟨_, rfl⟩
      rw [← hq, ← HP.out] at f1
      rw [← hq, ← hq2] at f2
      rw [← hq, ← HP.out] at f3
      rw [← hq2, ← HP.out] at f4
      rw [← hq]
      have hF := fieldD w b off c p ms[k] _ q 10 hat f1 (by omega) hl
      obtain ⟨vl, hvl⟩ : ∃ vl : Nat, vl = (vb ms[k].length).length := ⟨_, rfl⟩
      obtain ⟨ml, hml⟩ : ∃ ml : Nat, ml = ms[k].length := ⟨_, rfl⟩
      rw [← hvl, ← hml] at hF f2
      have HQ2 : Hid (q2 = (frames (ms.take (k + 1))).length) := hq2
      have HF2 : Hid (q2 = q + 1 + vl + ml) := f2
      have f5 : q + 1 + vl + ml ≤ p.length := by omega
      clear hq hq2 hvl hml f1 f2 f4 hat
      go_wp2_with fail
      refine hF.mono ?_
      rintro e w' ⟨rfl, rfl⟩
      clear hF
      go_wp2
      go_round
      case rel => exact ⟨k + 1, by omega, by go_num, by rw [← HQ2.out, HF2.out]; go_num⟩
      case measure => simp [intOf]; omega
    · have ek : ms.take k = ms := List.take_of_length_le (by omega)
      rw [ek, ← HP.out]
      have hkk : k = ms.length := by omega
      subst hkk
      clear ek hlt hat
      go_wp2
      go_ret
      exact ⟨rfl, rfl⟩

end Go.Proofs.Qxb6629102a
