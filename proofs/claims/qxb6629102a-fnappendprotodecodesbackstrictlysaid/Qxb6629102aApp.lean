import Derived.Test.Qxb6629102aLeaf
import Derived.Deep.AppendLies
import Derived.Lib.AppendStr
namespace Go.Proofs.Qxb6629102a
open Go.RowKit

theorem Try.info5 : (Try.prog.info? 5).map (fun i => (i.zero, i.size, i.bytes)) = some (some (.int .u8 0), 1, 1) := by kernel_rfl

/-- a byte as it lies in memory -/
def bv (c : UInt8) : Value := .int .u8 (c.toNat : Int)
/-- the slice value v is the call's own (blocks from base on) and holds the bytes bs -/
def OB (base : Nat) (w : World) (v : Value) (bs : List UInt8) : Prop := w.ownsRow base 5 1 v bs.length (bs.map bv)
/-- w' is w but for v's own row and new blocks; v' lies in v's row or in a new block -/
structure App (w : World) (v : Value) (w' : World) (v' : Value) : Prop where
  grown : w.grownBy w' v.ownBlock
  lies : v'.ownBlock = v.ownBlock ∨ ∃ g, v'.ownBlock = some g ∧ w.heap.size ≤ g

theorem App.of_alloc {w w1 : World} {v : Value} {o : Obj} {g n cap : Nat} (hg : (w.alloc o).grownBy w1 v.ownBlock) (hat : v.ownBlock = some g ∨ g = w.heap.size + 1) : App w v w1 (.slice (some ⟨g, 0, none⟩) n cap) := by
  refine ⟨(World.grownBy_alloc w o _).trans hg, ?_⟩
  rcases hat with h | h
  · exact .inl h.symm
  · exact .inr ⟨g, rfl, by omega⟩

theorem App.trans {a b c : World} {u v x : Value} (h : App a u b v) (k : App b v c x) : App a u c x := by
  refine ⟨⟨k.grown.os.trans h.grown.os, k.grown.tape.trans h.grown.tape, k.grown.output.trans h.grown.output, Nat.le_trans h.grown.size k.grown.size, ?_⟩, ?_⟩
  · intro i hi hne
    have hne2 : some i ≠ v.ownBlock := by
      rcases h.lies with e | ⟨g, e, hg⟩
      · rw [e]; exact hne
      · rw [e]; intro e2; cases e2; omega
    exact (k.grown.block i (Nat.lt_of_lt_of_le hi h.grown.size) hne2).trans (h.grown.block i hi hne)
  · rcases k.lies with e | ⟨g, e, hg⟩
    · rw [e]; exact h.lies
    · exact .inr ⟨g, e, Nat.le_trans h.grown.size hg⟩

theorem OB.lt {base : Nat} {w : World} {v : Value} {bs : List UInt8} (h : OB base w v bs) : ∀ g, v.ownBlock = some g → g < w.heap.size := fun g e => (World.ownsRow.lt h g e).2

/-- the bytes of n, least seven bits first, for n < 2^28 -/
def vb (n : Nat) : List UInt8 :=
  if n < 128 then [UInt8.ofNat n]
  else if n < 16384 then [UInt8.ofNat (n % 128 + 128), UInt8.ofNat (n / 128)]
  else if n < 2097152 then [UInt8.ofNat (n % 128 + 128), UInt8.ofNat (n / 128 % 128 + 128), UInt8.ofNat (n / 16384)]
  else [UInt8.ofNat (n % 128 + 128), UInt8.ofNat (n / 128 % 128 + 128), UInt8.ofNat (n / 16384 % 128 + 128), UInt8.ofNat (n / 2097152)]

theorem bv_ofNat (n : Nat) (h : n < 256) : bv (UInt8.ofNat n) = .int .u8 (n : Int) := by
  unfold bv; rw [UInt8.toNat_ofNat_of_lt' (by simpa using h)]

/-- the end of each way of AppendVarint -/
theorem varint_fin {base : Nat} {v : Value} {bs add : List UInt8} {w w1 : World} {cells : List Value} {o : Obj} {g cap m : Nat} (hm : m = cells.length) (hc : cells = add.map bv)
    (hown : w1.ownsRow base 5 1 (.slice (some ⟨g, 0, none⟩) (bs.length + m) cap) (bs.length + m) (bs.map bv ++ cells)) (hg : (w.alloc o).grownBy w1 v.ownBlock) (hat : v.ownBlock = some g ∨ g = w.heap.size + 1) :
    ∃ v', Ending.returned (.slice (some ⟨g, 0, none⟩) (bs.length + m) cap) = .returned v' ∧ OB base w1 v' (bs ++ add) ∧ App w v w1 v' := by
  refine ⟨_, rfl, ?_, App.of_alloc hg hat⟩
  subst hc
  unfold OB
  rw [List.length_append, List.map_append]
  rw [List.length_map] at hm
  subst hm
  exact hown

theorem cells_new1 (w : World) (cs : Array Value) : ∀ (j : Nat) (u : Value), cs.toList[j]? = some u → (w.alloc (.cells cs 5)).cell? ((⟨w.heap.size, 0, none⟩ : Addr).add j) = some u :=
  World.news_of_block (heap_alloc_new w (.cells cs 5))

set_option maxHeartbeats 400000 in
set_option maxRecDepth 100000 in
theorem varint1 (base : Nat) (v : Value) (bs : List UInt8) (n : Int) (w : World) (h0 : 0 ≤ n) (h1 : n < 128) (hown : OB base w v bs) (hb : base ≤ w.heap.size) (hl : bs.length < 1073741824) :
    Calls Try.prog 25 #[v, .int .u64 n] w fun e w' => ∃ v', e = .returned v' ∧ OB base w' v' (bs ++ [UInt8.ofNat n.toNat]) ∧ App w v w' v' := by
  obtain ⟨i0, hi, hz0, hz1, hz2⟩ := info_parts Try.info5
  unfold OB at hown
  go_enter Try.func25, Try.ntmps25
  go_wp2_with (at_builtin; refine wpList_append_lies _ rfl _ _ 23 rfl base 5 i0 (.int .u8 0) 1 1 Try.underlying23 hi hz0 hz1 hz2 rfl (by decide) v _ _ rfl (hown.alloc _) ⟨w.heap.size, 0, none⟩ 1 1 [.int .u8 n] rfl rfl (cells_new1 w _) (by simp [Value.oneCell']) (by decide) (by unfold maxLen; omega) (by omega) (by simp; omega) (w.heap.size + 1) (by simp) ?_; intro g cap w1 hown1 hgrow hat hlt)
  go_ret
  refine varint_fin (m := 1) rfl ?_ hown1 hgrow hat
  simp [bv_ofNat n.toNat (by omega), Int.toNat_of_nonneg h0]

theorem or7 (x : Int) (h0 : 0 ≤ x) (h1 : x < 268435456) : bits .or .u64 (bits .and .u64 x 127) 128 = x % 128 + 128 := by
  have e : bits .and .u64 x 127 = x % 128 := by
    rw [u64_and x 127 h0 (by omega) (by omega) (by omega)]
    have h := Nat.and_two_pow_sub_one_eq_mod x.toNat 7
    rw [show ((127 : Int).toNat) = 2 ^ 7 - 1 from rfl, h]; omega
  rw [e, u64_or _ 128 (by omega) (by omega) (by omega) (by omega)]
  rw [show ((128 : Int).toNat) = 128 from rfl, nat_join7' 128 _ (by omega) (by omega)]
  omega

set_option maxHeartbeats 400000 in
set_option maxRecDepth 100000 in
theorem varint2 (base : Nat) (v : Value) (bs : List UInt8) (n : Int) (w : World) (h0 : 128 ≤ n) (h1 : n < 16384) (hown : OB base w v bs) (hb : base ≤ w.heap.size) (hl : bs.length < 1073741824) :
    Calls Try.prog 25 #[v, .int .u64 n] w fun e w' => ∃ v', e = .returned v' ∧ OB base w' v' (bs ++ [UInt8.ofNat (n.toNat % 128 + 128), UInt8.ofNat (n.toNat / 128)]) ∧ App w v w' v' := by
  obtain ⟨i0, hi, hz0, hz1, hz2⟩ := info_parts Try.info5
  unfold OB at hown
  have e1 := or7 n (by omega) (by omega)
  go_enter Try.func25, Try.ntmps25
  go_wp2_with (at_builtin; go_loud (refine wpList_append_lies _ rfl _ _ 23 rfl base 5 i0 (.int .u8 0) 1 1 Try.underlying23 hi hz0 hz1 hz2 rfl (by decide) v _ _ rfl (hown.alloc _) ⟨w.heap.size, 0, none⟩ 2 2 [.int .u8 (n % 128 + 128), .int .u8 (n / 128)] rfl rfl (cells_new1 w _) (by simp [Value.oneCell']) (by decide) (by unfold maxLen; omega) (by omega) (by simp; omega) (w.heap.size + 1) (by simp) ?_; intro g cap w1 hown1 hgrow hat hlt))
  go_ret
  refine varint_fin (m := 2) rfl ?_ hown1 hgrow hat
  simp only [List.map_cons, List.map_nil]
  rw [bv_ofNat _ (by omega), bv_ofNat _ (by omega)]
  congr <;> omega

set_option maxHeartbeats 400000 in
set_option maxRecDepth 100000 in
theorem varint3 (base : Nat) (v : Value) (bs : List UInt8) (n : Int) (w : World) (h0 : 16384 ≤ n) (h1 : n < 2097152) (hown : OB base w v bs) (hb : base ≤ w.heap.size) (hl : bs.length < 1073741824) :
    Calls Try.prog 25 #[v, .int .u64 n] w fun e w' => ∃ v', e = .returned v' ∧ OB base w' v' (bs ++ [UInt8.ofNat (n.toNat % 128 + 128), UInt8.ofNat (n.toNat / 128 % 128 + 128), UInt8.ofNat (n.toNat / 16384)]) ∧ App w v w' v' := by
  obtain ⟨i0, hi, hz0, hz1, hz2⟩ := info_parts Try.info5
  unfold OB at hown
  have e1 := or7 n (by omega) (by omega)
  have e2 := or7 (n / 128) (by omega) (by omega)
  go_enter Try.func25, Try.ntmps25
  go_wp2_with (at_builtin; go_loud (refine wpList_append_lies _ rfl _ _ 23 rfl base 5 i0 (.int .u8 0) 1 1 Try.underlying23 hi hz0 hz1 hz2 rfl (by decide) v _ _ rfl (hown.alloc _) ⟨w.heap.size, 0, none⟩ 3 3 [.int .u8 (n % 128 + 128), .int .u8 (n / 128 % 128 + 128), .int .u8 (n / 16384)] rfl rfl (cells_new1 w _) (by simp [Value.oneCell']) (by decide) (by unfold maxLen; omega) (by omega) (by simp; omega) (w.heap.size + 1) (by simp) ?_; intro g cap w1 hown1 hgrow hat hlt))
  go_ret
  refine varint_fin (m := 3) rfl ?_ hown1 hgrow hat
  simp only [List.map_cons, List.map_nil]
  rw [bv_ofNat _ (by omega), bv_ofNat _ (by omega), bv_ofNat _ (by omega)]
  congr <;> omega

set_option maxHeartbeats 400000 in
set_option maxRecDepth 100000 in
theorem varint4 (base : Nat) (v : Value) (bs : List UInt8) (n : Int) (w : World) (h0 : 2097152 ≤ n) (h1 : n < 268435456) (hown : OB base w v bs) (hb : base ≤ w.heap.size) (hl : bs.length < 1073741824) :
    Calls Try.prog 25 #[v, .int .u64 n] w fun e w' => ∃ v', e = .returned v' ∧ OB base w' v' (bs ++ [UInt8.ofNat (n.toNat % 128 + 128), UInt8.ofNat (n.toNat / 128 % 128 + 128), UInt8.ofNat (n.toNat / 16384 % 128 + 128), UInt8.ofNat (n.toNat / 2097152)]) ∧ App w v w' v' := by
  obtain ⟨i0, hi, hz0, hz1, hz2⟩ := info_parts Try.info5
  unfold OB at hown
  have e1 := or7 n (by omega) (by omega)
  have e2 := or7 (n / 128) (by omega) (by omega)
  have e3 := or7 (n / 16384) (by omega) (by omega)
  go_enter Try.func25, Try.ntmps25
  go_wp2_with (at_builtin; go_loud (refine wpList_append_lies _ rfl _ _ 23 rfl base 5 i0 (.int .u8 0) 1 1 Try.underlying23 hi hz0 hz1 hz2 rfl (by decide) v _ _ rfl (hown.alloc _) ⟨w.heap.size, 0, none⟩ 4 4 [.int .u8 (n % 128 + 128), .int .u8 (n / 128 % 128 + 128), .int .u8 (n / 16384 % 128 + 128), .int .u8 (n / 2097152)] rfl rfl (cells_new1 w _) (by simp [Value.oneCell']) (by decide) (by unfold maxLen; omega) (by omega) (by simp; omega) (w.heap.size + 1) (by simp) ?_; intro g cap w1 hown1 hgrow hat hlt))
  go_ret
  refine varint_fin (m := 4) rfl ?_ hown1 hgrow hat
  simp only [List.map_cons, List.map_nil]
  rw [bv_ofNat _ (by omega), bv_ofNat _ (by omega), bv_ofNat _ (by omega), bv_ofNat _ (by omega)]
  congr <;> omega

/-- AppendVarint -/
theorem varint_any (base : Nat) (v : Value) (bs : List UInt8) (n : Int) (w : World) (h0 : 0 ≤ n) (h1 : n < 268435456) (hown : OB base w v bs) (hb : base ≤ w.heap.size) (hl : bs.length < 1073741824) :
    Calls Try.prog 25 #[v, .int .u64 n] w fun e w' => ∃ v', e = .returned v' ∧ OB base w' v' (bs ++ vb n.toNat) ∧ App w v w' v' := by
  unfold vb
  by_cases a1 : n < 128
  · rw [if_pos (by omega)]; exact varint1 base v bs n w h0 a1 hown hb hl
  rw [if_neg (by omega)]
  by_cases a2 : n < 16384
  · rw [if_pos (by omega)]; exact varint2 base v bs n w (by omega) a2 hown hb hl
  rw [if_neg (by omega)]
  by_cases a3 : n < 2097152
  · rw [if_pos (by omega)]; exact varint3 base v bs n w (by omega) a3 hown hb hl
  rw [if_neg (by omega)]
  exact varint4 base v bs n w (by omega) h1 hown hb hl

theorem vb_length (n : Nat) : 1 ≤ (vb n).length ∧ (vb n).length ≤ 4 := by
  unfold vb; repeat (split <;> try simp)

set_option maxHeartbeats 400000 in
/-- EncodeTag -/
theorem encodeTag_any (num typ : Int) (w : World) (h0 : 1 ≤ num) (h1 : num ≤ 6) (ht : typ = 0 ∨ typ = 2) :
    Calls Try.prog 26 #[.int .i32 num, .int .i8 typ] w fun e w' => e = .returned (.int .u64 (num * 8 + typ)) ∧ w = w' := by
  have hx : (bits .and .i8 typ 7) = typ := by rcases ht with rfl | rfl <;> rfl
  have hy : bits .or .u64 (num * 8) typ = num * 8 + typ := by
    have hn : num = 1 ∨ num = 2 ∨ num = 3 ∨ num = 4 ∨ num = 5 ∨ num = 6 := by omega
    rcases ht with rfl | rfl <;> rcases hn with rfl | rfl | rfl | rfl | rfl | rfl <;> rfl
  have ht2 : 0 ≤ typ ∧ typ ≤ 2 := by omega
  obtain ⟨t0, t1⟩ := ht2
  clear ht
  go_enter Try.func26, Try.ntmps26
  go_wp2
  go_ret
  exact ⟨rfl, rfl⟩

set_option maxHeartbeats 400000 in
/-- AppendTag -/
theorem appendTag_any (base : Nat) (v : Value) (bs : List UInt8) (num typ : Int) (w : World) (h0 : 1 ≤ num) (h1 : num ≤ 6) (ht : typ = 0 ∨ typ = 2) (hown : OB base w v bs) (hb : base ≤ w.heap.size) (hl : bs.length < 1073741824) :
    Calls Try.prog 17 #[v, .int .i32 num, .int .i8 typ] w fun e w' => ∃ v', e = .returned v' ∧ OB base w' v' (bs ++ [UInt8.ofNat (num * 8 + typ).toNat]) ∧ App w v w' v' := by
  have hr : 0 ≤ num * 8 + typ ∧ num * 8 + typ < 128 := by omega
  obtain ⟨r0, r1⟩ := hr
  have hvb : vb (num * 8 + typ).toNat = [UInt8.ofNat (num * 8 + typ).toNat] := by unfold vb; rw [if_pos (by omega)]
  have HT : Hid (typ = 0 ∨ typ = 2) := ht
  clear ht
  have HV := hvb
  rw [← hvb]
  clear hvb HV
  go_enter Try.func17, Try.ntmps17
  go_wp2_with (first | (go_at_call 26; refine (encodeTag_any _ _ _ h0 h1 HT.out).mono ?_; rintro e w' ⟨rfl, rfl⟩) | (go_at_call 25; refine (varint_any base _ bs _ _ r0 (by omega) hown hb hl).mono ?_; rintro e w' ⟨v', rfl, ho, ha⟩))
  go_ret
  exact ⟨_, rfl, ho, ha⟩

end Go.Proofs.Qxb6629102a
