import Derived.Test.Qxb6629102aDeq
namespace Go.Proofs.Qxb6629102a
open Go.RowKit
set_option linter.unusedSimpArgs false
set_option linter.unusedVariables false

/-- while two registrations are compared: nothing old turned; the two boxes -/
structure BX (w wk : World) (c1 c2 : Array Value) : Prop where
  grown : w.grownBy wk none
  b1 : wk.heap[w.heap.size]? = some (.cells c1 43 (0, 0))
  b2 : wk.heap[w.heap.size + 1]? = some (.cells c2 43 (0, 0))
theorem BX.lt {w wk : World} {c1 c2 : Array Value} (h : BX w wk c1 c2) : w.heap.size + 1 < wk.heap.size := (Array.getElem?_eq_some_iff.1 h.b2).1
theorem BX.step {w wk wl : World} {c1 c2 : Array Value} (h : BX w wk c1 c2) (hg : wk.grownBy wl none) : BX w wl c1 c2 :=
  ⟨none_trans h.grown hg, (hg.block _ (by have := h.lt; omega) (by simp)).trans h.b1, (hg.block _ h.lt (by simp)).trans h.b2⟩
theorem BX.mk0 (w : World) (c1 c2 : Array Value) : BX w ((w.alloc (.cells c1 43)).alloc (.cells c2 43)) c1 c2 := by
  refine ⟨none2 _ _ _, ?_, ?_⟩
  · rw [Below.heap_alloc _ _ _ (by simp)]; exact heap_alloc_new w _
  · have h := heap_alloc_new (w.alloc (.cells c1 43)) (.cells c2 43)
    simpa using h
theorem BX.all {w wk : World} {a b c d e f a' b' c' d' e' f' : Value} (h : BX w wk #[a, b, c, d, e, f] #[a', b', c', d', e', f']) :
    (wk.cell? ⟨w.heap.size, 0, none⟩ = some a ∧ wk.cell? ⟨w.heap.size, 1, none⟩ = some b ∧ wk.cell? ⟨w.heap.size, 2, none⟩ = some c ∧ wk.cell? ⟨w.heap.size, 3, none⟩ = some d ∧ wk.cell? ⟨w.heap.size, 4, none⟩ = some e ∧ wk.cell? ⟨w.heap.size, 5, none⟩ = some f) ∧
    (wk.cell? ⟨w.heap.size + 1, 0, none⟩ = some a' ∧ wk.cell? ⟨w.heap.size + 1, 1, none⟩ = some b' ∧ wk.cell? ⟨w.heap.size + 1, 2, none⟩ = some c' ∧ wk.cell? ⟨w.heap.size + 1, 3, none⟩ = some d' ∧ wk.cell? ⟨w.heap.size + 1, 4, none⟩ = some e' ∧ wk.cell? ⟨w.heap.size + 1, 5, none⟩ = some f') := by
  have h1 : ∀ j, wk.cell? ⟨w.heap.size, j, none⟩ = #[a, b, c, d, e, f][j]? := fun j => cell_of_row wk _ j _ 43 _ h.b1
  have h2 : ∀ j, wk.cell? ⟨w.heap.size + 1, j, none⟩ = #[a', b', c', d', e', f'][j]? := fun j => cell_of_row wk _ j _ 43 _ h.b2
  exact ⟨⟨h1 0, h1 1, h1 2, h1 3, h1 4, h1 5⟩, ⟨h2 0, h2 1, h2 2, h2 3, h2 4, h2 5⟩⟩
theorem beqB_self (x : List UInt8) : beqB x x = true := by simp [beqB]
theorem none_drewN (w : World) (n : Nat) : w.grownBy (w.drewN n) none := ⟨rfl, rfl, rfl, Nat.le_refl _, fun _ _ _ => rfl⟩
theorem AttrsIn.nth {w : World} {lo hi n c : Nat} {a : Option Addr} {l : List Am} (h : AttrsIn w lo hi (.slice a n c) l) (k : Nat) (hk : k < l.length) : ∃ b off, a = some ⟨b, off, none⟩ ∧ lo ≤ b ∧ b < hi ∧ AttrAt w b (off + k * 4) l[k] := by
  rcases h with ⟨_, h⟩ | ⟨b, off, sp, c, e, h1, h2⟩
  · subst h; cases hk
  · injection e with e _ _
    obtain ⟨rfl, l1, l2⟩ := h1 (by omega)
    exact ⟨b, off, e, l1, l2, h2 k hk⟩
theorem AttrsIn.len2 {w : World} {lo hi n c : Nat} {a : Option Addr} {l : List Am} (h : AttrsIn w lo hi (.slice a n c) l) : n = l.length := by
  rcases h with ⟨e, h⟩ | ⟨b, off, sp, c, e, _⟩
  · injection e with _ e _; rw [e, h]; rfl
  · injection e

set_option maxHeartbeats 2000000 in
set_option maxRecDepth 100000 in
/-- zzRegEq, at two that say the same -/
theorem regEq_any (lo hi lo' hi' : Nat) (r : Re) (t u a ve t' u' a' ve' : Value) (w : World) (h1 : PtrIn w lo hi t r.tenant) (h2 : PtrIn w lo hi u r.user) (h3 : AttrsIn w lo hi a r.attrs) (h4 : VerIn w lo hi ve r.ver)
    (h1' : PtrIn w lo' hi' t' r.tenant) (h2' : PtrIn w lo' hi' u' r.user) (h3' : AttrsIn w lo' hi' a' r.attrs) (h4' : VerIn w lo' hi' ve' r.ver)
    (hhi : hi ≤ w.heap.size) (hhi' : hi' ≤ w.heap.size) (hlv : ∀ bs, r.ver = some bs → bs.length ≤ 1048576) (hla : r.attrs.length ≤ 1048576) :
    Calls Try.prog 22 #[.agg #[.string r.key, .string r.desc, t, u, a, ve], .agg #[.string r.key, .string r.desc, t', u', a', ve']] w fun e w' => e = .returned (.bool true) ∧ w.grownBy w' none := by
  obtain ⟨key, desc, tn, us, ams, vr⟩ := r
  simp only at h1 h2 h3 h4 h1' h2' h3' h4' hlv hla ⊢
  obtain ⟨pt, rfl⟩ := h1.form
  obtain ⟨pu, rfl⟩ := h2.form
  obtain ⟨aa, an, ac, rfl⟩ := h3.form
  obtain ⟨va, vn, vc, rfl⟩ := h4.form
  obtain ⟨pt', rfl⟩ := h1'.form
  obtain ⟨pu', rfl⟩ := h2'.form
  obtain ⟨aa', an', ac', rfl⟩ := h3'.form
  obtain ⟨va', vn', vc', rfl⟩ := h4'.form
  obtain rfl := h3.len2
  obtain rfl := h3'.len2
  have T1 : ∀ wx : World, w.grownBy wx none → PtrIn wx lo hi (.pointer pt) tn := fun wx hx => (Same.of_grown hx hhi).ptrIn h1
  have T2 : ∀ wx : World, w.grownBy wx none → PtrIn wx lo' hi' (.pointer pt') tn := fun wx hx => (Same.of_grown hx hhi').ptrIn h1'
  have U1 : ∀ wx : World, w.grownBy wx none → PtrIn wx lo hi (.pointer pu) us := fun wx hx => (Same.of_grown hx hhi).ptrIn h2
  have U2 : ∀ wx : World, w.grownBy wx none → PtrIn wx lo' hi' (.pointer pu') us := fun wx hx => (Same.of_grown hx hhi').ptrIn h2'
  clear h1 h2 h1' h2'
  have B0 := BX.mk0 w #[.string key, .string desc, .pointer pt, .pointer pu, .slice aa ams.length ac, .slice va vn vc] #[.string key, .string desc, .pointer pt', .pointer pu', .slice aa' ams.length ac', .slice va' vn' vc']
  go_enter Try.func22, Try.ntmps22
  go_wp2_with fail
  refine (defPtrEq_any lo hi lo' hi' _ _ tn _ (T1 _ B0.grown) (T2 _ B0.grown)).mono ?_
  rintro e w1 ⟨rfl, g1⟩
  have B1 := B0.step g1
  obtain ⟨⟨a0, a1, a2, a3, a4, a5⟩, c0, c1, c2, c3, c4, c5⟩ := B1.all
  clear B0 g1
  go_wp2_with fail
  refine (defPtrEq_any lo hi lo' hi' _ _ us _ (U1 _ B1.grown) (U2 _ B1.grown)).mono ?_
  rintro e w2 ⟨rfl, g2⟩
  have B2 := B1.step g2
  clear a0 a1 a2 a3 a4 a5 c0 c1 c2 c3 c4 c5 B1 g2
  obtain ⟨⟨a0, a1, a2, a3, a4, a5⟩, c0, c1, c2, c3, c4, c5⟩ := B2.all
  go_wp2_with fail
  clear a0 a1 a2 a3 a4 a5 c0 c1 c2 c3 c4 c5 T1 T2 U1 U2
  go_loopw [5] (fun i wr => ∃ k : Nat, k ≤ ams.length ∧ i = .int .i64 k ∧ BX w wr #[.string key, .string desc, .pointer pt, .pointer pu, .slice aa ams.length ac, .slice va vn vc] #[.string key, .string desc, .pointer pt', .pointer pu', .slice aa' ams.length ac', .slice va' vn' vc']) (fun i _ => ams.length - (intOf i).toNat)
  case atStart => exact ⟨0, Nat.zero_le _, rfl, B2⟩
  case round =>
    obtain ⟨k, hk, rfl, B⟩ := hrel
    clear B2
    obtain ⟨⟨a0, a1, a2, a3, a4, a5⟩, c0, c1, c2, c3, c4, c5⟩ := B.all
    by_cases hlt : k < ams.length
    · obtain ⟨b, off, rfl, l1, l2, y0, y1, y2, y3⟩ := h3.nth k hlt
      obtain ⟨b', off', rfl, l1', l2', y0', y1', y2', y3'⟩ := h3'.nth k hlt
      obtain ⟨ea, hea⟩ : ∃ ea, ea = ams[k] := ⟨_, rfl⟩
      rw [← hea] at y0 y1 y2 y3 y0' y1' y2' y3'
      have hold : ∀ w' : World, BX w w' #[.string key, .string desc, .pointer pt, .pointer pu, .slice (some ⟨b, off, none⟩) ams.length ac, .slice va vn vc] #[.string key, .string desc, .pointer pt', .pointer pu', .slice (some ⟨b', off', none⟩) ams.length ac', .slice va' vn' vc'] → w'.cell? ⟨w.heap.size, 4, none⟩ = some (.slice (some ⟨b, off, none⟩) ams.length ac) ∧ w'.cell? ⟨b, off + k * 4, none⟩ = some (.string ea.name) ∧ w'.cell? ⟨b, off + k * 4 + 1, none⟩ = some (.string ea.de.desc) ∧ w'.cell? ⟨b, off + k * 4 + 1 + 1, none⟩ = some (.int .u8 (ea.de.ty : Int)) ∧ w'.cell? ⟨b, off + k * 4 + 1 + 2, none⟩ = some (.int .u8 (ea.de.card : Int)) ∧ w'.cell? ⟨w.heap.size + 1, 4, none⟩ = some (.slice (some ⟨b', off', none⟩) ams.length ac') ∧ w'.cell? ⟨b', off' + k * 4, none⟩ = some (.string ea.name) ∧ w'.cell? ⟨b', off' + k * 4 + 1, none⟩ = some (.string ea.de.desc) ∧ w'.cell? ⟨b', off' + k * 4 + 1 + 1, none⟩ = some (.int .u8 (ea.de.ty : Int)) ∧ w'.cell? ⟨b', off' + k * 4 + 1 + 2, none⟩ = some (.int .u8 (ea.de.card : Int)) :=
        fun w' B' => ⟨B'.all.1.2.2.2.2.1, B'.grown.cell y0 (by simp), B'.grown.cell y1 (by simp), B'.grown.cell y2 (by simp), B'.grown.cell y3 (by simp), B'.all.2.2.2.2.2.1, B'.grown.cell y0' (by simp), B'.grown.cell y1' (by simp), B'.grown.cell y2' (by simp), B'.grown.cell y3' (by simp)⟩
      have I0 := B.step (grownBy_drew _)
      have i1 : (k : Int) < (ams.length : Int) := by omega
      clear hea y0 y1 y2 y3 y0' y1' y2' y3' h3 h3' h4 h4'
      go_wp2
      go_region_held3 (fun w' => w'.cell? ⟨w.heap.size, 4, none⟩ = some (.slice (some ⟨b, off, none⟩) ams.length ac) ∧ w'.cell? ⟨b, off + k * 4, none⟩ = some (.string ea.name) ∧ w'.cell? ⟨b, off + k * 4 + 1, none⟩ = some (.string ea.de.desc) ∧ w'.cell? ⟨b, off + k * 4 + 1 + 1, none⟩ = some (.int .u8 (ea.de.ty : Int)) ∧ w'.cell? ⟨b, off + k * 4 + 1 + 2, none⟩ = some (.int .u8 (ea.de.card : Int)) ∧ w'.cell? ⟨w.heap.size + 1, 4, none⟩ = some (.slice (some ⟨b', off', none⟩) ams.length ac') ∧ w'.cell? ⟨b', off' + k * 4, none⟩ = some (.string ea.name) ∧ w'.cell? ⟨b', off' + k * 4 + 1, none⟩ = some (.string ea.de.desc) ∧ w'.cell? ⟨b', off' + k * 4 + 1 + 1, none⟩ = some (.int .u8 (ea.de.ty : Int)) ∧ w'.cell? ⟨b', off' + k * 4 + 1 + 2, none⟩ = some (.int .u8 (ea.de.card : Int)))
        ((refine hold _ ?_; first | with_reducible exact I0 | with_reducible exact I1))
        (first | (go_at_call 33; refine (defEq_any ea.de _).mono ?_; rintro e w' ⟨rfl, hg⟩; have I1 := I0.step hg))
      go_wp2
      go_roundw
      case rel => exact ⟨k + 1, by omega, by go_num, I1⟩
      case measure => simp [intOf]; omega
    · have hkk : k = ams.length := by omega
      subst hkk
      clear hlt hk h3 h3'
      rcases h4 with ⟨e1, rfl⟩ | ⟨b, off, sp, c, bs, e1, rfl, l1, hb⟩
      · injection e1 with e1 e2 e3
        subst e1; subst e2; subst e3
        rcases h4' with ⟨e1, -⟩ | ⟨b, off, sp, c, bs, e1, h, l1, hb⟩
        · injection e1 with e1 e2 e3
          subst e1; subst e2; subst e3
          have hn := fun (wx : World) => Lib.run_eql_slice_nil (P := Try.prog) wx 23 5 none 0 0 0 0 Try.underlying23
          go_wp2_with fail
          refine (bytesEq_any [] [] none none 0 0 _ (fun j hj => absurd hj (Nat.not_lt_zero _)) (fun j hj => absurd hj (Nat.not_lt_zero _)) (by decide) (by decide)).mono ?_
          rintro e w3 ⟨rfl, n, rfl⟩
          rw [beqB_self]
          go_wp2
          go_ret
          exact ⟨rfl, none_trans B.grown (none_drewN _ _)⟩
        · cases h
      · injection e1 with e1 e2 e3
        subst e1; subst e2; subst e3
        rcases h4' with ⟨e1, h⟩ | ⟨b', off', sp', c', bs', e1, h, l1', hb'⟩
        · cases h
        · injection e1 with e1 e2 e3
          subst e1; subst e2; subst e3
          injection h with h
          subst h
          have hn := fun (wx : World) => Lib.run_eql_slice_nil (P := Try.prog) wx 23 5 (some ⟨b, off, sp⟩) bs.length vc 0 0 Try.underlying23
          have hn' := fun (wx : World) => Lib.run_eql_slice_nil (P := Try.prog) wx 23 5 (some ⟨b', off', sp'⟩) bs.length vc' 0 0 Try.underlying23
          have hl := hlv bs rfl
          go_wp2_with fail
          refine (bytesEq_any bs bs _ _ _ _ _ (fun j hj => ⟨b, off, by rw [(l1 (by omega)).1], hb.kept B.grown (fun _ => by simp)⟩) (fun j hj => ⟨b', off', by rw [(l1' (by omega)).1], hb'.kept B.grown (fun _ => by simp)⟩) (by omega) (by omega)).mono ?_
          rintro e w3 ⟨rfl, n, rfl⟩
          rw [beqB_self]
          go_wp2
          go_ret
          exact ⟨rfl, none_trans B.grown (none_drewN _ _)⟩

end Go.Proofs.Qxb6629102a
