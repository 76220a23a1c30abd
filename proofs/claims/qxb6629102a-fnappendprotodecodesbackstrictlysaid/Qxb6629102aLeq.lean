import Derived.Test.Qxb6629102aReq
namespace Go.Proofs.Qxb6629102a
open Go.RowKit
set_option linter.unusedSimpArgs false
set_option linter.unusedVariables false

theorem RegsIn.nth {w : World} {lo hi n c : Nat} {a : Option Addr} {l : List Re} (h : RegsIn w lo hi (.slice a n c) l) (k : Nat) (hk : k < l.length) : ∃ b off, a = some ⟨b, off, none⟩ ∧ lo ≤ b ∧ b < hi ∧ RegAt w lo hi b (off + k * 6) l[k] := by
  rcases h with ⟨_, h⟩ | ⟨b, off, sp, c, e, h1, h2⟩
  · subst h; cases hk
  · injection e with e _ _
    obtain ⟨rfl, l1, l2⟩ := h1 (by omega)
    exact ⟨b, off, e, l1, l2, h2 k hk⟩

set_option maxHeartbeats 2000000 in
set_option maxRecDepth 100000 in
/-- zzListEq, at two that say the same -/
theorem listEq_any (lo hi lo' hi' : Nat) (rs : List Re) (x x' : Option Addr) (c c' : Nat) (w : World) (h : RegsIn w lo hi (.slice x rs.length c) rs) (h' : RegsIn w lo' hi' (.slice x' rs.length c') rs) (hhi : hi ≤ w.heap.size) (hhi' : hi' ≤ w.heap.size) (hlen : rs.length ≤ 1048576)
    (hok : ∀ r ∈ rs, (∀ bs, r.ver = some bs → bs.length ≤ 1048576) ∧ r.attrs.length ≤ 1048576) :
    Calls Try.prog 12 #[.slice x rs.length c, .slice x' rs.length c'] w fun e w' => e = .returned (.bool true) ∧ w.grownBy w' none := by
  go_enter Try.func12, Try.ntmps12
  go_wp2_with fail
  go_loopw [5] (fun i wr => ∃ k : Nat, k ≤ rs.length ∧ i = .int .i64 k ∧ w.grownBy wr none) (fun i _ => rs.length - (intOf i).toNat)
  case atStart => exact ⟨0, Nat.zero_le _, rfl, World.grownBy.refl _ _⟩
  case round =>
    obtain ⟨k, hk, rfl, hg⟩ := hrel
    by_cases hlt : k < rs.length
    · have I0 := none_trans hg (grownBy_drew wr)
      obtain ⟨b, off, rfl, l1, l2, hr⟩ := h.nth k hlt
      obtain ⟨b', off', rfl, l1', l2', hr'⟩ := h'.nth k hlt
      obtain ⟨ka1, ka2⟩ := hok rs[k] (List.getElem_mem hlt)
      obtain ⟨ea, hea⟩ : ∃ ea, ea = rs[k] := ⟨_, rfl⟩
      rw [← hea] at hr hr' ka1 ka2
      obtain ⟨t, u, a, ve, c0, c1, c2, c3, c4, c5, p1, p2, p3, p4⟩ := hr
      obtain ⟨t', u', a', ve', c0', c1', c2', c3', c4', c5', p1', p2', p3', p4'⟩ := hr'
      obtain ⟨pt, rfl⟩ := p1.form
      obtain ⟨pu, rfl⟩ := p2.form
      obtain ⟨aa, an, aC, rfl⟩ := p3.form
      obtain ⟨va, vn, vc, rfl⟩ := p4.form
      obtain ⟨pt', rfl⟩ := p1'.form
      obtain ⟨pu', rfl⟩ := p2'.form
      obtain ⟨aa', an', aC', rfl⟩ := p3'.form
      obtain ⟨va', vn', vc', rfl⟩ := p4'.form
      have hold : ∀ w' : World, w.grownBy w' none → w'.cell? ⟨b, off + k * 6, none⟩ = some (.string ea.key) ∧ w'.cell? ⟨b, off + k * 6 + 1, none⟩ = some (.string ea.desc) ∧ w'.cell? ⟨b, off + k * 6 + 2, none⟩ = some (.pointer pt) ∧ w'.cell? ⟨b, off + k * 6 + 3, none⟩ = some (.pointer pu) ∧ w'.cell? ⟨b, off + k * 6 + 4, none⟩ = some (.slice aa an aC) ∧ w'.cell? ⟨b, off + k * 6 + 5, none⟩ = some (.slice va vn vc) ∧ w'.cell? ⟨b', off' + k * 6, none⟩ = some (.string ea.key) ∧ w'.cell? ⟨b', off' + k * 6 + 1, none⟩ = some (.string ea.desc) ∧ w'.cell? ⟨b', off' + k * 6 + 2, none⟩ = some (.pointer pt') ∧ w'.cell? ⟨b', off' + k * 6 + 3, none⟩ = some (.pointer pu') ∧ w'.cell? ⟨b', off' + k * 6 + 4, none⟩ = some (.slice aa' an' aC') ∧ w'.cell? ⟨b', off' + k * 6 + 5, none⟩ = some (.slice va' vn' vc') :=
        fun w' hx => ⟨hx.cell c0 (by simp), hx.cell c1 (by simp), hx.cell c2 (by simp), hx.cell c3 (by simp), hx.cell c4 (by simp), hx.cell c5 (by simp), hx.cell c0' (by simp), hx.cell c1' (by simp), hx.cell c2' (by simp), hx.cell c3' (by simp), hx.cell c4' (by simp), hx.cell c5' (by simp)⟩
      have S1 := Same.of_grown (lo := lo) I0 hhi
      have S1' := Same.of_grown (lo := lo') I0 hhi'
      have z0 := I0.size
      have q1 := S1.ptrIn p1
      have q2 := S1.ptrIn p2
      have q3 := S1.attrsIn p3
      have q4 := S1.verIn p4
      have q1' := S1'.ptrIn p1'
      have q2' := S1'.ptrIn p2'
      have q3' := S1'.attrsIn p3'
      have q4' := S1'.verIn p4'
      have i1 : (k : Int) < (rs.length : Int) := by omega
      clear hea c0 c1 c2 c3 c4 c5 c0' c1' c2' c3' c4' c5' p1 p2 p3 p4 p1' p2' p3' p4' h h' S1 S1'
      go_wp2
      go_region_held3 (fun w' => w'.cell? ⟨b, off + k * 6, none⟩ = some (.string ea.key) ∧ w'.cell? ⟨b, off + k * 6 + 1, none⟩ = some (.string ea.desc) ∧ w'.cell? ⟨b, off + k * 6 + 2, none⟩ = some (.pointer pt) ∧ w'.cell? ⟨b, off + k * 6 + 3, none⟩ = some (.pointer pu) ∧ w'.cell? ⟨b, off + k * 6 + 4, none⟩ = some (.slice aa an aC) ∧ w'.cell? ⟨b, off + k * 6 + 5, none⟩ = some (.slice va vn vc) ∧ w'.cell? ⟨b', off' + k * 6, none⟩ = some (.string ea.key) ∧ w'.cell? ⟨b', off' + k * 6 + 1, none⟩ = some (.string ea.desc) ∧ w'.cell? ⟨b', off' + k * 6 + 2, none⟩ = some (.pointer pt') ∧ w'.cell? ⟨b', off' + k * 6 + 3, none⟩ = some (.pointer pu') ∧ w'.cell? ⟨b', off' + k * 6 + 4, none⟩ = some (.slice aa' an' aC') ∧ w'.cell? ⟨b', off' + k * 6 + 5, none⟩ = some (.slice va' vn' vc'))
        ((refine hold _ ?_; first | with_reducible exact I0 | with_reducible exact I1))
        (first | (go_at_call 22; refine (regEq_any lo hi lo' hi' ea _ _ _ _ _ _ _ _ _ q1 q2 q3 q4 q1' q2' q3' q4' (Nat.le_trans hhi z0) (Nat.le_trans hhi' z0) ka1 ka2).mono ?_; rintro e w' ⟨rfl, hg⟩; have I1 := none_trans I0 hg))
      go_wp2
      go_roundw
      case rel => exact ⟨k + 1, by omega, by go_num, I1⟩
      case measure => simp [intOf]; omega
    · have hkk : k = rs.length := by omega
      subst hkk
      clear hlt hk h h' hok
      go_wp2
      go_ret
      exact ⟨rfl, hg⟩

end Go.Proofs.Qxb6629102a
