import Derived.Test.Qxb6629102aAud
namespace Go.Proofs.Qxb6629102a
open Go.RowKit
set_option linter.unusedSimpArgs false
set_option linter.unusedVariables false

theorem none2 (w : World) (o1 o2 : Obj) : w.grownBy ((w.alloc o1).alloc o2) none := none_trans (World.grownBy_alloc _ _ _) (World.grownBy_alloc _ _ _)

set_option maxHeartbeats 1000000 in
/-- zzDefEq, at two that say the same -/
theorem defEq_any (d : De) (w : World) :
    Calls Try.prog 33 #[.agg #[.string d.desc, .int .u8 (d.ty : Int), .int .u8 (d.card : Int)], .agg #[.string d.desc, .int .u8 (d.ty : Int), .int .u8 (d.card : Int)]] w fun e w' => e = .returned (.bool true) ∧ w.grownBy w' none := by
  go_enter Try.func33, Try.ntmps33
  go_wp2
  go_ret
  exact ⟨rfl, none2 _ _ _⟩

set_option maxHeartbeats 1000000 in
/-- zzDefPtrEq, at two that say the same -/
theorem defPtrEq_any (lo hi lo' hi' : Nat) (p q : Value) (o : Option De) (w : World) (hp : PtrIn w lo hi p o) (hq : PtrIn w lo' hi' q o) :
    Calls Try.prog 32 #[p, q] w fun e w' => e = .returned (.bool true) ∧ w.grownBy w' none := by
  rcases hp with ⟨rfl, rfl⟩ | ⟨b, off, d, rfl, rfl, h1, h2, c0, c1, c2⟩
  · rcases hq with ⟨rfl, -⟩ | ⟨b, off, d, rfl, h, -⟩
    · go_enter Try.func32, Try.ntmps32
      go_wp2
      go_ret
      exact ⟨rfl, World.grownBy.refl _ _⟩
    · cases h
  · rcases hq with ⟨rfl, h⟩ | ⟨b', off', d', rfl, h, h1', h2', c0', c1', c2'⟩
    · cases h
    · injection h with h
      subst h
      have hold : ∀ wx : World, w.grownBy wx none → wx.cell? ⟨b, off, none⟩ = some (.string d.desc) ∧ wx.cell? ⟨b, off + 1, none⟩ = some (.int .u8 (d.ty : Int)) ∧ wx.cell? ⟨b, off + 2, none⟩ = some (.int .u8 (d.card : Int)) ∧ wx.cell? ⟨b', off', none⟩ = some (.string d.desc) ∧ wx.cell? ⟨b', off' + 1, none⟩ = some (.int .u8 (d.ty : Int)) ∧ wx.cell? ⟨b', off' + 2, none⟩ = some (.int .u8 (d.card : Int)) :=
        fun wx hx => ⟨hx.cell c0 (by simp), hx.cell c1 (by simp), hx.cell c2 (by simp), hx.cell c0' (by simp), hx.cell c1' (by simp), hx.cell c2' (by simp)⟩
      have I0 := grownBy_drew w
      go_enter Try.func32, Try.ntmps32
      go_wp2
      go_region_held3 (fun w' => w'.cell? ⟨b, off, none⟩ = some (.string d.desc) ∧ w'.cell? ⟨b, off + 1, none⟩ = some (.int .u8 (d.ty : Int)) ∧ w'.cell? ⟨b, off + 2, none⟩ = some (.int .u8 (d.card : Int)) ∧ w'.cell? ⟨b', off', none⟩ = some (.string d.desc) ∧ w'.cell? ⟨b', off' + 1, none⟩ = some (.int .u8 (d.ty : Int)) ∧ w'.cell? ⟨b', off' + 2, none⟩ = some (.int .u8 (d.card : Int)))
        ((refine hold _ ?_; first | with_reducible exact I0 | with_reducible exact I1))
        (first | (go_at_call 33; refine (defEq_any d _).mono ?_; rintro e w' ⟨rfl, hg⟩; have I1 := none_trans I0 hg))
      go_wp2
      go_ret
      exact ⟨rfl, I1⟩

end Go.Proofs.Qxb6629102a
