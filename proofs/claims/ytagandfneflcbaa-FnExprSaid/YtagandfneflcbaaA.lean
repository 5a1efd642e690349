/- What the guard 'spec.ConditionRight' does with the one piece that the laws hand it: small contracts (budget, light, lightParts). Conditions: the piece lies as one row of six cells, and its last list is nil. -/
import Derived.Test.YtagandfneflcbaaPFnLtx0
import Derived.WalkSpells
import Derived.WalkLawsBesides
namespace Go.Proofs.Ytagandfneflcbaa
open Go.RowKit Go.Proofs.YtagandfneflcbaaW.PrintWords Go.Proofs.YtagandfneflcbaaW.PrintLast Go.Proofs.YtagandfneflcbaaW.PrintMore
open Go.Proofs.Ytagandfneflcbaa.PFnLt

theorem budget_any (w : World) : Calls Try.prog 52 #[] w fun e w' => e = .returned (.pointer (some ⟨w.heap.size, 0, none⟩)) ∧ w' = w.alloc (.cells #[.int .i64 2000] 3) := by
  go_enter Try.func52, Try.ntmps52
  go_wp2
  go_ret
  exact ⟨rfl, rfl⟩

theorem light_nil (g : Nat) (n : Int) (w : World) (h0 : 0 ≤ n) (h1 : n ≤ 2000) (hc : w.cell? ⟨g, 0, none⟩ = some (.int .i64 n)) (hf : w.frozen? ⟨g, 0, none⟩ = false) :
    Calls Try.prog 66 #[.slice none 0 0, .pointer (some ⟨g, 0, none⟩)] w fun e w' => e = .returned (.bool true) ∧ w' = w.setCell ⟨g, 0, none⟩ (.int .i64 n) := by
  go_enter Try.func66, Try.ntmps66
  go_wp2_with fail
  refine wp_loop_rounds 1 ?_
  rw [rounds_succ]
  go_wp2_with fail
  go_ret
  exact ⟨rfl, rfl⟩

/-- The one piece: six cells at the head of block b, its list of steps nil; the budget's cell at the head of block g. -/
theorem lightParts_one (b g : Nat) (hbg : b ≠ g) (w : World) (hc4 : w.cell? ⟨b, 4, none⟩ = some (.slice none 0 0)) (hc : w.cell? ⟨g, 0, none⟩ = some (.int .i64 2000)) (hf : w.frozen? ⟨g, 0, none⟩ = false) (B : Nat) (hB : B ≤ g) :
    Calls Try.prog 51 #[.slice (some ⟨b, 0, none⟩) 1 1, .pointer (some ⟨g, 0, none⟩)] w fun e w' => e = .returned (.bool true) ∧ Below B w w' := by
  have hc4' : (w.setCell ⟨g, 0, none⟩ (.int .i64 1999)).cell? ⟨b, 4, none⟩ = some (.slice none 0 0) := by
    rw [World.cell?_setCell_other _ _ _ _ (fun h => by cases h)]
    exact hc4
  have hcg : (w.setCell ⟨g, 0, none⟩ (.int .i64 1999)).cell? ⟨g, 0, none⟩ = some (.int .i64 1999) := World.cell?_setCell_same _ _ _ hc
  have hfg : (w.setCell ⟨g, 0, none⟩ (.int .i64 1999)).frozen? ⟨g, 0, none⟩ = false := (World.frozen?_setCell _ _ _ _).trans hf
  have hl := light_nil g 1999 (w.setCell ⟨g, 0, none⟩ (.int .i64 1999)) (by omega) (by omega) hcg hfg
  clear hcg hfg
  go_enter Try.func51, Try.ntmps51
  go_wp2_with fail
  refine wp_loop_rounds 2 ?_
  rw [rounds_succ]
  go_wp2_with fail
  refine hl.mono ?_
  rintro e w' ⟨rfl, rfl⟩
  go_wp2_with fail
  rw [rounds_succ]
  go_wp2_with fail
  go_ret
  exact ⟨rfl, ((Below.refl _ _).setCell hB _).setCell hB _⟩

end Go.Proofs.Ytagandfneflcbaa
