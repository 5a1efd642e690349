/- FnNotILike: the row, joined: what came in, the walk, what is left. -/
import Derived.Test.YtagandfneflcbaaQ
import Derived.Test.YtagandfneflcbaaP
namespace Go.Proofs.Ytagandfneflcbaa
open Go.ChangeShapes Go.WideShapes Go.ChangeAt Go.RowKit Go.Joins
open Go.ChangeMaps (open_string shut_string)
open Go.Proofs.YtagandfneflcbaaW.PrintWords
open Go.Proofs.Ytagandfneflcbaa.PFnLt

theorem fnNotILike_own : ownKnob Try.prog.godebug = none := by kernel_rfl
theorem fnNotILike_laidOut : laidOutB Try.prog = true := by kernel_rfl

set_option maxRecDepth 100000 in
theorem fnNotILike_lifted (os : Os) (started : os.Started) (H : Type) (enc : TypeId × Value → H) :
    ReturnsInHanded {} Try.checked os 5 .any (Rows.fnNotILikeSpec.pre6 enc Try.prog Try.f5 Rows.fnNotILikeRow.domain false) (Rows.fnNotILikeSpec.post enc Try.prog Try.f5 false true false false) := by
  refine returnsInHanded_of_change (C := Try.checked) fnNotILike_own started (by kernel_rfl) Try.func5
    (ChangeSpec.witness6 (enc := enc) (C := Try.checked) false ⟨#[], #[.string ⟨#[]⟩, .agg #[.int .i64 0, .int .i64 0, .string ⟨#[]⟩, .slice none 0 0]], []⟩ 8 (by kernel_rfl) (by kernel_rfl) (by kernel_rfl) (by kernel_rfl)) ?_
  intro W base args ds gs before hval0 hW hcnd _
  have hval : ∀ (j : Nat) t v, Try.f5.params[j]? = some t → args[j]? = some v → Value.okWide Try.prog W .any base t v := hval0
  have hW' := hW
  obtain ⟨p, q, hA0, hV, rfl, hfz, hnd⟩ := hW
  have hA : DataW.TrodAll enc Try.prog W 0 (fun _ => true) true Try.f5.params.toList args.toList ds p := hA0
  rw [Try.params5] at hA hval
  obtain ⟨v0, v1, d0, d1, p0, p1, rfl, rfl, rfl, h0, h1⟩ := trodAll_two hA
  obtain ⟨rfl, rfl⟩ := trodVars_none hV
  have h0k := h0
  have h1k := h1
  obtain ⟨s, rfl, rfl, rfl, hs⟩ := open_string Try.underlying9 (hval 0 9 v0 rfl rfl) h0
  obtain ⟨x, A, c, rfl, hl, hC⟩ := Trod_val (hval 1 24 v1 rfl rfl) h1
  clear hA0 hval0
  simp only [List.append_nil] at hW'
  refine (law_5 s x A c hl W hC).mono fun e W' ⟨he, hb⟩ => ?_
  subst he
  have hlt : ∀ y ∈ p1, y.block < W.heap.size := fun y hy => by simpa using hW'.lt y (by simpa using hy)
  refine ⟨_, rfl, _, _, _, [], [] ++ p1, [], hW', trodAll_mk1 (shut_bool Try.underlying4 true), trodAll_mk2 (Below.trod fnNotILike_laidOut (by kernel_rfl) (of_decide_eq_true (by kernel_rfl)) h0k hb (fun y hy => by cases hy)) (Below.trod fnNotILike_laidOut (by kernel_rfl) (of_decide_eq_true (by kernel_rfl)) h1k hb hlt), rfl, hb.frame _, fun h => by cases h⟩

theorem fnNotILike_holds : Rows.FnNotILikeSaid :=
  OpenClaim.holds_of_wide 5 Try.f5 rfl rfl rfl rfl rfl rfl rfl ⟨rfl, rfl, rfl, rfl, rfl⟩ rfl rfl rfl rfl rfl (by kernel_rfl) Try.func5 (by kernel_rfl)
    (of_decide_eq_true (by kernel_rfl)) (by unfold Func.isWrapper; first | (rw [if_pos (by decide +kernel)]; kernel_rfl) | (rw [if_neg (by decide +kernel)]; exact ⟨rfl, rfl⟩))
    (fun os started H enc _ => fnNotILike_lifted os started H enc)

#print axioms fnNotILike_holds
end Go.Proofs.Ytagandfneflcbaa
