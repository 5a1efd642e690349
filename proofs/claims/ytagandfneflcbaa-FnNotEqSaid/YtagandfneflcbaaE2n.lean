/- The reference's condition of no columns, kinds 2 and 3. No conditions. -/
import Derived.Test.YtagandfneflcbaaM
namespace Go.Proofs.Ytagandfneflcbaa
open Go.RowKit Go.Proofs.YtagandfneflcbaaW.PrintWords Go.Proofs.YtagandfneflcbaaW.PrintLast Go.Proofs.YtagandfneflcbaaW.PrintMore
open Go.Proofs.Ytagandfneflcbaa.PFnLt
theorem columnsE_none_false (NA VA : Option Addr) (nc vc m : Nat) (w : World) :
    Calls Try.prog 16 #[.int .i64 2, .slice NA 0 nc, .slice VA m vc] w (PieceP (fun k => k < w.heap.size) (⟨#[40, 49, 61, 49, 41]⟩, [], 1) w) := by
  go_enter Try.func16, Try.ntmps16
  go_wp2_with fail
  refine (said_any _ _ _ _ _).mono ?_
  rintro e w' ⟨rfl, rfl⟩
  go_wp2_with fail
  refine (said_any _ _ _ _ _).mono ?_
  rintro e w' ⟨rfl, rfl⟩
  go_wp2_with fail
  refine bodyPost_ret (v := .agg #[.string ⟨#[40, 49, 61, 49, 41]⟩, .slice none 0 0, .int .i64 1]) (by simp [results, Try.results16, go_sem]) rfl ⟨none, 0, rfl, Kd.V_nil _ _ _ _ _, ?_⟩
  refine Below.alloc (Below.alloc (Below.alloc (Below.alloc (Below.refl _ _) (Nat.le_refl _) _) ?_ _) ?_ _) ?_ _ <;> simp <;> omega
theorem columnsE_none_true (NA VA : Option Addr) (nc vc m : Nat) (w : World) :
    Calls Try.prog 16 #[.int .i64 3, .slice NA 0 nc, .slice VA m vc] w (PieceP (fun k => k < w.heap.size) (⟨#[40, 49, 61, 49, 41]⟩, [], 1) w) := by
  go_enter Try.func16, Try.ntmps16
  go_wp2_with fail
  refine (said_any _ _ _ _ _).mono ?_
  rintro e w' ⟨rfl, rfl⟩
  go_wp2_with fail
  refine (said_any _ _ _ _ _).mono ?_
  rintro e w' ⟨rfl, rfl⟩
  go_wp2_with fail
  refine bodyPost_ret (v := .agg #[.string ⟨#[40, 49, 61, 49, 41]⟩, .slice none 0 0, .int .i64 1]) (by simp [results, Try.results16, go_sem]) rfl ⟨none, 0, rfl, Kd.V_nil _ _ _ _ _, ?_⟩
  refine Below.alloc (Below.alloc (Below.alloc (Below.alloc (Below.refl _ _) (Nat.le_refl _) _) ?_ _) ?_ _) ?_ _ <;> simp <;> omega

end Go.Proofs.Ytagandfneflcbaa
