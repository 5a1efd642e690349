/- Contracts of spec.worse and spec.Joined: two pieces of a statement one behind the other. Turned from what the kit's printer wrote. -/
import Derived.Test.YtagandfneflcbaaPFnLtx4
namespace Go.Proofs.Ytagandfneflcbaa.PFnLt
open Go.RowKit Go.Proofs.YtagandfneflcbaaW.PrintWords Go.Proofs.YtagandfneflcbaaW.PrintLast Go.Proofs.YtagandfneflcbaaW.PrintMore
attribute [local go_sem] max2_int min2_int max_two min_two max_three min_three max_four min_four
set_option linter.unusedVariables false
set_option linter.unusedSimpArgs false
/-! ### spec_worse: function 60 -/
def spec_worse.f (a0 : Int) (a1 : Int) : Option (Int) := if a0 = 2 then (some 2) else (if a1 = 2 then (some 2) else (some (mn a0 a1)))
set_option maxHeartbeats 8000000 in
set_option maxRecDepth 100000 in
theorem spec_worse.calls (a0 : Int) (a1 : Int) (r : Int) (w : World) (h : spec_worse.f a0 a1 = some r) :
    Calls Try.prog 60 #[.int .i64 a0, .int .i64 a1] w fun e w' => e = .returned (.int .i64 r) ∧ Below w.heap.size w w' := by
  have HB := Aside0.mk (Below.refl w.heap.size w)
  have H : (if a0 = 2 then (some 2) else (if a1 = 2 then (some 2) else (some (mn a0 a1)))) = some r := h
  clear h
  by_cases c3 : a0 = 2
  · rw [if_pos c3] at H
    have c3b0 : (a0 == 2) = true := beq_iff_eq.mpr c3
    have c3b1 : (a0 != 2) = false := bne_eq_false_iff_eq.mpr c3
    clear c3
    obtain rfl := Option.some.inj H
    go_enter Try.func60, Try.ntmps60
    go_wp2
    go_ret
    exact ⟨by first | rfl | (simp [errW_none, errW_some] <;> rfl) | (simp [*, errW_none, errW_some] <;> rfl), by repeat (first | (with_reducible first | exact HB.out | apply below_alloc | apply pw_below_drewN | apply below_drew1) | exact HB.out)⟩
  · rw [if_neg c3] at H
    have c3b0 : (a0 == 2) = false := beq_eq_false_iff_ne.mpr c3
    have c3b1 : (a0 != 2) = true := bne_iff_ne.mpr c3
    by_cases c4 : a1 = 2
    · rw [if_pos c4] at H
      have c4b0 : (a1 == 2) = true := beq_iff_eq.mpr c4
      have c4b1 : (a1 != 2) = false := bne_eq_false_iff_eq.mpr c4
      clear c4
      obtain rfl := Option.some.inj H
      go_enter Try.func60, Try.ntmps60
      go_wp2
      go_ret
      exact ⟨by first | rfl | (simp [errW_none, errW_some] <;> rfl) | (simp [*, errW_none, errW_some] <;> rfl), by repeat (first | (with_reducible first | exact HB.out | apply below_alloc | apply pw_below_drewN | apply below_drew1) | exact HB.out)⟩
    · rw [if_neg c4] at H
      have c4b0 : (a1 == 2) = false := beq_eq_false_iff_ne.mpr c4
      have c4b1 : (a1 != 2) = true := bne_iff_ne.mpr c4
      obtain ⟨ji5, hji5⟩ : ∃ j_ : Int, (mn a0 a1) = j_ := ⟨_, rfl⟩
      replace H : (some ji5) = some r := by first | (rw [hji5] at H; exact H) | (simp only [hji5] at H ⊢; exact H)
      have hji5_ : (if a1 < a0 then a1 else a0) = ji5 := hji5
      obtain rfl := Option.some.inj H
      go_enter Try.func60, Try.ntmps60
      go_wp2
      go_ret
      exact ⟨by first | rfl | (simp [errW_none, errW_some] <;> rfl) | (simp only [← hji5]; first | rfl | (simp [errW_none, errW_some] <;> rfl)) | (simp [*, errW_none, errW_some] <;> rfl), by repeat (first | (with_reducible first | exact HB.out | apply below_alloc | apply pw_below_drewN | apply below_drew1) | exact HB.out)⟩

/-! ### spec_Joined: function 37 -/
def spec_Joined.f (a0_0 : ByteArray) (l0_1 : List (S24)) (a0_2 : Int) (a1_0 : ByteArray) (l1_1 : List (S24)) (a1_2 : Int) : Option (ByteArray × (List (S24)) × Int) := if a0_0.size + a1_0.size ≤ 9223372036854775807 then ((some (([] : List (S24)) : List (S24))).bind fun y304 => (if y304.length + l0_1.length < 2513169434916 then ((some (y304 ++ l0_1 : List (S24))).bind fun y307 => (if y307.length + l1_1.length < 2513169434916 then ((spec_worse.f a0_2 a1_2).bind fun t313 => (some (a0_0 ++ a1_0, (y307 ++ l1_1), t313))) else (none))) else (none))) else (none)
def spec_Joined.T1 : Bool × List (List Nat × List Nat) := (true, [([], []), ([0], [0]), ([], []), ([2], [2]), ([1, 3], [1, 3]), ([], []), ([], []), ([6], [6]), ([5, 7], [5, 7]), ([], []), ([9], [9]), ([8, 10, 8], [8, 10]), ([], []), ([12], [12]), ([], []), ([14], [14]), ([13, 15, 11], [13, 15]), ([4, 11, 16], [4, 11, 16]), ([17, 16, 0, 1, 2, 3, 4, 5, 6, 7, 8, 9, 10, 11, 12, 13, 14, 15, 16, 17], [17])])
def spec_Joined.B1 : List Nat := [0, 1, 0, 4, 15, 0, 0, 64, 224, 0, 512, 2016, 0, 4096, 0, 16384, 65504, 131071, 262143]
theorem spec_Joined.tab1 : rtab .any (opsOf Try.f37 1) = spec_Joined.T1 := by kernel_rfl
theorem spec_Joined.bits1 : waitsOk spec_Joined.T1.2 spec_Joined.B1 = true := by kernel_rfl
set_option maxHeartbeats 8000000 in
set_option maxRecDepth 100000 in
theorem spec_Joined.calls (a0_0 : ByteArray) (P0_1_ : Nat → Prop) (A0_1 : Option Addr) (c0_1 : Nat) (l0_1 : List (S24)) (a0_2 : Int) (a1_0 : ByteArray) (P1_1_ : Nat → Prop) (A1_1 : Option Addr) (c1_1 : Nat) (l1_1 : List (S24)) (a1_2 : Int) (r1 : ByteArray) (r2 : List (S24)) (r3 : Int) (w : World) (hs0_1 : Kd.V k24 24 w w.heap.size (fun k_ => P0_1_ k_) (.slice A0_1 l0_1.length c0_1) l0_1) (hs1_1 : Kd.V k24 24 w w.heap.size (fun k_ => P1_1_ k_) (.slice A1_1 l1_1.length c1_1) l1_1) (h : spec_Joined.f a0_0 l0_1 a0_2 a1_0 l1_1 a1_2 = some (r1, r2, r3)) :
    Calls Try.prog 37 #[.agg #[.string a0_0, .slice A0_1 l0_1.length c0_1, .int .i64 a0_2], .agg #[.string a1_0, .slice A1_1 l1_1.length c1_1, .int .i64 a1_2]] w fun e w' => ∃ v1_ : Value, e = .returned (.agg #[.string r1, v1_, .int .i64 r3]) ∧ Kd.N k24 24 w' w.heap.size (fun k_ => ((P0_1_ k_ ∨ P1_1_ k_) ∨ w.heap.size ≤ k_)) v1_ r2 ∧ Below w.heap.size w w' := by
  have hu30 := Try.underlying30
  have HO0_1 := Aside0.mk (show Kd.V k24 24 w w.heap.size (fun k_ => ((P0_1_ k_ ∨ P1_1_ k_) ∨ w.heap.size ≤ k_)) (.slice A0_1 l0_1.length c0_1) l0_1 from Kd.V_mono hs0_1 (fun k_ hk => .inl (.inl hk)))
  have HO1_1 := Aside0.mk (show Kd.V k24 24 w w.heap.size (fun k_ => ((P0_1_ k_ ∨ P1_1_ k_) ∨ w.heap.size ≤ k_)) (.slice A1_1 l1_1.length c1_1) l1_1 from Kd.V_mono hs1_1 (fun k_ hk => .inl (.inr hk)))
  have HB := Aside0.mk (Below.refl w.heap.size w)
  have H : (if a0_0.size + a1_0.size ≤ 9223372036854775807 then ((some (([] : List (S24)) : List (S24))).bind fun y304 => (if y304.length + l0_1.length < 2513169434916 then ((some (y304 ++ l0_1 : List (S24))).bind fun y307 => (if y307.length + l1_1.length < 2513169434916 then ((spec_worse.f a0_2 a1_2).bind fun t313 => (some (a0_0 ++ a1_0, (y307 ++ l1_1), t313))) else (none))) else (none))) else (none)) = some (r1, r2, r3) := h
  clear h
  by_cases c3 : a0_0.size + a1_0.size ≤ 9223372036854775807
  · rw [if_pos c3] at H
    have c3b0 := eq_true c3
    have c3b1 : decide (a0_0.size + a1_0.size ≤ 9223372036854775807) = true := decide_eq_true c3
    try have c3b2 : (9223372036854775807 < a0_0.size + a1_0.size) = False := eq_false (Nat.not_lt.2 c3)
    obtain ⟨y304, hy304⟩ : ∃ y_ : List (S24), y_ = (([] : List (S24))) := ⟨_, rfl⟩
    replace H : (if y304.length + l0_1.length < 2513169434916 then ((some (y304 ++ l0_1 : List (S24))).bind fun y307 => (if y307.length + l1_1.length < 2513169434916 then ((spec_worse.f a0_2 a1_2).bind fun t313 => (some (a0_0 ++ a1_0, (y307 ++ l1_1), t313))) else (none))) else (none)) = some (r1, r2, r3) := by first | (rw [hy304]; with_reducible exact H) | (have H2_ := (Option.bind_some _ _).symm.trans H; rw [hy304]; with_reducible exact H2_) | (have H2_ := (Option.bind_some _ _).symm.trans H; with_reducible exact H2_) | with_reducible exact H | (rw [hy304]; exact H) | exact H
    have Ny304 := Aside0.mk hy304
    clear hy304
    by_cases c4 : y304.length + l0_1.length < 2513169434916
    · rw [if_pos c4] at H
      have LMc4 := Aside0.mk c4
      clear c4
      obtain ⟨y307, hy307⟩ : ∃ y_ : List (S24), y_ = (y304 ++ l0_1) := ⟨_, rfl⟩
      replace H : (if y307.length + l1_1.length < 2513169434916 then ((spec_worse.f a0_2 a1_2).bind fun t313 => (some (a0_0 ++ a1_0, (y307 ++ l1_1), t313))) else (none)) = some (r1, r2, r3) := by first | (rw [hy307]; with_reducible exact H) | (have H2_ := (Option.bind_some _ _).symm.trans H; rw [hy307]; with_reducible exact H2_) | (have H2_ := (Option.bind_some _ _).symm.trans H; with_reducible exact H2_) | with_reducible exact H | (rw [hy307]; exact H) | exact H
      have Ny307 := Aside0.mk hy307
      clear hy307
      by_cases c5 : y307.length + l1_1.length < 2513169434916
      · rw [if_pos c5] at H
        have LMc5 := Aside0.mk c5
        clear c5
        obtain ⟨y310, hy310⟩ : ∃ y_ : List (S24), y_ = (y307 ++ l1_1) := ⟨_, rfl⟩
        replace H : ((spec_worse.f a0_2 a1_2).bind fun t313 => (some (a0_0 ++ a1_0, y310, t313))) = some (r1, r2, r3) := by first | (rw [hy310]; with_reducible exact H) | (have H2_ := (Option.bind_some _ _).symm.trans H; rw [hy310]; with_reducible exact H2_) | (have H2_ := (Option.bind_some _ _).symm.trans H; with_reducible exact H2_) | with_reducible exact H | (rw [hy310]; exact H) | exact H
        have Ny310 := Aside0.mk hy310
        clear hy310
        replace H := Option.bind_eq_some_iff.mp H
        obtain ⟨t313, A60, H⟩ := H
        replace H : (some (a0_0 ++ a1_0, y310, t313)) = some (r1, r2, r3) := H
        have A6 := Aside0.mk A60
        clear A60
        simp only [Option.some.injEq, Prod.mk.injEq] at H
        obtain ⟨rfl, rfl, rfl⟩ := H
        go_enter Try.func37, Try.ntmps37
        try go_wp2_with (first | ((with_reducible refine gate_dst (N := 2) rfl ?_); refine box_event ?hg (N := 2) ?hd (cs := #[.string a0_0, .slice A0_1 l0_1.length c0_1, .int .i64 a0_2]) (t := 30) ?hr ?_; (case hd => rfl); (case hg => rfl); (case hr => first | (go_simp; done) | (go_simp; rfl)); intro gb301 hg w7 hbox hb; have n0_ := Aside0.mk (Kd.V_below (Kd.V_elderB (by (with_reducible repeat (first | apply Kd.V_alloc | apply Kd.V_drewN | apply Kd.V_drew)); exact HO0_1.out) gb301 (Nat.le_of_eq hg.symm)) hb); have n1_ := Aside0.mk (Kd.V_below (Kd.V_elderB (by (with_reducible repeat (first | apply Kd.V_alloc | apply Kd.V_drewN | apply Kd.V_drew)); exact HO1_1.out) gb301 (Nat.le_of_eq hg.symm)) hb); have n2_ := Aside0.mk (below_step (by repeat (first | (with_reducible first | exact HB.out | apply below_alloc | apply pw_below_drewN | apply below_drew1) | exact HB.out)) hb); have n3_ := Aside0.mk (hbox); have n4_ := Aside0.mk ((by rw [hg]; exact (below_size (by repeat (first | (with_reducible first | exact HB.out | apply below_alloc | apply pw_below_drewN | apply below_drew1) | exact HB.out))) : w.heap.size ≤ gb301)); have n5_ := Aside0.mk ((by rw [hg]; exact (below_size (by repeat (first | (with_reducible first | exact HB.out | apply below_alloc | apply pw_below_drewN | apply below_drew1) | exact HB.out))) : w.heap.size ≤ gb301)); clear HO0_1; clear HO1_1; clear HB; have HO0_1 := n0_; have HO1_1 := n1_; have HB := n2_; have BK301 := n3_; have GW301 := n4_; have GE301 := n5_; clear n0_ n1_ n2_ n3_ n4_ n5_; clear hb hbox hg) | ((with_reducible refine gate_dst (N := 3) rfl ?_); refine box_event ?hg (N := 3) ?hd (cs := #[.string a1_0, .slice A1_1 l1_1.length c1_1, .int .i64 a1_2]) (t := 30) ?hr ?_; (case hd => rfl); (case hg => rfl); (case hr => first | (go_simp; done) | (go_simp; rfl)); intro gb302 hg w8 hbox hb; have n0_ := Aside0.mk (Kd.V_below (Kd.V_elderB (by (with_reducible repeat (first | apply Kd.V_alloc | apply Kd.V_drewN | apply Kd.V_drew)); exact HO0_1.out) gb302 (Nat.le_of_eq hg.symm)) hb); have n1_ := Aside0.mk (Kd.V_below (Kd.V_elderB (by (with_reducible repeat (first | apply Kd.V_alloc | apply Kd.V_drewN | apply Kd.V_drew)); exact HO1_1.out) gb302 (Nat.le_of_eq hg.symm)) hb); have n2_ := Aside0.mk (blk_below (g := gb301) (o := .cells #[.string a0_0, .slice A0_1 l0_1.length c0_1, .int .i64 a0_2] 30 (0, 0)) (by (with_reducible repeat (first | refine blk_drewN ?_ _ | refine blk_drew ?_ | refine blk_alloc ?_ _)); exact BK301.out) hb); have n3_ := Aside0.mk (below_step (by repeat (first | (with_reducible first | exact HB.out | apply below_alloc | apply pw_below_drewN | apply below_drew1 | refine below_set ?_ GE301.out) | exact HB.out)) hb); have n4_ := Aside0.mk (hbox); have n5_ := Aside0.mk ((by rw [hg]; exact (below_size (by repeat (first | (with_reducible first | exact HB.out | apply below_alloc | apply pw_below_drewN | apply below_drew1 | refine below_set ?_ GE301.out) | exact HB.out))) : w.heap.size ≤ gb302)); have n6_ := Aside0.mk ((by rw [hg]; exact (below_size (by repeat (first | (with_reducible first | exact HB.out | apply below_alloc | apply pw_below_drewN | apply below_drew1 | refine below_set ?_ GE301.out) | exact HB.out))) : w.heap.size ≤ gb302)); have n7_ := Aside0.mk ((by rw [hg]; exact Nat.ne_of_lt (blk_lt (g := gb301) (o := .cells #[.string a0_0, .slice A0_1 l0_1.length c0_1, .int .i64 a0_2] 30 (0, 0)) (by (with_reducible repeat (first | refine blk_drewN ?_ _ | refine blk_drew ?_ | refine blk_alloc ?_ _)); exact BK301.out)) : gb301 ≠ gb302)); have n8_ := Aside0.mk ((by rw [hg]; exact Nat.ne_of_gt (blk_lt (g := gb301) (o := .cells #[.string a0_0, .slice A0_1 l0_1.length c0_1, .int .i64 a0_2] 30 (0, 0)) (by (with_reducible repeat (first | refine blk_drewN ?_ _ | refine blk_drew ?_ | refine blk_alloc ?_ _)); exact BK301.out)) : gb302 ≠ gb301)); clear HO0_1; clear HO1_1; clear BK301; clear HB; have HO0_1 := n0_; have HO1_1 := n1_; have BK301 := n2_; have HB := n3_; have BK302 := n4_; have GW302 := n5_; have GE302 := n6_; have NB301_302 := n7_; have NB302_301 := n8_; clear n0_ n1_ n2_ n3_ n4_ n5_ n6_ n7_ n8_; clear hb hbox hg) | ((with_reducible refine gate_dst (N := 4) rfl ?_); refine box_event ?hg (N := 4) ?hd (cs := #[.string (⟨#[]⟩ : ByteArray), .slice none 0 0, .int .i64 0]) (t := 30) ?hr ?_; (case hd => rfl); (case hg => rfl); (case hr => first | (go_simp; done) | (go_simp; rfl)); intro gb303 hg w9 hbox hb; have n0_ := Aside0.mk (Kd.V_below (Kd.V_elderB (by (with_reducible repeat (first | apply Kd.V_alloc | apply Kd.V_drewN | apply Kd.V_drew)); exact HO0_1.out) gb303 (Nat.le_of_eq hg.symm)) hb); have n1_ := Aside0.mk (Kd.V_below (Kd.V_elderB (by (with_reducible repeat (first | apply Kd.V_alloc | apply Kd.V_drewN | apply Kd.V_drew)); exact HO1_1.out) gb303 (Nat.le_of_eq hg.symm)) hb); have n2_ := Aside0.mk (blk_below (g := gb301) (o := .cells #[.string a0_0, .slice A0_1 l0_1.length c0_1, .int .i64 a0_2] 30 (0, 0)) (by (with_reducible repeat (first | refine blk_drewN ?_ _ | refine blk_drew ?_ | refine blk_alloc ?_ _)); exact BK301.out) hb); have n3_ := Aside0.mk (blk_below (g := gb302) (o := .cells #[.string a1_0, .slice A1_1 l1_1.length c1_1, .int .i64 a1_2] 30 (0, 0)) (by (with_reducible repeat (first | refine blk_drewN ?_ _ | refine blk_drew ?_ | refine blk_alloc ?_ _)); exact BK302.out) hb); have n4_ := Aside0.mk (below_step (by repeat (first | (with_reducible first | exact HB.out | apply below_alloc | apply pw_below_drewN | apply below_drew1 | refine below_set ?_ GE301.out | refine below_set ?_ GE302.out) | exact HB.out)) hb); have n5_ := Aside0.mk (hbox); have n6_ := Aside0.mk ((by rw [hg]; exact (below_size (by repeat (first | (with_reducible first | exact HB.out | apply below_alloc | apply pw_below_drewN | apply below_drew1 | refine below_set ?_ GE301.out | refine below_set ?_ GE302.out) | exact HB.out))) : w.heap.size ≤ gb303)); have n7_ := Aside0.mk ((by rw [hg]; exact (below_size (by repeat (first | (with_reducible first | exact HB.out | apply below_alloc | apply pw_below_drewN | apply below_drew1 | refine below_set ?_ GE301.out | refine below_set ?_ GE302.out) | exact HB.out))) : w.heap.size ≤ gb303)); have n8_ := Aside0.mk ((by rw [hg]; exact Nat.ne_of_lt (blk_lt (g := gb301) (o := .cells #[.string a0_0, .slice A0_1 l0_1.length c0_1, .int .i64 a0_2] 30 (0, 0)) (by (with_reducible repeat (first | refine blk_drewN ?_ _ | refine blk_drew ?_ | refine blk_alloc ?_ _)); exact BK301.out)) : gb301 ≠ gb303)); have n9_ := Aside0.mk ((by rw [hg]; exact Nat.ne_of_gt (blk_lt (g := gb301) (o := .cells #[.string a0_0, .slice A0_1 l0_1.length c0_1, .int .i64 a0_2] 30 (0, 0)) (by (with_reducible repeat (first | refine blk_drewN ?_ _ | refine blk_drew ?_ | refine blk_alloc ?_ _)); exact BK301.out)) : gb303 ≠ gb301)); have n10_ := Aside0.mk ((by rw [hg]; exact Nat.ne_of_lt (blk_lt (g := gb302) (o := .cells #[.string a1_0, .slice A1_1 l1_1.length c1_1, .int .i64 a1_2] 30 (0, 0)) (by (with_reducible repeat (first | refine blk_drewN ?_ _ | refine blk_drew ?_ | refine blk_alloc ?_ _)); exact BK302.out)) : gb302 ≠ gb303)); have n11_ := Aside0.mk ((by rw [hg]; exact Nat.ne_of_gt (blk_lt (g := gb302) (o := .cells #[.string a1_0, .slice A1_1 l1_1.length c1_1, .int .i64 a1_2] 30 (0, 0)) (by (with_reducible repeat (first | refine blk_drewN ?_ _ | refine blk_drew ?_ | refine blk_alloc ?_ _)); exact BK302.out)) : gb303 ≠ gb302)); clear HO0_1; clear HO1_1; clear BK301; clear BK302; clear HB; have HO0_1 := n0_; have HO1_1 := n1_; have BK301 := n2_; have BK302 := n3_; have HB := n4_; have BK303 := n5_; have GW303 := n6_; have GE303 := n7_; have NB301_303 := n8_; have NB303_301 := n9_; have NB302_303 := n10_; have NB303_302 := n11_; clear n0_ n1_ n2_ n3_ n4_ n5_ n6_ n7_ n8_ n9_ n10_ n11_; clear hb hbox hg))
        have n0_ := Aside0.mk (Kd.V_drew HO0_1.out)
        have n1_ := Aside0.mk (Kd.V_drew HO1_1.out)
        have n2_ := Aside0.mk (blk_drew BK301.out)
        have n3_ := Aside0.mk (blk_drew BK302.out)
        have n4_ := Aside0.mk (blk_drew BK303.out)
        have n5_ := Aside0.mk (below_drew1 HB.out)
        clear HO0_1
        clear HO1_1
        clear BK301
        clear BK302
        clear BK303
        clear HB
        have HO0_1 := n0_
        have HO1_1 := n1_
        have BK301 := n2_
        have BK302 := n3_
        have BK303 := n4_
        have HB := n5_
        clear n0_ n1_ n2_ n3_ n4_ n5_
        refine start_ (n := 19) (S := fun w' => w'.cell? ⟨gb301, 0, none⟩ = some (.string a0_0) ∧ w'.cell? ⟨gb301, 1, none⟩ = some (.slice A0_1 l0_1.length c0_1) ∧ w'.cell? ⟨gb301, 2, none⟩ = some (.int .i64 a0_2) ∧ w'.cell? ⟨gb302, 0, none⟩ = some (.string a1_0) ∧ w'.cell? ⟨gb302, 1, none⟩ = some (.slice A1_1 l1_1.length c1_1) ∧ w'.cell? ⟨gb302, 2, none⟩ = some (.int .i64 a1_2)) (ds := []) #[false, false, false, false, false, false, false, false, false, false, false, false, false, false, false, false, false, false, false] (by kernel_rfl) rfl rfl ⟨(blk_cell BK301.out 0).trans rfl, (blk_cell BK301.out 1).trans rfl, (blk_cell BK301.out 2).trans rfl, (blk_cell BK302.out 0).trans rfl, (blk_cell BK302.out 1).trans rfl, (blk_cell BK302.out 2).trans rfl⟩ (fun hHeld => ?_); refine with_tabW spec_Joined.tab1 spec_Joined.bits1 (fun HT_ HW_ => ?_)
        generalize w9.drew = w10 at HO0_1 HO1_1 BK301 BK302 BK303 HB hHeld ⊢
        refine pure_ (i := 0) (N := some 5) (v := ?_) (a' := ?_) #[true, false, false, false, false, false, false, false, false, false, false, false, false, false, false, false, false, false, false] rfl rfl (any_of HT_.out (by kernel_rfl)) (fun _ _ _ h => h) (Or.inl ⟨by rfl, ?_⟩) ?_ ?_
        rotate_left
        · intro w'
          go_simp
          with_reducible rfl
        rotate_left
        · simp only [Act.put, List.setIfInBounds_toArray, List.set_cons_zero, List.set_cons_succ, i64_w, i32_w]
          rfl
        refine pure_ (i := 2) (N := some 7) (v := ?_) (a' := ?_) #[true, false, true, false, false, false, false, false, false, false, false, false, false, false, false, false, false, false, false] rfl rfl (any_of HT_.out (by kernel_rfl)) (fun _ _ _ h => h) (Or.inl ⟨by rfl, ?_⟩) ?_ ?_
        rotate_left
        · intro w'
          go_simp
          with_reducible rfl
        rotate_left
        · simp only [Act.put, List.setIfInBounds_toArray, List.set_cons_zero, List.set_cons_succ, i64_w, i32_w]
          rfl
        refine pure_ (i := 6) (N := some 11) (v := ?_) (a' := ?_) #[true, false, true, false, false, false, true, false, false, false, false, false, false, false, false, false, false, false, false] rfl rfl (any_of HT_.out (by kernel_rfl)) (fun _ _ _ h => h) (Or.inl ⟨by rfl, ?_⟩) ?_ ?_
        rotate_left
        · intro w'
          go_simp
          with_reducible rfl
        rotate_left
        · simp only [Act.put, List.setIfInBounds_toArray, List.set_cons_zero, List.set_cons_succ, i64_w, i32_w]
          rfl
        refine pure_ (i := 9) (N := some 14) (v := ?_) (a' := ?_) #[true, false, true, false, false, false, true, false, false, true, false, false, false, false, false, false, false, false, false] rfl rfl (any_of HT_.out (by kernel_rfl)) (fun _ _ _ h => h) (Or.inl ⟨by rfl, ?_⟩) ?_ ?_
        rotate_left
        · intro w'
          go_simp
          with_reducible rfl
        rotate_left
        · simp only [Act.put, List.setIfInBounds_toArray, List.set_cons_zero, List.set_cons_succ, i64_w, i32_w]
          rfl
        refine pure_ (i := 12) (N := some 17) (v := ?_) (a' := ?_) #[true, false, true, false, false, false, true, false, false, true, false, false, true, false, false, false, false, false, false] rfl rfl (any_of HT_.out (by kernel_rfl)) (fun _ _ _ h => h) (Or.inl ⟨by rfl, ?_⟩) ?_ ?_
        rotate_left
        · intro w'
          go_simp
          with_reducible rfl
        rotate_left
        · simp only [Act.put, List.setIfInBounds_toArray, List.set_cons_zero, List.set_cons_succ, i64_w, i32_w]
          rfl
        refine pure_ (i := 14) (N := some 19) (v := ?_) (a' := ?_) #[true, false, true, false, false, false, true, false, false, true, false, false, true, false, true, false, false, false, false] rfl rfl (any_of HT_.out (by kernel_rfl)) (fun _ _ _ h => h) (Or.inl ⟨by rfl, ?_⟩) ?_ ?_
        rotate_left
        · intro w'
          go_simp
          with_reducible rfl
        rotate_left
        · simp only [Act.put, List.setIfInBounds_toArray, List.set_cons_zero, List.set_cons_succ, i64_w, i32_w]
          rfl
        refine take_ (i := 1) (N := some 6) (v := ?_) (a' := ?_) #[true, true, true, false, false, false, true, false, false, true, false, false, true, false, true, false, false, false, false] rfl rfl (take_ofW HT_.out HW_.out (by kernel_rfl)) (fun _ _ _ h => h) (Or.inl ⟨by rfl, ?_⟩) hHeld ?_ ?_
        rotate_left
        · rintro w' ⟨s0, s1, s2, s3, s4, s5⟩
          go_simp
          with_reducible rfl
        rotate_left
        · simp only [Act.put, List.setIfInBounds_toArray, List.set_cons_zero, List.set_cons_succ, i64_w, i32_w]
          rfl
        refine take_ (i := 3) (N := some 8) (v := ?_) (a' := ?_) #[true, true, true, true, false, false, true, false, false, true, false, false, true, false, true, false, false, false, false] rfl rfl (take_ofW HT_.out HW_.out (by kernel_rfl)) (fun _ _ _ h => h) (Or.inl ⟨by rfl, ?_⟩) hHeld ?_ ?_
        rotate_left
        · rintro w' ⟨s0, s1, s2, s3, s4, s5⟩
          go_simp
          with_reducible rfl
        rotate_left
        · simp only [Act.put, List.setIfInBounds_toArray, List.set_cons_zero, List.set_cons_succ, i64_w, i32_w]
          rfl
        refine pure_ (i := 4) (N := some 9) (v := ?_) (a' := ?_) #[true, true, true, true, true, false, true, false, false, true, false, false, true, false, true, false, false, false, false] rfl rfl (any_of HT_.out (by kernel_rfl)) (fun _ _ _ h => h) (Or.inl ⟨by rfl, ?_⟩) ?_ ?_
        rotate_left
        · intro w'
          go_simp
          with_reducible rfl
        rotate_left
        · simp only [Act.put, List.setIfInBounds_toArray, List.set_cons_zero, List.set_cons_succ, i64_w, i32_w]
          rfl
        refine take_ (i := 7) (N := some 12) (v := ?_) (a' := ?_) #[true, true, true, true, true, false, true, true, false, true, false, false, true, false, true, false, false, false, false] rfl rfl (take_ofW HT_.out HW_.out (by kernel_rfl)) (fun _ _ _ h => h) (Or.inl ⟨by rfl, ?_⟩) hHeld ?_ ?_
        rotate_left
        · rintro w' ⟨s0, s1, s2, s3, s4, s5⟩
          go_simp
          with_reducible rfl
        rotate_left
        · simp only [Act.put, List.setIfInBounds_toArray, List.set_cons_zero, List.set_cons_succ, i64_w, i32_w]
          rfl
        refine take_ (i := 10) (N := some 15) (v := ?_) (a' := ?_) #[true, true, true, true, true, false, true, true, false, true, true, false, true, false, true, false, false, false, false] rfl rfl (take_ofW HT_.out HW_.out (by kernel_rfl)) (fun _ _ _ h => h) (Or.inl ⟨by rfl, ?_⟩) hHeld ?_ ?_
        rotate_left
        · rintro w' ⟨s0, s1, s2, s3, s4, s5⟩
          go_simp
          with_reducible rfl
        rotate_left
        · simp only [Act.put, List.setIfInBounds_toArray, List.set_cons_zero, List.set_cons_succ, i64_w, i32_w]
          rfl
        refine take_ (i := 13) (N := some 18) (v := ?_) (a' := ?_) #[true, true, true, true, true, false, true, true, false, true, true, false, true, true, true, false, false, false, false] rfl rfl (take_ofW HT_.out HW_.out (by kernel_rfl)) (fun _ _ _ h => h) (Or.inl ⟨by rfl, ?_⟩) hHeld ?_ ?_
        rotate_left
        · rintro w' ⟨s0, s1, s2, s3, s4, s5⟩
          go_simp
          with_reducible rfl
        rotate_left
        · simp only [Act.put, List.setIfInBounds_toArray, List.set_cons_zero, List.set_cons_succ, i64_w, i32_w]
          rfl
        refine take_ (i := 15) (N := some 20) (v := ?_) (a' := ?_) #[true, true, true, true, true, false, true, true, false, true, true, false, true, true, true, true, false, false, false] rfl rfl (take_ofW HT_.out HW_.out (by kernel_rfl)) (fun _ _ _ h => h) (Or.inl ⟨by rfl, ?_⟩) hHeld ?_ ?_
        rotate_left
        · rintro w' ⟨s0, s1, s2, s3, s4, s5⟩
          go_simp
          with_reducible rfl
        rotate_left
        · simp only [Act.put, List.setIfInBounds_toArray, List.set_cons_zero, List.set_cons_succ, i64_w, i32_w]
          rfl
        refine one_ (i := 5) (N := some 10) #[true, true, true, true, true, true, true, true, false, true, true, false, true, true, true, true, false, false, false] rfl rfl (one_of HT_.out (by kernel_rfl)) (by decide) (fun K hK => ?_)
        refine Kd.N_lit_step k24 _ 24 ?hg (N' := 10) ?hd (xs := ([] : List (S24))) (inner := []) (ok := (fun k_ => ((P0_1_ k_ ∨ P1_1_ k_) ∨ w.heap.size ≤ k_) ∧ k_ ≠ gb301 ∧ k_ ≠ gb302 ∧ k_ ≠ gb303)) (okp := (fun k_ => ((P0_1_ k_ ∨ P1_1_ k_) ∨ w.heap.size ≤ k_) ∧ k_ ≠ gb301 ∧ k_ ≠ gb302 ∧ k_ ≠ gb303)) ?hr ?hp (fun _ hk => hk) ((show ∀ k_, w10.heap.size ≤ k_ → (fun k_ => ((P0_1_ k_ ∨ P1_1_ k_) ∨ w.heap.size ≤ k_) ∧ k_ ≠ gb301 ∧ k_ ≠ gb302 ∧ k_ ≠ gb303) k_ from fun k_ hk => ⟨(.inr (Nat.le_trans (below_size (by repeat (first | (with_reducible first | exact HB.out | apply below_alloc | apply pw_below_drewN | apply below_drew1 | refine below_set ?_ GE301.out | refine below_set ?_ GE302.out | refine below_set ?_ GE303.out) | exact HB.out))) hk)), Kd.freshB (g := gb301) (o := .cells #[.string a0_0, .slice A0_1 l0_1.length c0_1, .int .i64 a0_2] 30 (0, 0)) (by (with_reducible repeat (first | refine blk_drewN ?_ _ | refine blk_drew ?_ | refine blk_alloc ?_ _)); exact BK301.out) k_ hk, Kd.freshB (g := gb302) (o := .cells #[.string a1_0, .slice A1_1 l1_1.length c1_1, .int .i64 a1_2] 30 (0, 0)) (by (with_reducible repeat (first | refine blk_drewN ?_ _ | refine blk_drew ?_ | refine blk_alloc ?_ _)); exact BK302.out) k_ hk, Kd.freshB (g := gb303) (o := .cells #[.string (⟨#[]⟩ : ByteArray), .slice none 0 0, .int .i64 0] 30 (0, 0)) (by (with_reducible repeat (first | refine blk_drewN ?_ _ | refine blk_drew ?_ | refine blk_alloc ?_ _)); exact BK303.out) k_ hk⟩) _ (Nat.le_refl _)) (Below.refl _ _) (Nat.le_refl _) (by simp) ?_; (case hd => rfl); (case hg => rfl); (case hr => first | (go_simp; done) | (go_simp; rfl)); (case hp => exact (Reps.none _ _))
        intro v305 w11 ho12 hb hg_ hnew_
        clear hg_ hnew_
        (first | rw [← Ny304.out] at ho12 | (simp only [Int.reduceToNat] at ho12; rw [← Ny304.out] at ho12))
        have n0_ := Aside0.mk (Kd.V_elder' (by (with_reducible repeat (first | apply Kd.V_alloc | apply Kd.V_drewN | apply Kd.V_drew)); exact HO0_1.out) (Kd.N_base ho12) hb)
        have n1_ := Aside0.mk (Kd.V_elder' (by (with_reducible repeat (first | apply Kd.V_alloc | apply Kd.V_drewN | apply Kd.V_drew)); exact HO1_1.out) (Kd.N_base ho12) hb)
        have n2_ := Aside0.mk (Kd.N_lower ho12 (below_size (by repeat (first | (with_reducible first | exact HB.out | apply below_alloc | apply pw_below_drewN | apply below_drew1 | refine below_set ?_ GE301.out | refine below_set ?_ GE302.out | refine below_set ?_ GE303.out) | exact HB.out))))
        have n3_ := Aside0.mk (blk_below (g := gb301) (o := .cells #[.string a0_0, .slice A0_1 l0_1.length c0_1, .int .i64 a0_2] 30 (0, 0)) (by (with_reducible repeat (first | refine blk_drewN ?_ _ | refine blk_drew ?_ | refine blk_alloc ?_ _)); exact BK301.out) hb)
        have n4_ := Aside0.mk (blk_below (g := gb302) (o := .cells #[.string a1_0, .slice A1_1 l1_1.length c1_1, .int .i64 a1_2] 30 (0, 0)) (by (with_reducible repeat (first | refine blk_drewN ?_ _ | refine blk_drew ?_ | refine blk_alloc ?_ _)); exact BK302.out) hb)
        have n5_ := Aside0.mk (blk_below (g := gb303) (o := .cells #[.string (⟨#[]⟩ : ByteArray), .slice none 0 0, .int .i64 0] 30 (0, 0)) (by (with_reducible repeat (first | refine blk_drewN ?_ _ | refine blk_drew ?_ | refine blk_alloc ?_ _)); exact BK303.out) hb)
        have n6_ := Aside0.mk (below_step (by repeat (first | (with_reducible first | exact HB.out | apply below_alloc | apply pw_below_drewN | apply below_drew1 | refine below_set ?_ GE301.out | refine below_set ?_ GE302.out | refine below_set ?_ GE303.out) | exact HB.out)) hb)
        clear HO0_1
        clear HO1_1
        clear BK301
        clear BK302
        clear BK303
        clear HB
        have HO0_1 := n0_
        have HO1_1 := n1_
        have HO306 := n2_
        have BK301 := n3_
        have BK302 := n4_
        have BK303 := n5_
        have HB := n6_
        clear n0_ n1_ n2_ n3_ n4_ n5_ n6_
        clear hb ho12
        refine hK.out _ _ ⟨(blk_cell BK301.out 0).trans rfl, (blk_cell BK301.out 1).trans rfl, (blk_cell BK301.out 2).trans rfl, (blk_cell BK302.out 0).trans rfl, (blk_cell BK302.out 1).trans rfl, (blk_cell BK302.out 2).trans rfl⟩ (fun hHeld => ?_)
        clear hK K
        refine norm_ (a' := ?_) ?_ ?_
        rotate_left
        · show Act.put _ (some 10) _ = _
          simp only [Act.put, List.setIfInBounds_toArray, List.set_cons_zero, List.set_cons_succ, i64_w, i32_w]
          rfl
        refine one_ (i := 8) (N := some 13) #[true, true, true, true, true, true, true, true, true, true, true, false, true, true, true, true, false, false, false] rfl rfl (one_of HT_.out (by kernel_rfl)) (by decide) (fun K hK => ?_)
        refine Kd.N_append_rows_step k24 (w0 := w) w.heap.size (by rfl) (.tmp 10) (.tmp 12) 22 24 (.agg #[(.int .i64 0), (.int .i64 0), (.string ⟨#[]⟩), (.slice none 0 0)]) 56 rfl Try.underlying22 info24 rfl (by decide) (by omega) v305 y304 l0_1 _ _ _ (fun k_ => ((P0_1_ k_ ∨ P1_1_ k_) ∨ w.heap.size ≤ k_) ∧ k_ ≠ gb301 ∧ k_ ≠ gb302 ∧ k_ ≠ gb303) (fun k_ => ((fun k_ => ((P0_1_ k_ ∨ P1_1_ k_) ∨ w.heap.size ≤ k_) ∧ k_ ≠ gb301 ∧ k_ ≠ gb302 ∧ k_ ≠ gb303)) k_ ∧ some k_ ≠ (v305 : Value).ownBlock) rfl rfl ?aO ?aR (fun _ hk => hk) ?aF ?aB ?aS ?aL ?_
        (case aR => exact (by skip; exact Kd.V_F (Kd.V_mono (ok' := (fun k_ => ((fun k_ => ((P0_1_ k_ ∨ P1_1_ k_) ∨ w.heap.size ≤ k_) ∧ k_ ≠ gb301 ∧ k_ ≠ gb302 ∧ k_ ≠ gb303)) k_ ∧ some k_ ≠ (v305 : Value).ownBlock)) (HO0_1.out) (fun k_ hk => ⟨⟨hk.1.1.1.1, ⟨hk.1.1.1.2, ⟨hk.1.1.2, hk.1.2⟩⟩⟩, hk.2⟩))))
        (case aB => exact (by repeat (first | (with_reducible first | exact HB.out | apply below_alloc | apply pw_below_drewN | apply below_drew1 | refine below_set ?_ GE301.out | refine below_set ?_ GE302.out | refine below_set ?_ GE303.out) | exact HB.out)))
        (case aF => exact (fun k_ hk => ⟨(.inr (Nat.le_trans (below_size (by repeat (first | (with_reducible first | exact HB.out | apply below_alloc | apply pw_below_drewN | apply below_drew1 | refine below_set ?_ GE301.out | refine below_set ?_ GE302.out | refine below_set ?_ GE303.out) | exact HB.out))) hk)), Kd.freshB (g := gb301) (o := .cells #[.string a0_0, .slice A0_1 l0_1.length c0_1, .int .i64 a0_2] 30 (0, 0)) (by (with_reducible repeat (first | refine blk_drewN ?_ _ | refine blk_drew ?_ | refine blk_alloc ?_ _)); exact BK301.out) k_ hk, Kd.freshB (g := gb302) (o := .cells #[.string a1_0, .slice A1_1 l1_1.length c1_1, .int .i64 a1_2] 30 (0, 0)) (by (with_reducible repeat (first | refine blk_drewN ?_ _ | refine blk_drew ?_ | refine blk_alloc ?_ _)); exact BK302.out) k_ hk, Kd.freshB (g := gb303) (o := .cells #[.string (⟨#[]⟩ : ByteArray), .slice none 0 0, .int .i64 0] 30 (0, 0)) (by (with_reducible repeat (first | refine blk_drewN ?_ _ | refine blk_drew ?_ | refine blk_alloc ?_ _)); exact BK303.out) k_ hk⟩))
        (case aO => exact (by (with_reducible repeat (first | apply Kd.N_alloc | apply Kd.N_drewN | apply Kd.N_drew)); exact HO306.out))
        (case aS => exact (below_size (by repeat (first | (with_reducible first | exact HB.out | apply below_alloc | apply pw_below_drewN | apply below_drew1 | refine below_set ?_ GE301.out | refine below_set ?_ GE302.out | refine below_set ?_ GE303.out) | exact HB.out))))
        (case aL => have := LMc4.out; omega)
        intro v308 w13 ho hb hg hat
        rw [← Ny307.out] at ho
        have n0_ := Aside0.mk (Kd.V_afterv (ok := (fun k_ => ((P0_1_ k_ ∨ P1_1_ k_) ∨ w.heap.size ≤ k_) ∧ k_ ≠ gb301 ∧ k_ ≠ gb302 ∧ k_ ≠ gb303)) (by (with_reducible repeat (first | apply Kd.V_alloc | apply Kd.V_drewN | apply Kd.V_drew)); exact Kd.V_mono HO0_1.out (fun _ hk => ⟨⟨hk.1.1.1.1, ⟨hk.1.1.1.2, ⟨hk.1.1.2, hk.1.2⟩⟩⟩, hk.2⟩)) hg hat)
        have n1_ := Aside0.mk (Kd.V_afterv (ok := (fun k_ => ((P0_1_ k_ ∨ P1_1_ k_) ∨ w.heap.size ≤ k_) ∧ k_ ≠ gb301 ∧ k_ ≠ gb302 ∧ k_ ≠ gb303)) (by (with_reducible repeat (first | apply Kd.V_alloc | apply Kd.V_drewN | apply Kd.V_drew)); exact Kd.V_mono HO1_1.out (fun _ hk => ⟨⟨hk.1.1.1.1, ⟨hk.1.1.1.2, ⟨hk.1.1.2, hk.1.2⟩⟩⟩, hk.2⟩)) hg hat)
        have n2_ := Aside0.mk (blk_grown (g := gb301) (o := .cells #[.string a0_0, .slice A0_1 l0_1.length c0_1, .int .i64 a0_2] 30 (0, 0)) (by (with_reducible repeat (first | refine blk_drewN ?_ _ | refine blk_drew ?_ | refine blk_alloc ?_ _)); exact BK301.out) hg (Kd.N_ne HO306.out BK301.out (by decide)))
        have n3_ := Aside0.mk (blk_grown (g := gb302) (o := .cells #[.string a1_0, .slice A1_1 l1_1.length c1_1, .int .i64 a1_2] 30 (0, 0)) (by (with_reducible repeat (first | refine blk_drewN ?_ _ | refine blk_drew ?_ | refine blk_alloc ?_ _)); exact BK302.out) hg (Kd.N_ne HO306.out BK302.out (by decide)))
        have n4_ := Aside0.mk (blk_grown (g := gb303) (o := .cells #[.string (⟨#[]⟩ : ByteArray), .slice none 0 0, .int .i64 0] 30 (0, 0)) (by (with_reducible repeat (first | refine blk_drewN ?_ _ | refine blk_drew ?_ | refine blk_alloc ?_ _)); exact BK303.out) hg (Kd.N_ne HO306.out BK303.out (by decide)))
        have n5_ := Aside0.mk (hb)
        have n6_ := Aside0.mk (ho)
        clear HO0_1
        clear HO1_1
        clear BK301
        clear BK302
        clear BK303
        clear HB
        clear HO306
        have HO0_1 := n0_
        have HO1_1 := n1_
        have BK301 := n2_
        have BK302 := n3_
        have BK303 := n4_
        have HB := n5_
        have HO309 := n6_
        clear n0_ n1_ n2_ n3_ n4_ n5_ n6_
        clear ho hb hg hat
        refine hK.out _ _ ⟨(blk_cell BK301.out 0).trans rfl, (blk_cell BK301.out 1).trans rfl, (blk_cell BK301.out 2).trans rfl, (blk_cell BK302.out 0).trans rfl, (blk_cell BK302.out 1).trans rfl, (blk_cell BK302.out 2).trans rfl⟩ (fun hHeld => ?_)
        clear hK K
        refine norm_ (a' := ?_) ?_ ?_
        rotate_left
        · show Act.put _ (some 13) _ = _
          simp only [Act.put, List.setIfInBounds_toArray, List.set_cons_zero, List.set_cons_succ, i64_w, i32_w]
          rfl
        refine one_ (i := 11) (N := some 16) #[true, true, true, true, true, true, true, true, true, true, true, true, true, true, true, true, false, false, false] rfl rfl (one_of HT_.out (by kernel_rfl)) (by decide) (fun K hK => ?_)
        refine Kd.N_append_rows_step k24 (w0 := w) w.heap.size (by rfl) (.tmp 13) (.tmp 15) 22 24 (.agg #[(.int .i64 0), (.int .i64 0), (.string ⟨#[]⟩), (.slice none 0 0)]) 56 rfl Try.underlying22 info24 rfl (by decide) (by omega) v308 y307 l1_1 _ _ _ (fun k_ => ((P0_1_ k_ ∨ P1_1_ k_) ∨ w.heap.size ≤ k_) ∧ k_ ≠ gb301 ∧ k_ ≠ gb302 ∧ k_ ≠ gb303) (fun k_ => ((fun k_ => ((P0_1_ k_ ∨ P1_1_ k_) ∨ w.heap.size ≤ k_) ∧ k_ ≠ gb301 ∧ k_ ≠ gb302 ∧ k_ ≠ gb303)) k_ ∧ some k_ ≠ (v308 : Value).ownBlock) rfl rfl ?aO ?aR (fun _ hk => hk) ?aF ?aB ?aS ?aL ?_
        (case aR => exact (by skip; exact Kd.V_F (Kd.V_mono (ok' := (fun k_ => ((fun k_ => ((P0_1_ k_ ∨ P1_1_ k_) ∨ w.heap.size ≤ k_) ∧ k_ ≠ gb301 ∧ k_ ≠ gb302 ∧ k_ ≠ gb303)) k_ ∧ some k_ ≠ (v308 : Value).ownBlock)) (HO1_1.out) (fun k_ hk => ⟨⟨hk.1.1, ⟨hk.1.2.1, ⟨hk.1.2.2.1, hk.1.2.2.2⟩⟩⟩, hk.2⟩))))
        (case aB => exact (by repeat (first | (with_reducible first | exact HB.out | apply below_alloc | apply pw_below_drewN | apply below_drew1 | refine below_set ?_ GE301.out | refine below_set ?_ GE302.out | refine below_set ?_ GE303.out) | exact HB.out)))
        (case aF => exact (fun k_ hk => ⟨(.inr (Nat.le_trans (below_size (by repeat (first | (with_reducible first | exact HB.out | apply below_alloc | apply pw_below_drewN | apply below_drew1 | refine below_set ?_ GE301.out | refine below_set ?_ GE302.out | refine below_set ?_ GE303.out) | exact HB.out))) hk)), Kd.freshB (g := gb301) (o := .cells #[.string a0_0, .slice A0_1 l0_1.length c0_1, .int .i64 a0_2] 30 (0, 0)) (by (with_reducible repeat (first | refine blk_drewN ?_ _ | refine blk_drew ?_ | refine blk_alloc ?_ _)); exact BK301.out) k_ hk, Kd.freshB (g := gb302) (o := .cells #[.string a1_0, .slice A1_1 l1_1.length c1_1, .int .i64 a1_2] 30 (0, 0)) (by (with_reducible repeat (first | refine blk_drewN ?_ _ | refine blk_drew ?_ | refine blk_alloc ?_ _)); exact BK302.out) k_ hk, Kd.freshB (g := gb303) (o := .cells #[.string (⟨#[]⟩ : ByteArray), .slice none 0 0, .int .i64 0] 30 (0, 0)) (by (with_reducible repeat (first | refine blk_drewN ?_ _ | refine blk_drew ?_ | refine blk_alloc ?_ _)); exact BK303.out) k_ hk⟩))
        (case aO => exact (by (with_reducible repeat (first | apply Kd.N_alloc | apply Kd.N_drewN | apply Kd.N_drew)); exact HO309.out))
        (case aS => exact (below_size (by repeat (first | (with_reducible first | exact HB.out | apply below_alloc | apply pw_below_drewN | apply below_drew1 | refine below_set ?_ GE301.out | refine below_set ?_ GE302.out | refine below_set ?_ GE303.out) | exact HB.out))))
        (case aL => have := LMc5.out; omega)
        intro v311 w14 ho hb hg hat
        rw [← Ny310.out] at ho
        have n0_ := Aside0.mk (Kd.V_afterv (ok := (fun k_ => ((P0_1_ k_ ∨ P1_1_ k_) ∨ w.heap.size ≤ k_) ∧ k_ ≠ gb301 ∧ k_ ≠ gb302 ∧ k_ ≠ gb303)) (by (with_reducible repeat (first | apply Kd.V_alloc | apply Kd.V_drewN | apply Kd.V_drew)); exact HO0_1.out) hg hat)
        have n1_ := Aside0.mk (Kd.V_afterv (ok := (fun k_ => ((P0_1_ k_ ∨ P1_1_ k_) ∨ w.heap.size ≤ k_) ∧ k_ ≠ gb301 ∧ k_ ≠ gb302 ∧ k_ ≠ gb303)) (by (with_reducible repeat (first | apply Kd.V_alloc | apply Kd.V_drewN | apply Kd.V_drew)); exact HO1_1.out) hg hat)
        have n2_ := Aside0.mk (blk_grown (g := gb301) (o := .cells #[.string a0_0, .slice A0_1 l0_1.length c0_1, .int .i64 a0_2] 30 (0, 0)) (by (with_reducible repeat (first | refine blk_drewN ?_ _ | refine blk_drew ?_ | refine blk_alloc ?_ _)); exact BK301.out) hg (Kd.N_ne HO309.out BK301.out (by decide)))
        have n3_ := Aside0.mk (blk_grown (g := gb302) (o := .cells #[.string a1_0, .slice A1_1 l1_1.length c1_1, .int .i64 a1_2] 30 (0, 0)) (by (with_reducible repeat (first | refine blk_drewN ?_ _ | refine blk_drew ?_ | refine blk_alloc ?_ _)); exact BK302.out) hg (Kd.N_ne HO309.out BK302.out (by decide)))
        have n4_ := Aside0.mk (blk_grown (g := gb303) (o := .cells #[.string (⟨#[]⟩ : ByteArray), .slice none 0 0, .int .i64 0] 30 (0, 0)) (by (with_reducible repeat (first | refine blk_drewN ?_ _ | refine blk_drew ?_ | refine blk_alloc ?_ _)); exact BK303.out) hg (Kd.N_ne HO309.out BK303.out (by decide)))
        have n5_ := Aside0.mk (hb)
        have n6_ := Aside0.mk (ho)
        clear HO0_1
        clear HO1_1
        clear BK301
        clear BK302
        clear BK303
        clear HB
        clear HO309
        have HO0_1 := n0_
        have HO1_1 := n1_
        have BK301 := n2_
        have BK302 := n3_
        have BK303 := n4_
        have HB := n5_
        have HO312 := n6_
        clear n0_ n1_ n2_ n3_ n4_ n5_ n6_
        clear ho hb hg hat
        refine hK.out _ _ ⟨(blk_cell BK301.out 0).trans rfl, (blk_cell BK301.out 1).trans rfl, (blk_cell BK301.out 2).trans rfl, (blk_cell BK302.out 0).trans rfl, (blk_cell BK302.out 1).trans rfl, (blk_cell BK302.out 2).trans rfl⟩ (fun hHeld => ?_)
        clear hK K
        refine norm_ (a' := ?_) ?_ ?_
        rotate_left
        · show Act.put _ (some 16) _ = _
          simp only [Act.put, List.setIfInBounds_toArray, List.set_cons_zero, List.set_cons_succ, i64_w, i32_w]
          rfl
        refine one_ (i := 16) (N := some 21) #[true, true, true, true, true, true, true, true, true, true, true, true, true, true, true, true, true, false, false] rfl rfl (one_of HT_.out (by kernel_rfl)) (by decide) (fun K hK => ?_)
        refine goes_ Try.func60 (by kernel_rfl) rfl #[.int .i64 a0_2, .int .i64 a1_2] (by rfl) rfl rfl (by (try simp only [List.map_toArray, List.map_cons, List.map_nil]); first | done | rfl | (simp only [List.length_drop, List.length_take]; rfl)) ?_
        with_reducible refine (spec_worse.calls a0_2 a1_2 t313 _ A6.out).mono ?_
        rintro e w15 ⟨rfl, hb⟩
        refine ⟨_, rfl, ?_⟩
        have n0_ := Aside0.mk (Kd.V_below (by (with_reducible repeat (first | apply Kd.V_alloc | apply Kd.V_drewN | apply Kd.V_drew)); exact HO0_1.out) hb)
        have n1_ := Aside0.mk (Kd.V_below (by (with_reducible repeat (first | apply Kd.V_alloc | apply Kd.V_drewN | apply Kd.V_drew)); exact HO1_1.out) hb)
        have n2_ := Aside0.mk (Kd.N_below (by (with_reducible repeat (first | apply Kd.N_alloc | apply Kd.N_drewN | apply Kd.N_drew)); exact HO312.out) hb)
        have n3_ := Aside0.mk (blk_below (g := gb301) (o := .cells #[.string a0_0, .slice A0_1 l0_1.length c0_1, .int .i64 a0_2] 30 (0, 0)) (by (with_reducible repeat (first | refine blk_drewN ?_ _ | refine blk_drew ?_ | refine blk_alloc ?_ _)); exact BK301.out) hb)
        have n4_ := Aside0.mk (blk_below (g := gb302) (o := .cells #[.string a1_0, .slice A1_1 l1_1.length c1_1, .int .i64 a1_2] 30 (0, 0)) (by (with_reducible repeat (first | refine blk_drewN ?_ _ | refine blk_drew ?_ | refine blk_alloc ?_ _)); exact BK302.out) hb)
        have n5_ := Aside0.mk (blk_below (g := gb303) (o := .cells #[.string (⟨#[]⟩ : ByteArray), .slice none 0 0, .int .i64 0] 30 (0, 0)) (by (with_reducible repeat (first | refine blk_drewN ?_ _ | refine blk_drew ?_ | refine blk_alloc ?_ _)); exact BK303.out) hb)
        have n6_ := Aside0.mk (below_step (by repeat (first | (with_reducible first | exact HB.out | apply below_alloc | apply pw_below_drewN | apply below_drew1 | refine below_set ?_ GE301.out | refine below_set ?_ GE302.out | refine below_set ?_ GE303.out) | exact HB.out)) hb)
        clear HO0_1
        clear HO1_1
        clear HO312
        clear BK301
        clear BK302
        clear BK303
        clear HB
        have HO0_1 := n0_
        have HO1_1 := n1_
        have HO312 := n2_
        have BK301 := n3_
        have BK302 := n4_
        have BK303 := n5_
        have HB := n6_
        clear n0_ n1_ n2_ n3_ n4_ n5_ n6_
        (try clear hb)
        (try clear hb2)
        (try clear hk)
        (try clear hi)
        obtain ⟨Ao16, co16, eo16⟩ := Kd.N_slice HO312.out
        (first | subst eo16 | (injection eo16 with f1_ f2_ f3_; have f4_ := f1_.symm; have f5_ := f3_.symm; clear f1_ f2_ f3_; subst f4_; subst f5_))
        refine hK.out _ _ ⟨(blk_cell BK301.out 0).trans rfl, (blk_cell BK301.out 1).trans rfl, (blk_cell BK301.out 2).trans rfl, (blk_cell BK302.out 0).trans rfl, (blk_cell BK302.out 1).trans rfl, (blk_cell BK302.out 2).trans rfl⟩ (fun hHeld => ?_)
        clear hK K
        refine norm_ (a' := ?_) ?_ ?_
        rotate_left
        · show Act.put _ (some 21) _ = _
          simp only [Act.put, List.setIfInBounds_toArray, List.set_cons_zero, List.set_cons_succ, i64_w, i32_w]
          rfl
        refine pure_ (i := 17) (N := some 22) (v := ?_) (a' := ?_) #[true, true, true, true, true, true, true, true, true, true, true, true, true, true, true, true, true, true, false] rfl rfl (any_of HT_.out (by kernel_rfl)) (fun _ _ _ h => h) (Or.inl ⟨by rfl, ?_⟩) ?_ ?_
        rotate_left
        · intro w'
          go_simp
          with_reducible rfl
        rotate_left
        · simp only [Act.put, List.setIfInBounds_toArray, List.set_cons_zero, List.set_cons_succ, i64_w, i32_w]
          rfl
        refine one_ (i := 18) (N := none) #[true, true, true, true, true, true, true, true, true, true, true, true, true, true, true, true, true, true, true] rfl rfl (one_of HT_.out (by kernel_rfl)) (by decide) (fun K hK => ?_)
        have hs17 : w15.cell? ⟨gb303, 0, none⟩ = some (.string (⟨#[]⟩ : ByteArray)) := (blk_cell BK303.out 0).trans rfl
        have hfs17 := blk_frozen BK303.out 0
        have hns17_0 := NB301_303.out
        have hns17_1 := NB302_303.out
        have hms17_0 := NB303_301.out
        have hms17_1 := NB303_302.out
        have hs18 : w15.cell? ⟨gb303, 1, none⟩ = some (.slice none 0 0) := (blk_cell BK303.out 1).trans rfl
        have hfs18 := blk_frozen BK303.out 1
        have hns18_0 := NB301_303.out
        have hns18_1 := NB302_303.out
        have hms18_0 := NB303_301.out
        have hms18_1 := NB303_302.out
        have hs19 : w15.cell? ⟨gb303, 2, none⟩ = some (.int .i64 0) := (blk_cell BK303.out 2).trans rfl
        have hfs19 := blk_frozen BK303.out 2
        have hns19_0 := NB301_303.out
        have hns19_1 := NB302_303.out
        have hms19_0 := NB303_301.out
        have hms19_1 := NB303_302.out
        refine skip_ (w1 := ?_) (by rfl) rfl ?_ ?_
        rotate_left
        · go_simp
          rfl
        refine hK.out _ _ ⟨((cell_far (p := ⟨gb303, _, none⟩) NB301_303.out _).trans (((cell_far (p := ⟨gb303, _, none⟩) NB301_303.out _).trans (((cell_far (p := ⟨gb303, _, none⟩) NB301_303.out _).trans (hHeld.1)))))), ((cell_far (p := ⟨gb303, _, none⟩) NB301_303.out _).trans (((cell_far (p := ⟨gb303, _, none⟩) NB301_303.out _).trans (((cell_far (p := ⟨gb303, _, none⟩) NB301_303.out _).trans (hHeld.2.1)))))), ((cell_far (p := ⟨gb303, _, none⟩) NB301_303.out _).trans (((cell_far (p := ⟨gb303, _, none⟩) NB301_303.out _).trans (((cell_far (p := ⟨gb303, _, none⟩) NB301_303.out _).trans (hHeld.2.2.1)))))), ((cell_far (p := ⟨gb303, _, none⟩) NB302_303.out _).trans (((cell_far (p := ⟨gb303, _, none⟩) NB302_303.out _).trans (((cell_far (p := ⟨gb303, _, none⟩) NB302_303.out _).trans (hHeld.2.2.2.1)))))), ((cell_far (p := ⟨gb303, _, none⟩) NB302_303.out _).trans (((cell_far (p := ⟨gb303, _, none⟩) NB302_303.out _).trans (((cell_far (p := ⟨gb303, _, none⟩) NB302_303.out _).trans (hHeld.2.2.2.2.1)))))), ((cell_far (p := ⟨gb303, _, none⟩) NB302_303.out _).trans (((cell_far (p := ⟨gb303, _, none⟩) NB302_303.out _).trans (((cell_far (p := ⟨gb303, _, none⟩) NB302_303.out _).trans (hHeld.2.2.2.2.2))))))⟩ (fun hHeld => ?_)
        clear hK K
        refine done_ (done_of HT_.out (by kernel_rfl)) ?_
        try go_wp2
        refine bodyPost_ret (results_cell_row rfl _ _ gb303 30 #[.string (a0_0 ++ a1_0), .slice Ao16 y310.length co16, .int .i64 t313] (0, 0) _ rfl (by (with_reducible repeat (first | refine blk_drewN ?_ _ | refine blk_drew ?_ | refine blk_alloc ?_ _)); refine blk_put (cs := #[.string (a0_0 ++ a1_0), .slice Ao16 y310.length co16, .int .i64 0]) ?_ 2 _ rfl; (with_reducible repeat (first | refine blk_drewN ?_ _ | refine blk_drew ?_ | refine blk_alloc ?_ _)); refine blk_put (cs := #[.string (a0_0 ++ a1_0), .slice none 0 0, .int .i64 0]) ?_ 1 _ rfl; (with_reducible repeat (first | refine blk_drewN ?_ _ | refine blk_drew ?_ | refine blk_alloc ?_ _)); refine blk_put (cs := #[.string (⟨#[]⟩ : ByteArray), .slice none 0 0, .int .i64 0]) ?_ 0 _ rfl; (with_reducible repeat (first | refine blk_drewN ?_ _ | refine blk_drew ?_ | refine blk_alloc ?_ _)); exact BK303.out) Try.underlying30 rfl (by kernel_rfl)) rfl ?_
        exact ⟨_, by first | rfl | (simp [errW_none, errW_some] <;> rfl) | (simp [*, errW_none, errW_some] <;> rfl), by (with_reducible repeat (first | apply Kd.N_alloc | apply Kd.N_drewN | apply Kd.N_drew)); exact Kd.N_mono (Kd.N_far (p := ⟨gb303, 2, none⟩) (Kd.N_far (p := ⟨gb303, 1, none⟩) (Kd.N_far (p := ⟨gb303, 0, none⟩) (Kd.N_mono HO312.out (fun k_ hk => (⟨hk, hk.2.2.2⟩ : _ ∧ k_ ≠ gb303))) (fun _ hk => hk.2) (.string (a0_0 ++ a1_0))) (fun _ hk => hk.2) (.slice Ao16 y310.length co16)) (fun _ hk => hk.2) (.int .i64 t313)) (fun _ hk => hk.1.1), by repeat (first | (with_reducible first | exact HB.out | apply below_alloc | apply pw_below_drewN | apply below_drew1 | refine below_set ?_ GE301.out | refine below_set ?_ GE302.out | refine below_set ?_ GE303.out) | exact HB.out)⟩
      · rw [if_neg c5] at H
        exact absurd H (by simp)
    · rw [if_neg c4] at H
      exact absurd H (by simp)
  · rw [if_neg c3] at H
    exact absurd H (by simp)

-- NOT PRINTED: function 16 (spec_Columns)

-- NOT PRINTED: function 63 (spec_SameValue)

-- NOT PRINTED: function 41 (spec_SameValues)

-- NOT PRINTED: function 18 (laws_told7)

end Go.Proofs.Ytagandfneflcbaa.PFnLt
