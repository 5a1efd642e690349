-- PRINTED BY print.sh 35421559b90ae4d0a3588c463048766b98c2df88dd9212a6774a882060cdf62d: not written by this session
import Derived.Test.YtagandfneflcbaaPFnLtx0
import Derived.Test.YtagandfneflcbaaPFnLtx3
namespace Go.Proofs.Ytagandfneflcbaa.PFnLt
open Go.RowKit Go.Proofs.YtagandfneflcbaaW.PrintWords Go.Proofs.YtagandfneflcbaaW.PrintLast Go.Proofs.YtagandfneflcbaaW.PrintMore
attribute [local go_sem] max2_int min2_int max_two min_two max_three min_three max_four min_four   -- for this text's walks alone
set_option linter.unusedVariables false
set_option linter.unusedSimpArgs false

/-! ### spec_valuesRight: function 93 -/
mutual
def spec_valuesRight.l0 : Nat → List (S24) → Int → Option (Bool)
  | 0, _, _ => none
  | k + 1, x0, x3 => if (x0.length : Int) ≤ 50 then (spec_valuesRight.j1 k x0 x3 (decide (x3 < (x0.length : Int)))) else (spec_valuesRight.j1 k x0 x3 false)
def spec_valuesRight.j1 : Nat → List (S24) → Int → Bool → Option (Bool)
  | 0, _, _, _ => none
  | k + 1, x0, x3, x12 => if x12 = true then (if 0 ≤ x3 then (if x3 < (x0.length : Int) then ((spec_argumentRight.f k ((rd_T24 x0 x3).f0) ((rd_T24 x0 x3).f1) ((rd_T24 x0 x3).f2) ((rd_T24 x0 x3).f3)).bind fun t112 => (if t112 = true then (spec_valuesRight.l0 k x0 (wrap64 (x3 + 1))) else (some false))) else (none)) else (none)) else (some (decide ((x0.length : Int) ≤ 50)))
end
def spec_valuesRight.f (k : Nat) (l0 : List (S24)) : Option (Bool) := spec_valuesRight.l0 k l0 0
theorem spec_valuesRight.mono_l : ∀ k, (∀ y0 y1, LeO (spec_valuesRight.l0 k y0 y1) (spec_valuesRight.l0 (k + 1) y0 y1)) ∧ (∀ y0 y1 y2, LeO (spec_valuesRight.j1 k y0 y1 y2) (spec_valuesRight.j1 (k + 1) y0 y1 y2))
  | 0 => ⟨fun _ _ r h => by simp [spec_valuesRight.l0] at h, fun _ _ _ r h => by simp [spec_valuesRight.j1] at h⟩
  | k + 1 => by
    obtain ⟨ih0, ih1⟩ := spec_valuesRight.mono_l k
    refine ⟨?_, ?_⟩
    · intro y0 y1
      unfold spec_valuesRight.l0
      repeat' first
      | (with_reducible exact ih0 _ _)
      | (with_reducible exact ih1 _ _ _)
      | (with_reducible exact spec_argumentRight.mono _ _ _ _ _)
      | (with_reducible exact LeO.refl _)
      | (with_reducible exact LeO.none _)
      | (with_reducible refine LeO.ite ?_ ?_)
      | (with_reducible refine LeO.bind ?_ (fun _ => ?_))
      | exact ih0 _ _
      | exact ih1 _ _ _
      | exact spec_argumentRight.mono _ _ _ _ _
      | exact LeO.none _
      | refine LeO.ite ?_ ?_
      | refine LeO.bind ?_ (fun _ => ?_)
    · intro y0 y1 y2
      unfold spec_valuesRight.j1
      repeat' first
      | (with_reducible exact ih0 _ _)
      | (with_reducible exact ih1 _ _ _)
      | (with_reducible exact spec_argumentRight.mono _ _ _ _ _)
      | (with_reducible exact LeO.refl _)
      | (with_reducible exact LeO.none _)
      | (with_reducible refine LeO.ite ?_ ?_)
      | (with_reducible refine LeO.bind ?_ (fun _ => ?_))
      | exact ih0 _ _
      | exact ih1 _ _ _
      | exact spec_argumentRight.mono _ _ _ _ _
      | exact LeO.none _
      | refine LeO.ite ?_ ?_
      | refine LeO.bind ?_ (fun _ => ?_)
theorem spec_valuesRight.mono : ∀ a0 k, LeO (spec_valuesRight.f k a0) (spec_valuesRight.f (k + 1) a0) := by
  intro a0 k
  obtain ⟨ih0, ih1⟩ := spec_valuesRight.mono_l k
  unfold spec_valuesRight.f
  repeat' first
      | (with_reducible exact ih0 _ _)
      | (with_reducible exact ih1 _ _ _)
      | (with_reducible exact spec_argumentRight.mono _ _ _ _ _)
      | (with_reducible exact LeO.refl _)
      | (with_reducible exact LeO.none _)
      | (with_reducible refine LeO.ite ?_ ?_)
      | (with_reducible refine LeO.bind ?_ (fun _ => ?_))
      | exact ih0 _ _
      | exact ih1 _ _ _
      | exact spec_argumentRight.mono _ _ _ _ _
      | exact LeO.none _
      | refine LeO.ite ?_ ?_
      | refine LeO.bind ?_ (fun _ => ?_)
set_option maxHeartbeats 8000000 in
set_option maxRecDepth 100000 in
theorem spec_valuesRight.calls (k : Nat) (A0 : Option Addr) (c0 : Nat) (l0 : List (S24)) (r : Bool) (w : World) (hr0 : Kd.C k24 w A0 l0.length l0) (hc0 : l0.length ≤ c0) (h : spec_valuesRight.f k l0 = some r) :
    Calls Try.prog 93 #[.slice A0 l0.length c0] w fun e w' => e = .returned (.bool r) ∧ Below w.heap.size w w' := by
  have hu24 := Try.underlying24
  have HR0 := Aside0.mk hr0
  have HC0 := Aside0.mk hc0
  clear hr0 hc0
  have HB := Aside0.mk (Below.refl w.heap.size w)
  have H : (spec_valuesRight.l0 k l0 0) = some r := h
  clear h
  have H' := Aside0.mk H
  clear H
  go_enter Try.func93, Try.ntmps93
  go_wp2
  go_loopg [3] k (fun kq v3 w' => ∃ (x3_1 : Int), v3 = .int .i64 x3_1 ∧ Aside0 (spec_valuesRight.l0 kq l0 x3_1 = some r) ∧ Aside0 (kq ≤ k) ∧ Aside0 (Below w.heap.size w w'))
  case atStart => exact ⟨(0), (by first | rfl | (simp; done) | (simp [*]; done)), H', ⟨Nat.le_refl _⟩, ⟨by repeat (first | (with_reducible first | exact HB.out | apply below_alloc | apply pw_below_drewN | apply below_drew1) | exact HB.out)⟩⟩
  case round =>
    clear H'
    obtain ⟨x3_1, rfl, HA, HK1, HB⟩ := hrel
    cases gk with
    | zero => exact absurd HA.out (by simp [spec_valuesRight.l0])
    | succ k1 =>
      have H := HA.out
      clear HA
      simp only [spec_valuesRight.l0] at H
      have HC2 := Aside0.mk H
      clear H
      go_upto_region 2 with (fail)
      go_cut [12] (fun v12 wc => ∃ (kq : Nat) (x12_1 : Bool), v12 = .bool x12_1 ∧ Aside0 (spec_valuesRight.j1 kq l0 x3_1 x12_1 = some r) ∧ Aside0 (kq ≤ k1) ∧ Aside0 (Below w.heap.size w wc))
      case first =>
        have H := HC2.out
        clear HC2
        by_cases c3 : (l0.length : Int) ≤ 50
        · rw [if_pos c3] at H
          have c3b0 : decide ((l0.length : Int) ≤ 50) = true := decide_eq_true c3
          have c3b1 : decide (l0.length ≤ 50) = true := decide_eq_true (by omega)
          clear c3
          (first | rw [c3b0] | (simp only [i64_w, i32_w]; rw [c3b0]) | skip)
          have H' := Aside0.mk H
          clear H
          go_wp2
          go_meet
          case rel => exact ⟨_, (decide (x3_1 < (l0.length : Int))), (by first | rfl | (simp; done) | (simp [*]; done)), H', ⟨by have := HK1.out; first | omega | exact Nat.le_refl _⟩, ⟨by repeat (first | (with_reducible first | exact HB.out | apply below_alloc | apply pw_below_drewN | apply below_drew1) | exact HB.out)⟩⟩
        · rw [if_neg c3] at H
          have c3b0 : decide ((l0.length : Int) ≤ 50) = false := decide_eq_false c3
          have c3b1 : decide (l0.length ≤ 50) = false := decide_eq_false (by omega)
          clear c3
          (first | rw [c3b0] | (simp only [i64_w, i32_w]; rw [c3b0]) | skip)
          have H' := Aside0.mk H
          clear H
          go_wp2
          go_meet
          case rel => exact ⟨_, (false), (by first | rfl | (simp; done) | (simp [*]; done)), H', ⟨by have := HK1.out; first | omega | exact Nat.le_refl _⟩, ⟨by repeat (first | (with_reducible first | exact HB.out | apply below_alloc | apply pw_below_drewN | apply below_drew1) | exact HB.out)⟩⟩
      case rest =>
        clear HC2
        try clear p2
        try clear c3
        try clear c3b0
        try clear c3b1
        obtain ⟨kq, x12_1, rfl, HA, HJ1, HB⟩ := hcut
        cases kq with
        | zero => exact absurd HA.out (by simp [spec_valuesRight.j1])
        | succ kj1 =>
          have H := HA.out
          clear HA
          simp only [spec_valuesRight.j1] at H
          by_cases c4 : x12_1 = true
          · subst c4
            have H1 : (if 0 ≤ x3_1 then (if x3_1 < (l0.length : Int) then ((spec_argumentRight.f kj1 ((rd_T24 l0 x3_1).f0) ((rd_T24 l0 x3_1).f1) ((rd_T24 l0 x3_1).f2) ((rd_T24 l0 x3_1).f3)).bind fun t112 => (if t112 = true then (spec_valuesRight.l0 kj1 l0 (wrap64 (x3_1 + 1))) else (some false))) else (none)) else (none)) = some r := by rw [if_pos rfl] at H; exact H
            clear H
            have H := H1
            clear H1
            by_cases c5 : 0 ≤ x3_1
            · rw [if_pos c5] at H
              have c5b0 : decide (0 ≤ x3_1) = true := decide_eq_true c5
              clear c5
              by_cases c6 : x3_1 < (l0.length : Int)
              · rw [if_pos c6] at H
                have c6b0 : decide (x3_1 < (l0.length : Int)) = true := decide_eq_true c6
                clear c6
                replace H := Option.bind_eq_some_iff.mp H
                obtain ⟨t112, A70, H⟩ := H
                replace H : (if t112 = true then (spec_valuesRight.l0 kj1 l0 (wrap64 (x3_1 + 1))) else (some false)) = some r := H
                have A7 := Aside0.mk A70
                clear A70
                by_cases c8 : t112 = true
                · subst c8
                  have H1 : (spec_valuesRight.l0 kj1 l0 (wrap64 (x3_1 + 1))) = some r := by rw [if_pos rfl] at H; exact H
                  clear H
                  have H := H1
                  clear H1
                  have H' := Aside0.mk H
                  clear H
                  have p111 : 0 ≤ (x3_1 : Int) := of_decide_eq_true (by first | (with_reducible assumption) | assumption)
                  have q111 : x3_1 < (l0.length : Int) := of_decide_eq_true (by first | (with_reducible assumption) | assumption)
                  obtain ⟨ad111, A111_3, c111_3, e111, hx111_0, hx111_1, hx111_2, hx111_3, hl111_3, hi111_3⟩ := at_T24 HR0.out x3_1 p111 q111
                  cases e111
                  replace hx111_0 := (HB.out.cell (World.block_lt_of_cell? w _ hx111_0)).trans hx111_0
                  replace hx111_1 := (HB.out.cell (World.block_lt_of_cell? w _ hx111_1)).trans hx111_1
                  replace hx111_2 := (HB.out.cell (World.block_lt_of_cell? w _ hx111_2)).trans hx111_2
                  replace hx111_3 := (HB.out.cell (World.block_lt_of_cell? w _ hx111_3)).trans hx111_3
                  have HR111_3 := Aside0.mk hi111_3
                  have HC111_3 := Aside0.mk hl111_3
                  clear hi111_3 hl111_3
                  replace p111 := eq_true p111
                  replace q111 := eq_true q111
                  go_wp2_with (first | ((with_reducible refine gate_callee (f := 103) rfl ?_); refine goesL_ (some 19) rfl rfl Try.func103 (by kernel_rfl) rfl #[.agg #[.int .i64 ((rd_T24 l0 x3_1).f0), .int .i64 ((rd_T24 l0 x3_1).f1), .string ((rd_T24 l0 x3_1).f2), .slice A111_3 ((rd_T24 l0 x3_1).f3).length c111_3]] rfl (by (try simp only [List.map_toArray, List.map_cons, List.map_nil]); first | done | rfl | (simp only [List.length_drop, List.length_take]; rfl)) ?_; (with_reducible refine (spec_argumentRight.calls kj1 ((rd_T24 l0 x3_1).f0) ((rd_T24 l0 x3_1).f1) ((rd_T24 l0 x3_1).f2) _ _ ((rd_T24 l0 x3_1).f3) true _ ?side1 ?side2 A7.out).mono ?_); (case side1 => repeat (first | exact (Kd.C_below HR111_3.out HB.out) | (with_reducible refine Kd.C_alloc ?_ _) | (with_reducible refine Kd.C_drewN ?_ _) | (with_reducible refine Kd.C_drew ?_))); (case side2 => exact HC111_3.out); rintro e w9 ⟨rfl, hb⟩; refine ⟨_, rfl, ?_⟩; have n0_ := Aside0.mk (below_step (by repeat (first | (with_reducible first | exact HB.out | apply below_alloc | apply pw_below_drewN | apply below_drew1) | exact HB.out)) hb); clear HB; have HB := n0_; clear n0_; (try clear hb); (try clear hb2); (try clear hk); (try clear hi)))
                  go_roundg kj1
                  case measure => have := HK1.out; have := HJ1.out; omega
                  case rel => exact ⟨(wrap64 (x3_1 + 1)), (by first | rfl | (simp; done) | (simp [*]; done)), H', ⟨by have := HK1.out; have := HJ1.out; omega⟩, ⟨by repeat (first | (with_reducible first | exact HB.out | apply below_alloc | apply pw_below_drewN | apply below_drew1) | exact HB.out)⟩⟩
                · replace c8 := Bool.eq_false_iff.mpr c8
                  subst c8
                  have H1 : (some false) = some r := by rw [if_neg (show ¬ (false = true) by decide)] at H; exact H
                  clear H
                  have H := H1
                  clear H1
                  obtain rfl := Option.some.inj H
                  have p111 : 0 ≤ (x3_1 : Int) := of_decide_eq_true (by first | (with_reducible assumption) | assumption)
                  have q111 : x3_1 < (l0.length : Int) := of_decide_eq_true (by first | (with_reducible assumption) | assumption)
                  obtain ⟨ad111, A111_3, c111_3, e111, hx111_0, hx111_1, hx111_2, hx111_3, hl111_3, hi111_3⟩ := at_T24 HR0.out x3_1 p111 q111
                  cases e111
                  replace hx111_0 := (HB.out.cell (World.block_lt_of_cell? w _ hx111_0)).trans hx111_0
                  replace hx111_1 := (HB.out.cell (World.block_lt_of_cell? w _ hx111_1)).trans hx111_1
                  replace hx111_2 := (HB.out.cell (World.block_lt_of_cell? w _ hx111_2)).trans hx111_2
                  replace hx111_3 := (HB.out.cell (World.block_lt_of_cell? w _ hx111_3)).trans hx111_3
                  have HR111_3 := Aside0.mk hi111_3
                  have HC111_3 := Aside0.mk hl111_3
                  clear hi111_3 hl111_3
                  replace p111 := eq_true p111
                  replace q111 := eq_true q111
                  go_wp2_with (first | ((with_reducible refine gate_callee (f := 103) rfl ?_); refine goesL_ (some 19) rfl rfl Try.func103 (by kernel_rfl) rfl #[.agg #[.int .i64 ((rd_T24 l0 x3_1).f0), .int .i64 ((rd_T24 l0 x3_1).f1), .string ((rd_T24 l0 x3_1).f2), .slice A111_3 ((rd_T24 l0 x3_1).f3).length c111_3]] rfl (by (try simp only [List.map_toArray, List.map_cons, List.map_nil]); first | done | rfl | (simp only [List.length_drop, List.length_take]; rfl)) ?_; (with_reducible refine (spec_argumentRight.calls kj1 ((rd_T24 l0 x3_1).f0) ((rd_T24 l0 x3_1).f1) ((rd_T24 l0 x3_1).f2) _ _ ((rd_T24 l0 x3_1).f3) false _ ?side1 ?side2 A7.out).mono ?_); (case side1 => repeat (first | exact (Kd.C_below HR111_3.out HB.out) | (with_reducible refine Kd.C_alloc ?_ _) | (with_reducible refine Kd.C_drewN ?_ _) | (with_reducible refine Kd.C_drew ?_))); (case side2 => exact HC111_3.out); rintro e w10 ⟨rfl, hb⟩; refine ⟨_, rfl, ?_⟩; have n0_ := Aside0.mk (below_step (by repeat (first | (with_reducible first | exact HB.out | apply below_alloc | apply pw_below_drewN | apply below_drew1) | exact HB.out)) hb); clear HB; have HB := n0_; clear n0_; (try clear hb); (try clear hb2); (try clear hk); (try clear hi)))
                  go_ret
                  exact ⟨by first | rfl | (simp [errW_none, errW_some] <;> rfl) | (simp [*, errW_none, errW_some] <;> rfl), by repeat (first | (with_reducible first | exact HB.out | apply below_alloc | apply pw_below_drewN | apply below_drew1) | exact HB.out)⟩
              · rw [if_neg c6] at H
                exact absurd H (by simp)
            · rw [if_neg c5] at H
              exact absurd H (by simp)
          · replace c4 := Bool.eq_false_iff.mpr c4
            subst c4
            have H1 : (some (decide ((l0.length : Int) ≤ 50))) = some r := by rw [if_neg (show ¬ (false = true) by decide)] at H; exact H
            clear H
            have H := H1
            clear H1
            obtain rfl := Option.some.inj H
            go_wp2
            go_ret
            exact ⟨by first | rfl | (simp [errW_none, errW_some] <;> rfl) | (simp [*, errW_none, errW_some] <;> rfl), by repeat (first | (with_reducible first | exact HB.out | apply below_alloc | apply pw_below_drewN | apply below_drew1) | exact HB.out)⟩

-- NOT PRINTED: function 101 (spec_MapOrder)

-- NOT PRINTED: function 89 (spec_partRight)

-- NOT PRINTED: function 90 (spec_rowRight)

-- NOT PRINTED: function 82 (spec_stepRight)

-- NOT PRINTED: function 76 (spec_stepsRight)

-- NOT PRINTED: function 68 (spec_StepsRight)

-- NOT PRINTED: function 53 (spec_conditionRight)

-- NOT PRINTED: function 29 (spec_ConditionRight)

-- NOT PRINTED: function 15 (laws_columns7)

/-! ### spec_said: function 32 -/
def spec_said.f (a0 : ByteArray) (l1 : List (S24)) : Option (ByteArray × (List (S24)) × Int) := some (a0, l1, 1)
set_option maxHeartbeats 8000000 in
set_option maxRecDepth 100000 in
theorem spec_said.calls (a0 : ByteArray) (P1_ : Nat → Prop) (A1 : Option Addr) (c1 : Nat) (l1 : List (S24)) (r1 : ByteArray) (r2 : List (S24)) (r3 : Int) (w : World) (hs1 : Kd.V k24 24 w w.heap.size (fun k_ => P1_ k_) (.slice A1 l1.length c1) l1) (h : spec_said.f a0 l1 = some (r1, r2, r3)) :
    Calls Try.prog 32 #[.string a0, .slice A1 l1.length c1] w fun e w' => ∃ v1_ : Value, e = .returned (.agg #[.string r1, v1_, .int .i64 r3]) ∧ Kd.V k24 24 w' w.heap.size (fun k_ => (P1_ k_ ∨ w.heap.size ≤ k_)) v1_ r2 ∧ Below w.heap.size w w' := by
  have hu30 := Try.underlying30
  have HO1 := Aside0.mk (show Kd.V k24 24 w w.heap.size (fun k_ => (P1_ k_ ∨ w.heap.size ≤ k_)) (.slice A1 l1.length c1) l1 from Kd.V_mono hs1 (fun k_ hk => .inl hk))
  have HB := Aside0.mk (Below.refl w.heap.size w)
  have H : (some (a0, l1, 1)) = some (r1, r2, r3) := h
  clear h
  simp only [Option.some.injEq, Prod.mk.injEq] at H
  obtain ⟨rfl, rfl, rfl⟩ := H
  go_enter Try.func32, Try.ntmps32
  go_wp2_with (first | ((with_reducible refine gate_dst (N := 4) rfl ?_); refine box_event ?hg (N := 4) ?hd (cs := #[.string (⟨#[]⟩ : ByteArray), .slice none 0 0, .int .i64 0]) (t := 30) ?hr ?_; (case hd => rfl); (case hg => rfl); (case hr => first | (go_simp; done) | (go_simp; rfl)); intro gb231 hg w3 hbox hb; have n0_ := Aside0.mk (Kd.V_below (Kd.V_elderB (by (with_reducible repeat (first | apply Kd.V_alloc | apply Kd.V_drewN | apply Kd.V_drew)); exact HO1.out) gb231 (Nat.le_of_eq hg.symm)) hb); have n1_ := Aside0.mk (below_step (by repeat (first | (with_reducible first | exact HB.out | apply below_alloc | apply pw_below_drewN | apply below_drew1) | exact HB.out)) hb); have n2_ := Aside0.mk (hbox); have n3_ := Aside0.mk ((by rw [hg]; exact (below_size (by repeat (first | (with_reducible first | exact HB.out | apply below_alloc | apply pw_below_drewN | apply below_drew1) | exact HB.out))) : w.heap.size ≤ gb231)); have n4_ := Aside0.mk ((by rw [hg]; exact (below_size (by repeat (first | (with_reducible first | exact HB.out | apply below_alloc | apply pw_below_drewN | apply below_drew1) | exact HB.out))) : w.heap.size ≤ gb231)); clear HO1; clear HB; have HO1 := n0_; have HB := n1_; have BK231 := n2_; have GW231 := n3_; have GE231 := n4_; clear n0_ n1_ n2_ n3_ n4_; clear hb hbox hg; have hcz4_0 : w3.cell? ⟨gb231, 0, none⟩ = some (.string (⟨#[]⟩ : ByteArray)) := (blk_cell BK231.out 0).trans rfl; have hcz4_1 : w3.cell? ⟨gb231, 1, none⟩ = some (.slice none 0 0) := (blk_cell BK231.out 1).trans rfl; have hcz4_2 : w3.cell? ⟨gb231, 2, none⟩ = some (.int .i64 0) := (blk_cell BK231.out 2).trans rfl; have hfz4_0 := blk_frozen BK231.out 0; have hfz4_1 := blk_frozen BK231.out 1; have hfz4_2 := blk_frozen BK231.out 2))
  refine bodyPost_ret (results_cell_row rfl _ _ gb231 30 #[.string a0, .slice A1 l1.length c1, .int .i64 1] (0, 0) _ rfl (by (with_reducible repeat (first | refine blk_drewN ?_ _ | refine blk_drew ?_ | refine blk_alloc ?_ _)); refine blk_put (cs := #[.string a0, .slice A1 l1.length c1, .int .i64 0]) ?_ 2 _ rfl; (with_reducible repeat (first | refine blk_drewN ?_ _ | refine blk_drew ?_ | refine blk_alloc ?_ _)); refine blk_put (cs := #[.string a0, .slice none 0 0, .int .i64 0]) ?_ 1 _ rfl; (with_reducible repeat (first | refine blk_drewN ?_ _ | refine blk_drew ?_ | refine blk_alloc ?_ _)); refine blk_put (cs := #[.string (⟨#[]⟩ : ByteArray), .slice none 0 0, .int .i64 0]) ?_ 0 _ rfl; (with_reducible repeat (first | refine blk_drewN ?_ _ | refine blk_drew ?_ | refine blk_alloc ?_ _)); exact BK231.out) Try.underlying30 rfl (by kernel_rfl)) rfl ?_
  exact ⟨_, by first | rfl | (simp [errW_none, errW_some] <;> rfl) | (simp [*, errW_none, errW_some] <;> rfl), by (with_reducible repeat (first | apply Kd.V_alloc | apply Kd.V_drewN | apply Kd.V_drew)); exact Kd.V_mono (Kd.V_far (p := ⟨gb231, 2, none⟩) (Kd.V_far (p := ⟨gb231, 1, none⟩) (Kd.V_far (p := ⟨gb231, 0, none⟩) (Kd.V_mono HO1.out (fun k_ hk => (⟨hk, hk.2⟩ : _ ∧ k_ ≠ gb231))) (fun _ hk => hk.2) (.string a0)) (fun _ hk => hk.2) (.slice A1 l1.length c1)) (fun _ hk => hk.2) (.int .i64 1)) (fun _ hk => hk.1.1), by repeat (first | (with_reducible first | exact HB.out | apply below_alloc | apply pw_below_drewN | apply below_drew1 | refine below_set ?_ GE231.out) | exact HB.out)⟩

/-! ### spec_unsure: function 33 -/
def spec_unsure.f  : Option (ByteArray × (List (S24)) × Int) := some ((⟨#[]⟩ : ByteArray), ([] : List (S24)), 2)
set_option maxHeartbeats 8000000 in
set_option maxRecDepth 100000 in
theorem spec_unsure.calls  (r1 : ByteArray) (r2 : List (S24)) (r3 : Int) (w : World) (h : spec_unsure.f  = some (r1, r2, r3)) :
    Calls Try.prog 33 #[] w fun e w' => ∃ v1_ : Value, e = .returned (.agg #[.string r1, v1_, .int .i64 r3]) ∧ Kd.R k24 24 w' w.heap.size (fun _ => True) v1_ r2 ∧ Below w.heap.size w w' := by
  have hu30 := Try.underlying30
  have HB := Aside0.mk (Below.refl w.heap.size w)
  have H : (some ((⟨#[]⟩ : ByteArray), ([] : List (S24)), 2)) = some (r1, r2, r3) := h
  clear h
  simp only [Option.some.injEq, Prod.mk.injEq] at H
  obtain ⟨rfl, rfl, rfl⟩ := H
  go_enter Try.func33, Try.ntmps33
  go_wp2_with (first | ((with_reducible refine gate_dst (N := 0) rfl ?_); refine box_event ?hg (N := 0) ?hd (cs := #[.string (⟨#[]⟩ : ByteArray), .slice none 0 0, .int .i64 0]) (t := 30) ?hr ?_; (case hd => rfl); (case hg => rfl); (case hr => first | (go_simp; done) | (go_simp; rfl)); intro gb232 hg w1 hbox hb; have n0_ := Aside0.mk (below_step (by repeat (first | (with_reducible first | exact HB.out | apply below_alloc | apply pw_below_drewN | apply below_drew1) | exact HB.out)) hb); have n1_ := Aside0.mk (hbox); have n2_ := Aside0.mk ((by rw [hg]; exact (below_size (by repeat (first | (with_reducible first | exact HB.out | apply below_alloc | apply pw_below_drewN | apply below_drew1) | exact HB.out))) : w.heap.size ≤ gb232)); have n3_ := Aside0.mk ((by rw [hg]; exact (below_size (by repeat (first | (with_reducible first | exact HB.out | apply below_alloc | apply pw_below_drewN | apply below_drew1) | exact HB.out))) : w.heap.size ≤ gb232)); clear HB; have HB := n0_; have BK232 := n1_; have GW232 := n2_; have GE232 := n3_; clear n0_ n1_ n2_ n3_; clear hb hbox hg; have hcz2_0 : w1.cell? ⟨gb232, 0, none⟩ = some (.string (⟨#[]⟩ : ByteArray)) := (blk_cell BK232.out 0).trans rfl; have hcz2_1 : w1.cell? ⟨gb232, 1, none⟩ = some (.slice none 0 0) := (blk_cell BK232.out 1).trans rfl; have hcz2_2 : w1.cell? ⟨gb232, 2, none⟩ = some (.int .i64 0) := (blk_cell BK232.out 2).trans rfl; have hfz2_0 := blk_frozen BK232.out 0; have hfz2_1 := blk_frozen BK232.out 1; have hfz2_2 := blk_frozen BK232.out 2))
  refine bodyPost_ret (results_cell_row rfl _ _ gb232 30 #[.string (⟨#[]⟩ : ByteArray), .slice none 0 0, .int .i64 2] (0, 0) _ rfl (by (with_reducible repeat (first | refine blk_drewN ?_ _ | refine blk_drew ?_ | refine blk_alloc ?_ _)); refine blk_put (cs := #[.string (⟨#[]⟩ : ByteArray), .slice none 0 0, .int .i64 0]) ?_ 2 _ rfl; (with_reducible repeat (first | refine blk_drewN ?_ _ | refine blk_drew ?_ | refine blk_alloc ?_ _)); refine blk_put (cs := #[.string (⟨#[]⟩ : ByteArray), .slice none 0 0, .int .i64 0]) ?_ 1 _ rfl; (with_reducible repeat (first | refine blk_drewN ?_ _ | refine blk_drew ?_ | refine blk_alloc ?_ _)); refine blk_put (cs := #[.string (⟨#[]⟩ : ByteArray), .slice none 0 0, .int .i64 0]) ?_ 0 _ rfl; (with_reducible repeat (first | refine blk_drewN ?_ _ | refine blk_drew ?_ | refine blk_alloc ?_ _)); exact BK232.out) Try.underlying30 rfl (by kernel_rfl)) rfl ?_
  exact ⟨_, by first | rfl | (simp [errW_none, errW_some] <;> rfl) | (simp [*, errW_none, errW_some] <;> rfl), by first | exact Kd.R_nil _ _ _ _ _ | exact Kd.N_nil _ _ _ _ _ | exact Kd.V_nil _ _ _ _ _ | exact Kd.Q_nil _ _ _ _ _ | exact Kd.S_nil _ _ _ _ _, by repeat (first | (with_reducible first | exact HB.out | apply below_alloc | apply pw_below_drewN | apply below_drew1 | refine below_set ?_ GE232.out) | exact HB.out)⟩

end Go.Proofs.Ytagandfneflcbaa.PFnLt
