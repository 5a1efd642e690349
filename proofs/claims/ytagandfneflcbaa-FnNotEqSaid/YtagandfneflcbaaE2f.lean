/- The reference's condition of columns of the kind 2. Conditions: names and values are right (CR). -/
import Derived.Test.YtagandfneflcbaaE1
namespace Go.Proofs.Ytagandfneflcbaa
open Go.RowKit Go.Proofs.YtagandfneflcbaaW.PrintWords Go.Proofs.YtagandfneflcbaaW.PrintLast Go.Proofs.YtagandfneflcbaaW.PrintMore
open Go.Proofs.Ytagandfneflcbaa.PFnLt


set_option maxRecDepth 100000 in
set_option maxHeartbeats 4000000 in
theorem columnsE_false (names : List ByteArray) (vals : List S24) (hcr : CR names vals) (hn0 : ((names.length : Int) == 0) = false) (fu : Nat) (r : List Int) (hr : spec_ByName.f fu names = some r) (ho : OrdOk names r)
    (NA VA : Option Addr) (nc vc : Nat) (hnc : names.length ≤ nc) (w : World) (hN : Kd.C Kd.string w NA names.length names) (hV : Kd.C k24 w VA vals.length vals) :
    Calls Try.prog 16 #[.int .i64 2, .slice NA names.length nc, .slice VA vals.length vc] w (PieceP (fun k => k < w.heap.size) (colsN (eqV false) (ordG names vals r) names.length) w) := by
  have HN := Aside0.mk hN
  have HV := Aside0.mk hV
  have HC := Aside0.mk hcr
  have HO := Aside0.mk ho
  have hn8 : (names.length : Int) ≤ 8 := by have := hcr.n8; omega
  have hvn := hcr.vn
  clear hN hV hcr ho
  rcases Classical.propComplete ((1 : Int) < names.length) with q1 | q1
  all_goals
    go_enter Try.func16, Try.ntmps16
    go_wp2_with fail
    refine (said_any _ _ _ _ _).mono ?_
    rintro e w' ⟨rfl, rfl⟩
    go_wp2_with fail
    refine (spec_ByName.calls fu NA nc names r _ (Kd.C_below HN.out ?_) hnc hr).mono ?_
    · exact (((Below.refl w.heap.size w).alloc (Nat.le_refl _) _).alloc (by simp) _).alloc (by simp; omega) _
    rintro e w1 ⟨v, rfl, hR, hb⟩
    obtain ⟨A, c, rfl⟩ := Kd.R_slice hR
    have HRR := Aside0.mk (R_away (g := w.heap.size + 1 + 1) rfl hR (by simp))
    have G6 := Aside0.mk (blk_below (blk_alloc (blk_alloc (blk_new w _) _) _) hb)
    have G7 := Aside0.mk (blk_below (blk_new2 w _ _ _) hb)
    have HB := Aside0.mk (below_step ((((Below.refl w.heap.size w).alloc (Nat.le_refl _) _).alloc (by simp) _).alloc (by simp; omega) _) hb)
    have HZ := Aside0.mk (show w.heap.size + 1 + 1 + 1 ≤ w1.heap.size by have := hb.size; simpa using this)
    clear hR hb
    rw [HO.out.len]
    go_wp2_with fail
    go_loopw [9] (fun i wr => ∃ x : Int, i = .int .i64 x ∧ (0 ≤ x ∧ x ≤ names.length) ∧ Aside0 (Acc w.heap.size (w.heap.size + 1 + 1) (colsN (eqV false) (ordG names vals r) x.toNat) wr) ∧ Aside0 (KB w1 wr (w.heap.size + 1 + 1)) ∧ Aside0 (Below w.heap.size w wr)) (fun i _ => names.length - (intOf i).toNat)
    case atStart => exact ⟨0, rfl, ⟨by omega, by omega⟩, ⟨none, 0, G7.out, Kd.V_nil _ _ _ _ _⟩, ⟨KB.refl _ _⟩, HB⟩
    case round =>
      obtain ⟨x, rfl, ⟨hx0, hxn⟩, HA, HK, HB1⟩ := hrel
      by_cases hlt : x < names.length
      · have hxr : x.toNat < r.length := by have := HO.out.len; omega
        obtain ⟨rj0, rj1⟩ := HO.out.rng x.toNat hxr
        rw [Int.toNat_of_nonneg hx0] at rj0 rj1
        obtain ⟨ad, e1, x0⟩ := Kd.at_int (Kd.F_now (HK.out.F HRR.out (fun _ h => h))) x hx0 (by have := HO.out.len; omega)
        cases e1
        obtain ⟨j, hj⟩ : ∃ j, j = rd r x := ⟨_, rfl⟩
        rw [← hj] at x0 rj0 rj1
        obtain ⟨an, e2, y0⟩ := Kd.at_string (Kd.C_below HN.out HB1.out) j rj0 (by omega)
        cases e2
        obtain ⟨av, A3, c3, e3, z0, z1, z2, z3, zl, zC⟩ := at_T24 HV.out j rj0 (by omega)
        cases e3
        replace z0 := (HB1.out.cell (World.block_lt_of_cell? w _ z0)).trans z0
        replace z1 := (HB1.out.cell (World.block_lt_of_cell? w _ z1)).trans z1
        replace z2 := (HB1.out.cell (World.block_lt_of_cell? w _ z2)).trans z2
        replace z3 := (HB1.out.cell (World.block_lt_of_cell? w _ z3)).trans z3
        have hna := ord_name HC.out rj0 rj1
        have HNS := Aside0.mk (HC.out.pos _ hna).2
        have HVX := Aside0.mk (HC.out.vr _ (ord_val HC.out rj0 rj1))
        have HG := Aside0.mk (show ordG names vals r x.toNat = (rdOf ByteArray.empty names j, rd_T24 vals j) by unfold ordG; rw [Int.toNat_of_nonneg hx0, ← hj])
        obtain ⟨nm, hnm⟩ : ∃ nm, nm = rdOf ByteArray.empty names j := ⟨_, rfl⟩
        obtain ⟨xv, hxv⟩ : ∃ xv, xv = rd_T24 vals j := ⟨_, rfl⟩
        rw [← hnm] at y0 HNS HG
        rw [← hxv] at z0 z1 z2 z3 zl zC HG HVX
        have ZC := Aside0.mk (Kd.F_below (Kd.C_F k24_heap zC) HB1.out)
        have ZL := Aside0.mk zl
        clear hna hnm hxv zC zl hj
        go_wp2_with fail
        go_region_held3 (fun w' => w'.cell? (ad.add x.toNat) = some (Value.int IntKind.i64 j) ∧ w'.cell? (an.add j.toNat) = some (Value.string nm) ∧ w'.cell? (av.add (j.toNat * 4)) = some (Value.int IntKind.i64 xv.f0) ∧ w'.cell? { block := (av.add (j.toNat * 4)).block, off := (av.add (j.toNat * 4)).off + 1 } = some (Value.int IntKind.i64 xv.f1) ∧ w'.cell? { block := (av.add (j.toNat * 4)).block, off := (av.add (j.toNat * 4)).off + 2 } = some (Value.string xv.f2) ∧ w'.cell? { block := (av.add (j.toNat * 4)).block, off := (av.add (j.toNat * 4)).off + 3 } = some (Value.slice A3 xv.f3.length c3)) (go_keep) (fail)
        go_wp2_with fail
        refine (eq_any false nm HNS.out xv HVX.out A3 c3 (fun k => k < w.heap.size) _ ZL.out (Kd.F_below ZC.out ?_)).mono ?_
        · exact (((Below.refl wr.heap.size wr).alloc (Nat.le_refl _) _).alloc (by simp) _).drew
        rintro e w2 ⟨A4, c4, rfl, V4, hb4⟩
        have HQ := Aside0.mk (eqV_fair false nm HNS.out xv HVX.out)
        obtain ⟨q, hq⟩ : ∃ q, q = eqV false nm xv := ⟨_, rfl⟩
        rw [← hq] at V4 HQ ⊢
        have HQE := Aside0.mk hq
        clear hq
        have hbt : Below wr.heap.size wr w2 := below_step (((Below.refl wr.heap.size wr).alloc (Nat.le_refl _) _).alloc (by simp) _).drew hb4
        obtain ⟨p, hp⟩ : ∃ p, p = colsN (eqV false) (ordG names vals r) x.toNat := ⟨_, rfl⟩
        rw [← hp] at HA
        have HPE := Aside0.mk hp
        clear hp
        obtain ⟨A2, c2, B7, V7⟩ := HA.out
        replace B7 := blk_below B7 hbt
        have V7' := Aside0.mk (Kd.V_below V7 hbt)
        have V4' := Aside0.mk V4
        have HBT := Aside0.mk hbt
        have b12 := blk_below (blk_drew (blk_new (wr.alloc (Obj.cells #[Value.int IntKind.i64 xv.f0, Value.int IntKind.i64 xv.f1, Value.string xv.f2, Value.slice A3 xv.f3.length c3] 24)) (Obj.cells #[Value.string { data := #[] }, Value.slice none 0 0, Value.int IntKind.i64 0] 30))) hb4
        have B7' := Aside0.mk B7
        have b12' := Aside0.mk b12
        have d120 : w2.cell? ⟨wr.heap.size + 1, 0, none⟩ = some (.string ⟨#[]⟩) := by have := (blk_cell b12 0).trans rfl; simpa using this
        have d121 : w2.cell? ⟨wr.heap.size + 1, 1, none⟩ = some (.slice none 0 0) := by have := (blk_cell b12 1).trans rfl; simpa using this
        have d122 : w2.cell? ⟨wr.heap.size + 1, 2, none⟩ = some (.int .i64 0) := by have := (blk_cell b12 2).trans rfl; simpa using this
        have f12 : ∀ i, w2.frozen? ⟨wr.heap.size + 1, i, none⟩ = false := fun i => by have := blk_frozen b12 i; simpa using this
        have f7 : ∀ i, w2.frozen? ⟨w.heap.size + 1 + 1, i, none⟩ = false := fun i => blk_frozen B7 i
        have c70 : w2.cell? ⟨w.heap.size + 1 + 1, 0, none⟩ = some (.string p.1) := (blk_cell B7 0).trans rfl
        have c71 : w2.cell? ⟨w.heap.size + 1 + 1, 1, none⟩ = some (.slice A2 p.2.1.length c2) := (blk_cell B7 1).trans rfl
        have c72 : w2.cell? ⟨w.heap.size + 1 + 1, 2, none⟩ = some (.int .i64 p.2.2) := (blk_cell B7 2).trans rfl
        have hne : wr.heap.size + 1 ≠ w.heap.size + 1 + 1 := by have := HZ.out; have := HK.out.1; omega
        have hne' : w.heap.size + 1 + 1 ≠ wr.heap.size + 1 := by have := HZ.out; have := HK.out.1; omega
        replace V7' := Aside0.mk (show Kd.V k24 24 w2 w2.heap.size (fun k => k ≠ w.heap.size + 1 + 1 ∧ k ≠ w.heap.size ∧ k ≠ wr.heap.size + 1) (.slice A2 p.2.1.length c2) p.2.1 from Kd.V_mono (Kd.V_old V7 hbt) (fun k hk => ⟨hk.1.1, hk.1.2, by omega⟩))
        replace V4' := Aside0.mk (show Kd.V k24 24 w2 w2.heap.size (fun k => k ≠ w.heap.size + 1 + 1 ∧ k ≠ w.heap.size ∧ k ≠ wr.heap.size + 1) (.slice A4 q.2.1.length c4) q.2.1 from Kd.V_mono V4 (fun k hk => by have := HZ.out; have := HK.out.1; have := HB1.out.size; simp at hk; omega))
        have HPS := Aside0.mk (show p.1.size ≤ 9000 ∧ p.2.1.length ≤ 9000 ∧ (p.2.2 = 0 ∨ p.2.2 = 1) by
          have := colsN_fair (eqV false) (ordG names vals r) names.length (fun i hi => by
            obtain ⟨a0, a1⟩ := HO.out.rng i (by have := HO.out.len; omega)
            exact eqV_fair false _ (HC.out.pos _ (ord_name HC.out a0 a1)).2 _ (HC.out.vr _ (ord_val HC.out a0 a1))) x.toNat (by omega)
          rw [← HPE.out] at this
          obtain ⟨t1, t2, t3⟩ := this
          exact ⟨by omega, by omega, t3⟩)
        have HCP := Aside0.mk (show 0 < x → colsN (eqV false) (ordG names vals r) (x + 1).toNat = ((p.1 ++ and5) ++ q.1, p.2.1 ++ q.2.1, mn p.2.2 q.2.2) by
          intro h
          rw [show (x + 1).toNat = x.toNat + 1 from by omega]
          simp only [colsN]
          rw [if_neg (by omega), ← HPE.out, HG.out, ← HQE.out])
        have HCZ := Aside0.mk (show ¬ 0 < x → colsN (eqV false) (ordG names vals r) (x + 1).toNat = (p.1 ++ q.1, p.2.1 ++ q.2.1, mn p.2.2 q.2.2) by
          intro h
          rw [show (x + 1).toNat = x.toNat + 1 from by omega]
          simp only [colsN]
          rw [if_pos (by omega), ← HPE.out, HG.out, ← HQE.out])
        have HBS := Aside0.mk (show wr.heap.size + 1 + 1 ≤ w2.heap.size by have := blk_lt b12; have := hb4.size; simp at this; omega)
        have hn1 : w1.heap.size ≤ wr.heap.size + 1 := by have := HK.out.1; omega
        have hn0 : w.heap.size ≤ wr.heap.size + 1 := by have := HB1.out.size; omega
        have hn7 : w.heap.size ≤ w.heap.size + 1 + 1 := by omega
        have es := eq_false (show ¬ (9223372036854775807 < p.1.size + 5) by have := HPS.out.1; omega)
        clear B7 b12 V7 V4 hbt hb4
        by_cases hxp : (0 : Int) < x
        · replace HCP := Aside0.mk (HCP.out hxp)
          clear HCZ
          go_wp2_with fail
          refine (joined_any (p.1 ++ and5, p.2.1, p.2.2) q A2 A4 c2 c4 (fun k => k ≠ w.heap.size + 1 + 1 ∧ k ≠ w.heap.size ∧ k ≠ wr.heap.size + 1) _ (Kd.V_far (Kd.V_far (Kd.V_far (Kd.V_far V7'.out (fun k hk => hk.2.2) _) (fun k hk => hk.2.2) _) (fun k hk => hk.2.2) _) (fun k hk => hk.1) _) (Kd.V_far (Kd.V_far (Kd.V_far (Kd.V_far V4'.out (fun k hk => hk.2.2) _) (fun k hk => hk.2.2) _) (fun k hk => hk.2.2) _) (fun k hk => hk.1) _) (by rw [ByteArray.size_append, show and5.size = 5 from rfl]; have := HPS.out.1; omega) (by have := HQ.out.1; omega) (by have := HPS.out.2.1; show p.2.1.length ≤ _; omega) (by have := HQ.out.2.1; omega) (by have := HPS.out.2.2; show p.2.2 ≠ 2; omega) (by have := HQ.out.2.2; omega)).mono ?_
          rintro e w4 ⟨A5, c5, rfl, V5, hb5⟩
          have B8 := blk_below (show _ = some (Obj.cells #[.string (p.1 ++ and5), .slice A2 p.2.1.length c2, .int .i64 p.2.2] 30 (0, 0)) from blk_put (blk_far (blk_far (blk_far B7'.out hne' _) hne' _) hne' _) 0 _ rfl) hb5
          have V8 := Aside0.mk V5
          have K8 := Aside0.mk ((((((HK.out.below HBT.out).setNew hn1 _).setNew hn1 _).setNew hn1 _).set _ _).below hb5)
          have L8 := Aside0.mk (below_step (below_set (below_set (below_set (below_set (below_step HB1.out HBT.out) hn0) hn0) hn0) hn7) hb5)
          have S8 := Aside0.mk (show wr.heap.size + 1 + 1 ≤ w4.heap.size by have := hb5.size; have := HBS.out; simp at *; omega)
          have B8' := Aside0.mk B8
          have f8 : ∀ i, w4.frozen? ⟨w.heap.size + 1 + 1, i, none⟩ = false := fun i => blk_frozen B8 i
          have c80 := (blk_cell B8 0).trans rfl
          have c81 := (blk_cell B8 1).trans rfl
          have c82 := (blk_cell B8 2).trans rfl
          clear B8 V5 hb5
          go_wp2_with fail
          go_roundw
          case rel =>
            rw [← List.length_append]
            refine ⟨x + 1, rfl, ⟨by omega, by omega⟩, ⟨?_⟩, ⟨((K8.out.set _ _).set _ _).set _ _⟩, ⟨below_set (below_set (below_set L8.out hn7) hn7) hn7⟩⟩
            rw [HCP.out]
            refine ⟨A5, c5, blk_put (blk_put (blk_put B8'.out 0 _ rfl) 1 _ rfl) 2 _ rfl, ?_⟩
            refine Kd.V_far (Kd.V_far (Kd.V_far (Kd.V_mono V8.out (fun k hk => ?_)) (fun k hk => hk.1) _) (fun k hk => hk.1) _) (fun k hk => hk.1) _
            rcases hk with hk | hk
            · exact ⟨hk.1, hk.2.1⟩
            · have := HBS.out; have := HZ.out; have := HK.out.1; simp at hk; omega
          case measure => simp [intOf]; omega
        · replace HCZ := Aside0.mk (HCZ.out hxp)
          clear HCP
          go_wp2_with fail
          refine (joined_any p q A2 A4 c2 c4 (fun k => k ≠ w.heap.size + 1 + 1 ∧ k ≠ w.heap.size ∧ k ≠ wr.heap.size + 1) _ (Kd.V_far (Kd.V_far (Kd.V_far V7'.out (fun k hk => hk.2.2) _) (fun k hk => hk.2.2) _) (fun k hk => hk.2.2) _) (Kd.V_far (Kd.V_far (Kd.V_far V4'.out (fun k hk => hk.2.2) _) (fun k hk => hk.2.2) _) (fun k hk => hk.2.2) _) (by have := HPS.out.1; omega) (by have := HQ.out.1; omega) (by have := HPS.out.2.1; show p.2.1.length ≤ _; omega) (by have := HQ.out.2.1; omega) (by have := HPS.out.2.2; show p.2.2 ≠ 2; omega) (by have := HQ.out.2.2; omega)).mono ?_
          rintro e w4 ⟨A5, c5, rfl, V5, hb5⟩
          have B8 := blk_below (show _ = some (Obj.cells #[.string p.1, .slice A2 p.2.1.length c2, .int .i64 p.2.2] 30 (0, 0)) from blk_far (blk_far (blk_far B7'.out hne' _) hne' _) hne' _) hb5
          have V8 := Aside0.mk V5
          have K8 := Aside0.mk (((((HK.out.below HBT.out).setNew hn1 _).setNew hn1 _).setNew hn1 _).below hb5)
          have L8 := Aside0.mk (below_step (below_set (below_set (below_set (below_step HB1.out HBT.out) hn0) hn0) hn0) hb5)
          have S8 := Aside0.mk (show wr.heap.size + 1 + 1 ≤ w4.heap.size by have := hb5.size; have := HBS.out; simp at *; omega)
          have B8' := Aside0.mk B8
          have f8 : ∀ i, w4.frozen? ⟨w.heap.size + 1 + 1, i, none⟩ = false := fun i => blk_frozen B8 i
          have c80 := (blk_cell B8 0).trans rfl
          have c81 := (blk_cell B8 1).trans rfl
          have c82 := (blk_cell B8 2).trans rfl
          clear B8 V5 hb5
          go_wp2_with fail
          go_roundw
          case rel =>
            rw [← List.length_append]
            refine ⟨x + 1, rfl, ⟨by omega, by omega⟩, ⟨?_⟩, ⟨((K8.out.set _ _).set _ _).set _ _⟩, ⟨below_set (below_set (below_set L8.out hn7) hn7) hn7⟩⟩
            rw [HCZ.out]
            refine ⟨A5, c5, blk_put (blk_put (blk_put B8'.out 0 _ rfl) 1 _ rfl) 2 _ rfl, ?_⟩
            refine Kd.V_far (Kd.V_far (Kd.V_far (Kd.V_mono V8.out (fun k hk => ?_)) (fun k hk => hk.1) _) (fun k hk => hk.1) _) (fun k hk => hk.1) _
            rcases hk with hk | hk
            · exact ⟨hk.1, hk.2.1⟩
            · have := HBS.out; have := HZ.out; have := HK.out.1; simp at hk; omega
          case measure => simp [intOf]; omega
      · obtain rfl : x = names.length := by omega
        obtain ⟨A2, c2, B7, V7⟩ := HA.out
        rw [Int.toNat_natCast] at B7 V7
        have B6 := (HK.out.2 w.heap.size (by have := HZ.out; omega) (by omega)).trans G6.out
        have V7' := Aside0.mk V7
        have c70 := (blk_cell B7 0).trans rfl
        have c71 := (blk_cell B7 1).trans rfl
        have c72 := (blk_cell B7 2).trans rfl
        have c60 := (blk_cell B6 0).trans rfl
        have c61 := (blk_cell B6 1).trans rfl
        have c62 := (blk_cell B6 2).trans rfl
        have f6 : ∀ i, wr.frozen? ⟨w.heap.size, i, none⟩ = false := fun i => blk_frozen B6 i
        have B6' := Aside0.mk B6
        clear B6 B7 V7
        go_wp2_with fail
        have R6 : (((wr.setCell ⟨w.heap.size, 0, none⟩ (Value.string (colsN (eqV false) (ordG names vals r) names.length).1)).setCell ⟨w.heap.size, 1, none⟩ (Value.slice A2 (colsN (eqV false) (ordG names vals r) names.length).2.1.length c2)).setCell ⟨w.heap.size, 2, none⟩ (Value.int IntKind.i64 (colsN (eqV false) (ordG names vals r) names.length).2.2)).heap[w.heap.size]? = some (Obj.cells #[Value.string (colsN (eqV false) (ordG names vals r) names.length).1, Value.slice A2 (colsN (eqV false) (ordG names vals r) names.length).2.1.length c2, Value.int IntKind.i64 (colsN (eqV false) (ordG names vals r) names.length).2.2] 30 (0, 0)) := blk_put (blk_put (blk_put B6'.out 0 _ rfl) 1 _ rfl) 2 _ rfl
        have e0 := (blk_cell R6 0).trans rfl
        have e1 := (blk_cell R6 1).trans rfl
        have e2 := (blk_cell R6 2).trans rfl
        refine bodyPost_ret (v := .agg #[Value.string (colsN (eqV false) (ordG names vals r) names.length).1, Value.slice A2 (colsN (eqV false) (ordG names vals r) names.length).2.1.length c2, Value.int IntKind.i64 (colsN (eqV false) (ordG names vals r) names.length).2.2]) (by simp [results, Try.results16, go_sem, e0, e1, e2]) rfl ⟨A2, c2, rfl, ?_, below_set (below_set (below_set HB1.out (Nat.le_refl _)) (Nat.le_refl _)) (Nat.le_refl _)⟩
        exact Kd.V_mono (Kd.V_far (Kd.V_far (Kd.V_far V7'.out (fun k hk => hk.2) _) (fun k hk => hk.2) _) (fun k hk => hk.2) _) (fun k _ => by omega)

end Go.Proofs.Ytagandfneflcbaa
