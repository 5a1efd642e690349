/- The four laws of one column (FnLike and its kin), walked. Conditions: the value lies in memory as its data says. -/
import Derived.Test.YtagandfneflcbaaO
import Derived.Test.YtagandfneflcbaaM
import Derived.Test.YtagandfneflcbaaD
namespace Go.Proofs.Ytagandfneflcbaa
open Go.RowKit Go.Proofs.YtagandfneflcbaaW.PrintWords Go.Proofs.YtagandfneflcbaaW.PrintLast Go.Proofs.YtagandfneflcbaaW.PrintMore
open Go.Proofs.Ytagandfneflcbaa.PFnLt

def BoolPost (w : World) (e : Ending) (w' : World) : Prop := ∃ r, e = .returned (.bool r) ∧ Below w.heap.size w w'
theorem fits2_any (a b : Int) (s : ByteArray) (A : Option Addr) (n c : Nat) (w : World) : Calls Try.prog 14 #[.agg #[.int .i64 a, .int .i64 b, .string s, .slice A n c]] w (BoolPost w) := by
  by_cases h1 : (2147483647 : Int) < s.size
  · go_enter Try.func14, Try.ntmps14
    go_wp2_with fail
    go_ret
    exact ⟨_, rfl, (Below.refl _ _).alloc (Nat.le_refl _) _⟩
  · by_cases h2 : (2147483647 : Int) < n
    · go_enter Try.func14, Try.ntmps14
      go_wp2_with fail
      go_ret
      exact ⟨_, rfl, (Below.refl _ _).alloc (Nat.le_refl _) _⟩
    · go_enter Try.func14, Try.ntmps14
      go_wp2_with fail
      go_ret
      exact ⟨_, rfl, (Below.refl _ _).alloc (Nat.le_refl _) _⟩

theorem byName_one (name : ByteArray) : spec_ByName.f 10 [name] = some [0] := by simp [spec_ByName.f, spec_ByName.l0, spec_ByName.l1, wrap64]
theorem ordOk_one (name : ByteArray) : OrdOk [name] [0] := ⟨rfl, fun i hi => by
  obtain rfl : i = 0 := by simp at hi; exact hi
  exact ⟨by decide, by simp [rd]⟩⟩
theorem empty_app (t : ByteArray) : (⟨#[]⟩ : ByteArray) ++ t = t := bytes_inj (by simp)
theorem cmpV_is (k : Int) (name : ByteArray) (x : S24) : (cmpV k name x).2.2 = 0 ∨ (cmpV k name x).2.2 = 1 := by unfold cmpV; split <;> simp
theorem cols_one (k : Int) (name : ByteArray) (x : S24) : colsN (cmpV k) (ordG [name] [x] [0]) 1 = cmpV k name x := by
  have h : ordG [name] [x] [0] 0 = (name, x) := rfl
  have h1 : colsN (cmpV k) (ordG [name] [x] [0]) 1 = ((⟨#[]⟩ : ByteArray) ++ (cmpV k name x).1, [] ++ (cmpV k name x).2.1, mn 1 (cmpV k name x).2.2) := by simp only [colsN, h]; rfl
  rw [h1, empty_app, List.nil_append]
  have h2 : mn 1 (cmpV k name x).2.2 = (cmpV k name x).2.2 := by rcases cmpV_is k name x with e | e <;> rw [e] <;> rfl
  rw [h2]
theorem blk2 {w : World} (a b : Obj) : ((w.alloc a).alloc b).heap[w.heap.size + 1]? = some b := by
  have := blk_new (w.alloc a) b
  simpa using this

set_option maxRecDepth 100000 in
set_option maxHeartbeats 4000000 in
theorem law_4 (name : ByteArray) (x : S24) (A : Option Addr) (c : Nat) (hl : x.f3.length ≤ c) (w : World) (hC : k24.C w A x.f3.length x.f3) :
    Calls Try.prog 4 #[.string name, .agg #[.int .i64 x.f0, .int .i64 x.f1, .string x.f2, .slice A x.f3.length c]] w (SamePost w) := by
  have HC := Aside0.mk hC
  have HL := Aside0.mk hl
  clear hC hl
  by_cases hn : (2147483647 : Int) < name.size
  · go_enter Try.func4, Try.ntmps4
    go_wp2_with fail
    go_ret
    exact ⟨rfl, (Below.refl _ _).alloc (Nat.le_refl _) _⟩
  · go_enter Try.func4, Try.ntmps4
    go_wp2_with fail
    refine (fits2_any _ _ _ _ _ _ _).mono ?_
    rintro e w1 ⟨r, rfl, hb⟩
    have B3 := blk_below (blk_new w (Obj.cells #[Value.int IntKind.i64 x.f0, Value.int IntKind.i64 x.f1, Value.string x.f2, Value.slice A x.f3.length c] 24)) hb
    have c0 : w1.cell? ⟨w.heap.size, 0, none⟩ = some (.int .i64 x.f0) := (blk_cell B3 0).trans rfl
    have c1 : w1.cell? ⟨w.heap.size, 1, none⟩ = some (.int .i64 x.f1) := (blk_cell B3 1).trans rfl
    have c2 : w1.cell? ⟨w.heap.size, 2, none⟩ = some (.string x.f2) := (blk_cell B3 2).trans rfl
    have c3 : w1.cell? ⟨w.heap.size, 3, none⟩ = some (.slice A x.f3.length c) := (blk_cell B3 3).trans rfl
    have a0 : ∀ o : Obj, (w1.alloc o).cell? ⟨w.heap.size, 0, none⟩ = some (.int .i64 x.f0) := fun o => (blk_cell (blk_alloc B3 o) 0).trans rfl
    have a1 : ∀ o : Obj, (w1.alloc o).cell? ⟨w.heap.size, 1, none⟩ = some (.int .i64 x.f1) := fun o => (blk_cell (blk_alloc B3 o) 1).trans rfl
    have a2 : ∀ o : Obj, (w1.alloc o).cell? ⟨w.heap.size, 2, none⟩ = some (.string x.f2) := fun o => (blk_cell (blk_alloc B3 o) 2).trans rfl
    have a3 : ∀ o : Obj, (w1.alloc o).cell? ⟨w.heap.size, 3, none⟩ = some (.slice A x.f3.length c) := fun o => (blk_cell (blk_alloc B3 o) 3).trans rfl
    have HB1 := Aside0.mk (below_step ((Below.refl w.heap.size w).alloc (Nat.le_refl _) _) hb)
    have B3' := Aside0.mk B3
    clear B3 hb
    cases r with
    | false =>
      go_wp2_with fail
      go_ret
      exact ⟨rfl, HB1.out⟩
    | true =>
      go_wp2_with fail
      have hba : Below w1.heap.size w1 ((w1.alloc (Obj.cells #[Value.string name] 9)).alloc (Obj.cells #[Value.int IntKind.i64 x.f0, Value.int IntKind.i64 x.f1, Value.string x.f2, Value.slice A x.f3.length c] 24)) := (((Below.refl w1.heap.size w1).alloc (Nat.le_refl _) _).alloc (by simp) _)
      refine (columns7_any (some ⟨w1.heap.size, 0, none⟩) (some ⟨w1.heap.size + 1, 0, none⟩) 1 1 [name] [x] _ (C_name (blk_alloc (blk_new _ _) _)) (C_box (blk2 _ _) HL.out (Kd.C_below HC.out (below_step HB1.out hba)))).mono ?_
      rintro e w2 ⟨r, rfl, hr, hb⟩
      have HB2 := Aside0.mk (below_step HB1.out (below_step hba hb))
      have B4 := blk_below B3'.out (below_step hba hb)
      clear c0 c1 c2 c3 a0 a1 a2 a3
      have c0 : w2.cell? ⟨w.heap.size, 0, none⟩ = some (.int .i64 x.f0) := (blk_cell B4 0).trans rfl
      have c1 : w2.cell? ⟨w.heap.size, 1, none⟩ = some (.int .i64 x.f1) := (blk_cell B4 1).trans rfl
      have c2 : w2.cell? ⟨w.heap.size, 2, none⟩ = some (.string x.f2) := (blk_cell B4 2).trans rfl
      have c3 : w2.cell? ⟨w.heap.size, 3, none⟩ = some (.slice A x.f3.length c) := (blk_cell B4 3).trans rfl
      have a0 : ∀ o : Obj, (w2.alloc o).cell? ⟨w.heap.size, 0, none⟩ = some (.int .i64 x.f0) := fun o => (blk_cell (blk_alloc B4 o) 0).trans rfl
      have a1 : ∀ o : Obj, (w2.alloc o).cell? ⟨w.heap.size, 1, none⟩ = some (.int .i64 x.f1) := fun o => (blk_cell (blk_alloc B4 o) 1).trans rfl
      have a2 : ∀ o : Obj, (w2.alloc o).cell? ⟨w.heap.size, 2, none⟩ = some (.string x.f2) := fun o => (blk_cell (blk_alloc B4 o) 2).trans rfl
      have a3 : ∀ o : Obj, (w2.alloc o).cell? ⟨w.heap.size, 3, none⟩ = some (.slice A x.f3.length c) := fun o => (blk_cell (blk_alloc B4 o) 3).trans rfl
      have B4' := Aside0.mk B4
      clear B4 B3' hba hb
      cases r with
      | false =>
        go_wp2_with fail
        go_ret
        exact ⟨rfl, HB2.out⟩
      | true =>
        have HCR := Aside0.mk (hr rfl)
        clear hr
        go_wp2_with fail
        have hbc : Below w2.heap.size w2 ((w2.alloc (Obj.cells #[Value.string name] 9)).alloc (Obj.cells #[Value.int IntKind.i64 x.f0, Value.int IntKind.i64 x.f1, Value.string x.f2, Value.slice A x.f3.length c] 24)) := (((Below.refl w2.heap.size w2).alloc (Nat.le_refl _) _).alloc (by simp) _)
        refine (columns_any 8 (by decide) (by decide) [name] [x] HCR.out (fun _ => by simp) 10 [0] (byName_one name) (ordOk_one name) (some ⟨w2.heap.size, 0, none⟩) (some ⟨w2.heap.size + 1, 0, none⟩) 1 1 (by simp) _ (C_name (blk_alloc (blk_new _ _) _)) (C_box (blk2 _ _) HL.out (Kd.C_below HC.out (below_step HB2.out hbc)))).mono ?_
        rw [show [name].length = 1 from rfl, cols_one]
        rintro e w3 ⟨A1, d1, rfl, hV, hb⟩
        have HB3 := Aside0.mk (below_step HB2.out (below_step hbc hb))
        have B5 := blk_below B4'.out (below_step hbc hb)
        clear c0 c1 c2 c3 a0 a1 a2 a3
        have c0 : w3.cell? ⟨w.heap.size, 0, none⟩ = some (.int .i64 x.f0) := (blk_cell B5 0).trans rfl
        have c1 : w3.cell? ⟨w.heap.size, 1, none⟩ = some (.int .i64 x.f1) := (blk_cell B5 1).trans rfl
        have c2 : w3.cell? ⟨w.heap.size, 2, none⟩ = some (.string x.f2) := (blk_cell B5 2).trans rfl
        have c3 : w3.cell? ⟨w.heap.size, 3, none⟩ = some (.slice A x.f3.length c) := (blk_cell B5 3).trans rfl
        have a0 : ∀ o : Obj, (w3.alloc o).cell? ⟨w.heap.size, 0, none⟩ = some (.int .i64 x.f0) := fun o => (blk_cell (blk_alloc B5 o) 0).trans rfl
        have a1 : ∀ o : Obj, (w3.alloc o).cell? ⟨w.heap.size, 1, none⟩ = some (.int .i64 x.f1) := fun o => (blk_cell (blk_alloc B5 o) 1).trans rfl
        have a2 : ∀ o : Obj, (w3.alloc o).cell? ⟨w.heap.size, 2, none⟩ = some (.string x.f2) := fun o => (blk_cell (blk_alloc B5 o) 2).trans rfl
        have a3 : ∀ o : Obj, (w3.alloc o).cell? ⟨w.heap.size, 3, none⟩ = some (.slice A x.f3.length c) := fun o => (blk_cell (blk_alloc B5 o) 3).trans rfl
        have B5' := Aside0.mk B5
        have HV3 := Aside0.mk (Kd.V_reads' hV).2.2
        clear B5 B4' hbc hb hV
        obtain ⟨p, hp⟩ : ∃ p, p = cmpV 8 name x := ⟨_, rfl⟩
        rw [← hp] at HV3 ⊢
        have HP := Aside0.mk hp
        clear hp
        go_wp2_with fail
        have hbd : Below w3.heap.size w3 (w3.alloc (Obj.cells #[Value.string p.1, Value.slice A1 p.2.1.length d1, Value.int IntKind.i64 p.2.2] 30)) := (Below.refl w3.heap.size w3).alloc (Nat.le_refl _) _
        refine (of_19 name x HCR.out A c HL.out _ (Kd.C_below HC.out (below_step HB3.out hbd)) p HP.out).mono ?_
        rintro e w4 ⟨hor, hb⟩
        have B6 := blk_below (blk_new w3 (Obj.cells #[Value.string p.1, Value.slice A1 p.2.1.length d1, Value.int IntKind.i64 p.2.2] 30)) hb
        have b0 : w4.cell? ⟨w3.heap.size, 0, none⟩ = some (.string p.1) := (blk_cell B6 0).trans rfl
        have b1 : w4.cell? ⟨w3.heap.size, 1, none⟩ = some (.slice A1 p.2.1.length d1) := (blk_cell B6 1).trans rfl
        have b2 : w4.cell? ⟨w3.heap.size, 2, none⟩ = some (.int .i64 p.2.2) := (blk_cell B6 2).trans rfl
        have HB4 := Aside0.mk (below_step HB3.out (below_step hbd hb))
        have HV4 := Aside0.mk (Kd.C_below HV3.out (below_step hbd hb))
        clear c0 c1 c2 c3 a0 a1 a2 a3 hbd hb B6 HV3
        rcases hor with ⟨hz, rfl⟩ | ⟨hz, v, rfl, hr⟩
        · go_wp2_with fail
          refine (told7_no _ _ _ _ _ _ _).mono ?_
          rintro e w5 ⟨rfl, hb⟩
          have HB5 := Aside0.mk (below_step HB4.out hb)
          clear hb hz b0 b1 b2
          go_wp2_with fail
          go_ret
          exact ⟨rfl, HB5.out⟩
        · obtain ⟨A2, d2, rfl, _, hC2⟩ := Kd.R_reads hr
          have HC2 := Aside0.mk hC2
          clear hr hC2
          go_wp2_with fail
          refine (told7_yes _ _ _ _ _ _ _ _ (fun w1 hb => sameValues_any p.2.1 (fun y hy => ?_) ?_ _ _ _ _ w1 (Kd.C_below HC2.out hb) (Kd.C_below HV4.out hb))).mono ?_
          · rw [HP.out] at hy
            unfold cmpV at hy
            split at hy
            · simp at hy
            · obtain rfl : y = x := by simpa using hy
              exact HCR.out.vr y (by simp)
          · rw [HP.out]; exact Nat.le_trans (cmpV_fair 8 name (HCR.out.pos name (by simp)).2 x).2.1 (Nat.le_refl _)
          rintro e w5 ⟨rfl, hb⟩
          have HB5 := Aside0.mk (below_step HB4.out hb)
          clear hb hz b0 b1 b2
          go_wp2_with fail
          go_ret
          exact ⟨rfl, HB5.out⟩
set_option maxRecDepth 100000 in
set_option maxHeartbeats 4000000 in
theorem law_3 (name : ByteArray) (x : S24) (A : Option Addr) (c : Nat) (hl : x.f3.length ≤ c) (w : World) (hC : k24.C w A x.f3.length x.f3) :
    Calls Try.prog 3 #[.string name, .agg #[.int .i64 x.f0, .int .i64 x.f1, .string x.f2, .slice A x.f3.length c]] w (SamePost w) := by
  have HC := Aside0.mk hC
  have HL := Aside0.mk hl
  clear hC hl
  by_cases hn : (2147483647 : Int) < name.size
  · go_enter Try.func3, Try.ntmps3
    go_wp2_with fail
    go_ret
    exact ⟨rfl, (Below.refl _ _).alloc (Nat.le_refl _) _⟩
  · go_enter Try.func3, Try.ntmps3
    go_wp2_with fail
    refine (fits2_any _ _ _ _ _ _ _).mono ?_
    rintro e w1 ⟨r, rfl, hb⟩
    have B3 := blk_below (blk_new w (Obj.cells #[Value.int IntKind.i64 x.f0, Value.int IntKind.i64 x.f1, Value.string x.f2, Value.slice A x.f3.length c] 24)) hb
    have c0 : w1.cell? ⟨w.heap.size, 0, none⟩ = some (.int .i64 x.f0) := (blk_cell B3 0).trans rfl
    have c1 : w1.cell? ⟨w.heap.size, 1, none⟩ = some (.int .i64 x.f1) := (blk_cell B3 1).trans rfl
    have c2 : w1.cell? ⟨w.heap.size, 2, none⟩ = some (.string x.f2) := (blk_cell B3 2).trans rfl
    have c3 : w1.cell? ⟨w.heap.size, 3, none⟩ = some (.slice A x.f3.length c) := (blk_cell B3 3).trans rfl
    have a0 : ∀ o : Obj, (w1.alloc o).cell? ⟨w.heap.size, 0, none⟩ = some (.int .i64 x.f0) := fun o => (blk_cell (blk_alloc B3 o) 0).trans rfl
    have a1 : ∀ o : Obj, (w1.alloc o).cell? ⟨w.heap.size, 1, none⟩ = some (.int .i64 x.f1) := fun o => (blk_cell (blk_alloc B3 o) 1).trans rfl
    have a2 : ∀ o : Obj, (w1.alloc o).cell? ⟨w.heap.size, 2, none⟩ = some (.string x.f2) := fun o => (blk_cell (blk_alloc B3 o) 2).trans rfl
    have a3 : ∀ o : Obj, (w1.alloc o).cell? ⟨w.heap.size, 3, none⟩ = some (.slice A x.f3.length c) := fun o => (blk_cell (blk_alloc B3 o) 3).trans rfl
    have HB1 := Aside0.mk (below_step ((Below.refl w.heap.size w).alloc (Nat.le_refl _) _) hb)
    have B3' := Aside0.mk B3
    clear B3 hb
    cases r with
    | false =>
      go_wp2_with fail
      go_ret
      exact ⟨rfl, HB1.out⟩
    | true =>
      go_wp2_with fail
      have hba : Below w1.heap.size w1 ((w1.alloc (Obj.cells #[Value.string name] 9)).alloc (Obj.cells #[Value.int IntKind.i64 x.f0, Value.int IntKind.i64 x.f1, Value.string x.f2, Value.slice A x.f3.length c] 24)) := (((Below.refl w1.heap.size w1).alloc (Nat.le_refl _) _).alloc (by simp) _)
      refine (columns7_any (some ⟨w1.heap.size, 0, none⟩) (some ⟨w1.heap.size + 1, 0, none⟩) 1 1 [name] [x] _ (C_name (blk_alloc (blk_new _ _) _)) (C_box (blk2 _ _) HL.out (Kd.C_below HC.out (below_step HB1.out hba)))).mono ?_
      rintro e w2 ⟨r, rfl, hr, hb⟩
      have HB2 := Aside0.mk (below_step HB1.out (below_step hba hb))
      have B4 := blk_below B3'.out (below_step hba hb)
      clear c0 c1 c2 c3 a0 a1 a2 a3
      have c0 : w2.cell? ⟨w.heap.size, 0, none⟩ = some (.int .i64 x.f0) := (blk_cell B4 0).trans rfl
      have c1 : w2.cell? ⟨w.heap.size, 1, none⟩ = some (.int .i64 x.f1) := (blk_cell B4 1).trans rfl
      have c2 : w2.cell? ⟨w.heap.size, 2, none⟩ = some (.string x.f2) := (blk_cell B4 2).trans rfl
      have c3 : w2.cell? ⟨w.heap.size, 3, none⟩ = some (.slice A x.f3.length c) := (blk_cell B4 3).trans rfl
      have a0 : ∀ o : Obj, (w2.alloc o).cell? ⟨w.heap.size, 0, none⟩ = some (.int .i64 x.f0) := fun o => (blk_cell (blk_alloc B4 o) 0).trans rfl
      have a1 : ∀ o : Obj, (w2.alloc o).cell? ⟨w.heap.size, 1, none⟩ = some (.int .i64 x.f1) := fun o => (blk_cell (blk_alloc B4 o) 1).trans rfl
      have a2 : ∀ o : Obj, (w2.alloc o).cell? ⟨w.heap.size, 2, none⟩ = some (.string x.f2) := fun o => (blk_cell (blk_alloc B4 o) 2).trans rfl
      have a3 : ∀ o : Obj, (w2.alloc o).cell? ⟨w.heap.size, 3, none⟩ = some (.slice A x.f3.length c) := fun o => (blk_cell (blk_alloc B4 o) 3).trans rfl
      have B4' := Aside0.mk B4
      clear B4 B3' hba hb
      cases r with
      | false =>
        go_wp2_with fail
        go_ret
        exact ⟨rfl, HB2.out⟩
      | true =>
        have HCR := Aside0.mk (hr rfl)
        clear hr
        go_wp2_with fail
        have hbc : Below w2.heap.size w2 ((w2.alloc (Obj.cells #[Value.string name] 9)).alloc (Obj.cells #[Value.int IntKind.i64 x.f0, Value.int IntKind.i64 x.f1, Value.string x.f2, Value.slice A x.f3.length c] 24)) := (((Below.refl w2.heap.size w2).alloc (Nat.le_refl _) _).alloc (by simp) _)
        refine (columns_any 10 (by decide) (by decide) [name] [x] HCR.out (fun _ => by simp) 10 [0] (byName_one name) (ordOk_one name) (some ⟨w2.heap.size, 0, none⟩) (some ⟨w2.heap.size + 1, 0, none⟩) 1 1 (by simp) _ (C_name (blk_alloc (blk_new _ _) _)) (C_box (blk2 _ _) HL.out (Kd.C_below HC.out (below_step HB2.out hbc)))).mono ?_
        rw [show [name].length = 1 from rfl, cols_one]
        rintro e w3 ⟨A1, d1, rfl, hV, hb⟩
        have HB3 := Aside0.mk (below_step HB2.out (below_step hbc hb))
        have B5 := blk_below B4'.out (below_step hbc hb)
        clear c0 c1 c2 c3 a0 a1 a2 a3
        have c0 : w3.cell? ⟨w.heap.size, 0, none⟩ = some (.int .i64 x.f0) := (blk_cell B5 0).trans rfl
        have c1 : w3.cell? ⟨w.heap.size, 1, none⟩ = some (.int .i64 x.f1) := (blk_cell B5 1).trans rfl
        have c2 : w3.cell? ⟨w.heap.size, 2, none⟩ = some (.string x.f2) := (blk_cell B5 2).trans rfl
        have c3 : w3.cell? ⟨w.heap.size, 3, none⟩ = some (.slice A x.f3.length c) := (blk_cell B5 3).trans rfl
        have a0 : ∀ o : Obj, (w3.alloc o).cell? ⟨w.heap.size, 0, none⟩ = some (.int .i64 x.f0) := fun o => (blk_cell (blk_alloc B5 o) 0).trans rfl
        have a1 : ∀ o : Obj, (w3.alloc o).cell? ⟨w.heap.size, 1, none⟩ = some (.int .i64 x.f1) := fun o => (blk_cell (blk_alloc B5 o) 1).trans rfl
        have a2 : ∀ o : Obj, (w3.alloc o).cell? ⟨w.heap.size, 2, none⟩ = some (.string x.f2) := fun o => (blk_cell (blk_alloc B5 o) 2).trans rfl
        have a3 : ∀ o : Obj, (w3.alloc o).cell? ⟨w.heap.size, 3, none⟩ = some (.slice A x.f3.length c) := fun o => (blk_cell (blk_alloc B5 o) 3).trans rfl
        have B5' := Aside0.mk B5
        have HV3 := Aside0.mk (Kd.V_reads' hV).2.2
        clear B5 B4' hbc hb hV
        obtain ⟨p, hp⟩ : ∃ p, p = cmpV 10 name x := ⟨_, rfl⟩
        rw [← hp] at HV3 ⊢
        have HP := Aside0.mk hp
        clear hp
        go_wp2_with fail
        have hbd : Below w3.heap.size w3 (w3.alloc (Obj.cells #[Value.string p.1, Value.slice A1 p.2.1.length d1, Value.int IntKind.i64 p.2.2] 30)) := (Below.refl w3.heap.size w3).alloc (Nat.le_refl _) _
        refine (of_17 name x HCR.out A c HL.out _ (Kd.C_below HC.out (below_step HB3.out hbd)) p HP.out).mono ?_
        rintro e w4 ⟨hor, hb⟩
        have B6 := blk_below (blk_new w3 (Obj.cells #[Value.string p.1, Value.slice A1 p.2.1.length d1, Value.int IntKind.i64 p.2.2] 30)) hb
        have b0 : w4.cell? ⟨w3.heap.size, 0, none⟩ = some (.string p.1) := (blk_cell B6 0).trans rfl
        have b1 : w4.cell? ⟨w3.heap.size, 1, none⟩ = some (.slice A1 p.2.1.length d1) := (blk_cell B6 1).trans rfl
        have b2 : w4.cell? ⟨w3.heap.size, 2, none⟩ = some (.int .i64 p.2.2) := (blk_cell B6 2).trans rfl
        have HB4 := Aside0.mk (below_step HB3.out (below_step hbd hb))
        have HV4 := Aside0.mk (Kd.C_below HV3.out (below_step hbd hb))
        clear c0 c1 c2 c3 a0 a1 a2 a3 hbd hb B6 HV3
        rcases hor with ⟨hz, rfl⟩ | ⟨hz, v, rfl, hr⟩
        · go_wp2_with fail
          refine (told7_no _ _ _ _ _ _ _).mono ?_
          rintro e w5 ⟨rfl, hb⟩
          have HB5 := Aside0.mk (below_step HB4.out hb)
          clear hb hz b0 b1 b2
          go_wp2_with fail
          go_ret
          exact ⟨rfl, HB5.out⟩
        · obtain ⟨A2, d2, rfl, _, hC2⟩ := Kd.R_reads hr
          have HC2 := Aside0.mk hC2
          clear hr hC2
          go_wp2_with fail
          refine (told7_yes _ _ _ _ _ _ _ _ (fun w1 hb => sameValues_any p.2.1 (fun y hy => ?_) ?_ _ _ _ _ w1 (Kd.C_below HC2.out hb) (Kd.C_below HV4.out hb))).mono ?_
          · rw [HP.out] at hy
            unfold cmpV at hy
            split at hy
            · simp at hy
            · obtain rfl : y = x := by simpa using hy
              exact HCR.out.vr y (by simp)
          · rw [HP.out]; exact Nat.le_trans (cmpV_fair 10 name (HCR.out.pos name (by simp)).2 x).2.1 (Nat.le_refl _)
          rintro e w5 ⟨rfl, hb⟩
          have HB5 := Aside0.mk (below_step HB4.out hb)
          clear hb hz b0 b1 b2
          go_wp2_with fail
          go_ret
          exact ⟨rfl, HB5.out⟩
set_option maxRecDepth 100000 in
set_option maxHeartbeats 4000000 in
theorem law_5 (name : ByteArray) (x : S24) (A : Option Addr) (c : Nat) (hl : x.f3.length ≤ c) (w : World) (hC : k24.C w A x.f3.length x.f3) :
    Calls Try.prog 5 #[.string name, .agg #[.int .i64 x.f0, .int .i64 x.f1, .string x.f2, .slice A x.f3.length c]] w (SamePost w) := by
  have HC := Aside0.mk hC
  have HL := Aside0.mk hl
  clear hC hl
  by_cases hn : (2147483647 : Int) < name.size
  · go_enter Try.func5, Try.ntmps5
    go_wp2_with fail
    go_ret
    exact ⟨rfl, (Below.refl _ _).alloc (Nat.le_refl _) _⟩
  · go_enter Try.func5, Try.ntmps5
    go_wp2_with fail
    refine (fits2_any _ _ _ _ _ _ _).mono ?_
    rintro e w1 ⟨r, rfl, hb⟩
    have B3 := blk_below (blk_new w (Obj.cells #[Value.int IntKind.i64 x.f0, Value.int IntKind.i64 x.f1, Value.string x.f2, Value.slice A x.f3.length c] 24)) hb
    have c0 : w1.cell? ⟨w.heap.size, 0, none⟩ = some (.int .i64 x.f0) := (blk_cell B3 0).trans rfl
    have c1 : w1.cell? ⟨w.heap.size, 1, none⟩ = some (.int .i64 x.f1) := (blk_cell B3 1).trans rfl
    have c2 : w1.cell? ⟨w.heap.size, 2, none⟩ = some (.string x.f2) := (blk_cell B3 2).trans rfl
    have c3 : w1.cell? ⟨w.heap.size, 3, none⟩ = some (.slice A x.f3.length c) := (blk_cell B3 3).trans rfl
    have a0 : ∀ o : Obj, (w1.alloc o).cell? ⟨w.heap.size, 0, none⟩ = some (.int .i64 x.f0) := fun o => (blk_cell (blk_alloc B3 o) 0).trans rfl
    have a1 : ∀ o : Obj, (w1.alloc o).cell? ⟨w.heap.size, 1, none⟩ = some (.int .i64 x.f1) := fun o => (blk_cell (blk_alloc B3 o) 1).trans rfl
    have a2 : ∀ o : Obj, (w1.alloc o).cell? ⟨w.heap.size, 2, none⟩ = some (.string x.f2) := fun o => (blk_cell (blk_alloc B3 o) 2).trans rfl
    have a3 : ∀ o : Obj, (w1.alloc o).cell? ⟨w.heap.size, 3, none⟩ = some (.slice A x.f3.length c) := fun o => (blk_cell (blk_alloc B3 o) 3).trans rfl
    have HB1 := Aside0.mk (below_step ((Below.refl w.heap.size w).alloc (Nat.le_refl _) _) hb)
    have B3' := Aside0.mk B3
    clear B3 hb
    cases r with
    | false =>
      go_wp2_with fail
      go_ret
      exact ⟨rfl, HB1.out⟩
    | true =>
      go_wp2_with fail
      have hba : Below w1.heap.size w1 ((w1.alloc (Obj.cells #[Value.string name] 9)).alloc (Obj.cells #[Value.int IntKind.i64 x.f0, Value.int IntKind.i64 x.f1, Value.string x.f2, Value.slice A x.f3.length c] 24)) := (((Below.refl w1.heap.size w1).alloc (Nat.le_refl _) _).alloc (by simp) _)
      refine (columns7_any (some ⟨w1.heap.size, 0, none⟩) (some ⟨w1.heap.size + 1, 0, none⟩) 1 1 [name] [x] _ (C_name (blk_alloc (blk_new _ _) _)) (C_box (blk2 _ _) HL.out (Kd.C_below HC.out (below_step HB1.out hba)))).mono ?_
      rintro e w2 ⟨r, rfl, hr, hb⟩
      have HB2 := Aside0.mk (below_step HB1.out (below_step hba hb))
      have B4 := blk_below B3'.out (below_step hba hb)
      clear c0 c1 c2 c3 a0 a1 a2 a3
      have c0 : w2.cell? ⟨w.heap.size, 0, none⟩ = some (.int .i64 x.f0) := (blk_cell B4 0).trans rfl
      have c1 : w2.cell? ⟨w.heap.size, 1, none⟩ = some (.int .i64 x.f1) := (blk_cell B4 1).trans rfl
      have c2 : w2.cell? ⟨w.heap.size, 2, none⟩ = some (.string x.f2) := (blk_cell B4 2).trans rfl
      have c3 : w2.cell? ⟨w.heap.size, 3, none⟩ = some (.slice A x.f3.length c) := (blk_cell B4 3).trans rfl
      have a0 : ∀ o : Obj, (w2.alloc o).cell? ⟨w.heap.size, 0, none⟩ = some (.int .i64 x.f0) := fun o => (blk_cell (blk_alloc B4 o) 0).trans rfl
      have a1 : ∀ o : Obj, (w2.alloc o).cell? ⟨w.heap.size, 1, none⟩ = some (.int .i64 x.f1) := fun o => (blk_cell (blk_alloc B4 o) 1).trans rfl
      have a2 : ∀ o : Obj, (w2.alloc o).cell? ⟨w.heap.size, 2, none⟩ = some (.string x.f2) := fun o => (blk_cell (blk_alloc B4 o) 2).trans rfl
      have a3 : ∀ o : Obj, (w2.alloc o).cell? ⟨w.heap.size, 3, none⟩ = some (.slice A x.f3.length c) := fun o => (blk_cell (blk_alloc B4 o) 3).trans rfl
      have B4' := Aside0.mk B4
      clear B4 B3' hba hb
      cases r with
      | false =>
        go_wp2_with fail
        go_ret
        exact ⟨rfl, HB2.out⟩
      | true =>
        have HCR := Aside0.mk (hr rfl)
        clear hr
        go_wp2_with fail
        have hbc : Below w2.heap.size w2 ((w2.alloc (Obj.cells #[Value.string name] 9)).alloc (Obj.cells #[Value.int IntKind.i64 x.f0, Value.int IntKind.i64 x.f1, Value.string x.f2, Value.slice A x.f3.length c] 24)) := (((Below.refl w2.heap.size w2).alloc (Nat.le_refl _) _).alloc (by simp) _)
        refine (columns_any 11 (by decide) (by decide) [name] [x] HCR.out (fun _ => by simp) 10 [0] (byName_one name) (ordOk_one name) (some ⟨w2.heap.size, 0, none⟩) (some ⟨w2.heap.size + 1, 0, none⟩) 1 1 (by simp) _ (C_name (blk_alloc (blk_new _ _) _)) (C_box (blk2 _ _) HL.out (Kd.C_below HC.out (below_step HB2.out hbc)))).mono ?_
        rw [show [name].length = 1 from rfl, cols_one]
        rintro e w3 ⟨A1, d1, rfl, hV, hb⟩
        have HB3 := Aside0.mk (below_step HB2.out (below_step hbc hb))
        have B5 := blk_below B4'.out (below_step hbc hb)
        clear c0 c1 c2 c3 a0 a1 a2 a3
        have c0 : w3.cell? ⟨w.heap.size, 0, none⟩ = some (.int .i64 x.f0) := (blk_cell B5 0).trans rfl
        have c1 : w3.cell? ⟨w.heap.size, 1, none⟩ = some (.int .i64 x.f1) := (blk_cell B5 1).trans rfl
        have c2 : w3.cell? ⟨w.heap.size, 2, none⟩ = some (.string x.f2) := (blk_cell B5 2).trans rfl
        have c3 : w3.cell? ⟨w.heap.size, 3, none⟩ = some (.slice A x.f3.length c) := (blk_cell B5 3).trans rfl
        have a0 : ∀ o : Obj, (w3.alloc o).cell? ⟨w.heap.size, 0, none⟩ = some (.int .i64 x.f0) := fun o => (blk_cell (blk_alloc B5 o) 0).trans rfl
        have a1 : ∀ o : Obj, (w3.alloc o).cell? ⟨w.heap.size, 1, none⟩ = some (.int .i64 x.f1) := fun o => (blk_cell (blk_alloc B5 o) 1).trans rfl
        have a2 : ∀ o : Obj, (w3.alloc o).cell? ⟨w.heap.size, 2, none⟩ = some (.string x.f2) := fun o => (blk_cell (blk_alloc B5 o) 2).trans rfl
        have a3 : ∀ o : Obj, (w3.alloc o).cell? ⟨w.heap.size, 3, none⟩ = some (.slice A x.f3.length c) := fun o => (blk_cell (blk_alloc B5 o) 3).trans rfl
        have B5' := Aside0.mk B5
        have HV3 := Aside0.mk (Kd.V_reads' hV).2.2
        clear B5 B4' hbc hb hV
        obtain ⟨p, hp⟩ : ∃ p, p = cmpV 11 name x := ⟨_, rfl⟩
        rw [← hp] at HV3 ⊢
        have HP := Aside0.mk hp
        clear hp
        go_wp2_with fail
        have hbd : Below w3.heap.size w3 (w3.alloc (Obj.cells #[Value.string p.1, Value.slice A1 p.2.1.length d1, Value.int IntKind.i64 p.2.2] 30)) := (Below.refl w3.heap.size w3).alloc (Nat.le_refl _) _
        refine (of_20 name x HCR.out A c HL.out _ (Kd.C_below HC.out (below_step HB3.out hbd)) p HP.out).mono ?_
        rintro e w4 ⟨hor, hb⟩
        have B6 := blk_below (blk_new w3 (Obj.cells #[Value.string p.1, Value.slice A1 p.2.1.length d1, Value.int IntKind.i64 p.2.2] 30)) hb
        have b0 : w4.cell? ⟨w3.heap.size, 0, none⟩ = some (.string p.1) := (blk_cell B6 0).trans rfl
        have b1 : w4.cell? ⟨w3.heap.size, 1, none⟩ = some (.slice A1 p.2.1.length d1) := (blk_cell B6 1).trans rfl
        have b2 : w4.cell? ⟨w3.heap.size, 2, none⟩ = some (.int .i64 p.2.2) := (blk_cell B6 2).trans rfl
        have HB4 := Aside0.mk (below_step HB3.out (below_step hbd hb))
        have HV4 := Aside0.mk (Kd.C_below HV3.out (below_step hbd hb))
        clear c0 c1 c2 c3 a0 a1 a2 a3 hbd hb B6 HV3
        rcases hor with ⟨hz, rfl⟩ | ⟨hz, v, rfl, hr⟩
        · go_wp2_with fail
          refine (told7_no _ _ _ _ _ _ _).mono ?_
          rintro e w5 ⟨rfl, hb⟩
          have HB5 := Aside0.mk (below_step HB4.out hb)
          clear hb hz b0 b1 b2
          go_wp2_with fail
          go_ret
          exact ⟨rfl, HB5.out⟩
        · obtain ⟨A2, d2, rfl, _, hC2⟩ := Kd.R_reads hr
          have HC2 := Aside0.mk hC2
          clear hr hC2
          go_wp2_with fail
          refine (told7_yes _ _ _ _ _ _ _ _ (fun w1 hb => sameValues_any p.2.1 (fun y hy => ?_) ?_ _ _ _ _ w1 (Kd.C_below HC2.out hb) (Kd.C_below HV4.out hb))).mono ?_
          · rw [HP.out] at hy
            unfold cmpV at hy
            split at hy
            · simp at hy
            · obtain rfl : y = x := by simpa using hy
              exact HCR.out.vr y (by simp)
          · rw [HP.out]; exact Nat.le_trans (cmpV_fair 11 name (HCR.out.pos name (by simp)).2 x).2.1 (Nat.le_refl _)
          rintro e w5 ⟨rfl, hb⟩
          have HB5 := Aside0.mk (below_step HB4.out hb)
          clear hb hz b0 b1 b2
          go_wp2_with fail
          go_ret
          exact ⟨rfl, HB5.out⟩
set_option maxRecDepth 100000 in
set_option maxHeartbeats 4000000 in
theorem law_6 (name : ByteArray) (x : S24) (A : Option Addr) (c : Nat) (hl : x.f3.length ≤ c) (w : World) (hC : k24.C w A x.f3.length x.f3) :
    Calls Try.prog 6 #[.string name, .agg #[.int .i64 x.f0, .int .i64 x.f1, .string x.f2, .slice A x.f3.length c]] w (SamePost w) := by
  have HC := Aside0.mk hC
  have HL := Aside0.mk hl
  clear hC hl
  by_cases hn : (2147483647 : Int) < name.size
  · go_enter Try.func6, Try.ntmps6
    go_wp2_with fail
    go_ret
    exact ⟨rfl, (Below.refl _ _).alloc (Nat.le_refl _) _⟩
  · go_enter Try.func6, Try.ntmps6
    go_wp2_with fail
    refine (fits2_any _ _ _ _ _ _ _).mono ?_
    rintro e w1 ⟨r, rfl, hb⟩
    have B3 := blk_below (blk_new w (Obj.cells #[Value.int IntKind.i64 x.f0, Value.int IntKind.i64 x.f1, Value.string x.f2, Value.slice A x.f3.length c] 24)) hb
    have c0 : w1.cell? ⟨w.heap.size, 0, none⟩ = some (.int .i64 x.f0) := (blk_cell B3 0).trans rfl
    have c1 : w1.cell? ⟨w.heap.size, 1, none⟩ = some (.int .i64 x.f1) := (blk_cell B3 1).trans rfl
    have c2 : w1.cell? ⟨w.heap.size, 2, none⟩ = some (.string x.f2) := (blk_cell B3 2).trans rfl
    have c3 : w1.cell? ⟨w.heap.size, 3, none⟩ = some (.slice A x.f3.length c) := (blk_cell B3 3).trans rfl
    have a0 : ∀ o : Obj, (w1.alloc o).cell? ⟨w.heap.size, 0, none⟩ = some (.int .i64 x.f0) := fun o => (blk_cell (blk_alloc B3 o) 0).trans rfl
    have a1 : ∀ o : Obj, (w1.alloc o).cell? ⟨w.heap.size, 1, none⟩ = some (.int .i64 x.f1) := fun o => (blk_cell (blk_alloc B3 o) 1).trans rfl
    have a2 : ∀ o : Obj, (w1.alloc o).cell? ⟨w.heap.size, 2, none⟩ = some (.string x.f2) := fun o => (blk_cell (blk_alloc B3 o) 2).trans rfl
    have a3 : ∀ o : Obj, (w1.alloc o).cell? ⟨w.heap.size, 3, none⟩ = some (.slice A x.f3.length c) := fun o => (blk_cell (blk_alloc B3 o) 3).trans rfl
    have HB1 := Aside0.mk (below_step ((Below.refl w.heap.size w).alloc (Nat.le_refl _) _) hb)
    have B3' := Aside0.mk B3
    clear B3 hb
    cases r with
    | false =>
      go_wp2_with fail
      go_ret
      exact ⟨rfl, HB1.out⟩
    | true =>
      go_wp2_with fail
      have hba : Below w1.heap.size w1 ((w1.alloc (Obj.cells #[Value.string name] 9)).alloc (Obj.cells #[Value.int IntKind.i64 x.f0, Value.int IntKind.i64 x.f1, Value.string x.f2, Value.slice A x.f3.length c] 24)) := (((Below.refl w1.heap.size w1).alloc (Nat.le_refl _) _).alloc (by simp) _)
      refine (columns7_any (some ⟨w1.heap.size, 0, none⟩) (some ⟨w1.heap.size + 1, 0, none⟩) 1 1 [name] [x] _ (C_name (blk_alloc (blk_new _ _) _)) (C_box (blk2 _ _) HL.out (Kd.C_below HC.out (below_step HB1.out hba)))).mono ?_
      rintro e w2 ⟨r, rfl, hr, hb⟩
      have HB2 := Aside0.mk (below_step HB1.out (below_step hba hb))
      have B4 := blk_below B3'.out (below_step hba hb)
      clear c0 c1 c2 c3 a0 a1 a2 a3
      have c0 : w2.cell? ⟨w.heap.size, 0, none⟩ = some (.int .i64 x.f0) := (blk_cell B4 0).trans rfl
      have c1 : w2.cell? ⟨w.heap.size, 1, none⟩ = some (.int .i64 x.f1) := (blk_cell B4 1).trans rfl
      have c2 : w2.cell? ⟨w.heap.size, 2, none⟩ = some (.string x.f2) := (blk_cell B4 2).trans rfl
      have c3 : w2.cell? ⟨w.heap.size, 3, none⟩ = some (.slice A x.f3.length c) := (blk_cell B4 3).trans rfl
      have a0 : ∀ o : Obj, (w2.alloc o).cell? ⟨w.heap.size, 0, none⟩ = some (.int .i64 x.f0) := fun o => (blk_cell (blk_alloc B4 o) 0).trans rfl
      have a1 : ∀ o : Obj, (w2.alloc o).cell? ⟨w.heap.size, 1, none⟩ = some (.int .i64 x.f1) := fun o => (blk_cell (blk_alloc B4 o) 1).trans rfl
      have a2 : ∀ o : Obj, (w2.alloc o).cell? ⟨w.heap.size, 2, none⟩ = some (.string x.f2) := fun o => (blk_cell (blk_alloc B4 o) 2).trans rfl
      have a3 : ∀ o : Obj, (w2.alloc o).cell? ⟨w.heap.size, 3, none⟩ = some (.slice A x.f3.length c) := fun o => (blk_cell (blk_alloc B4 o) 3).trans rfl
      have B4' := Aside0.mk B4
      clear B4 B3' hba hb
      cases r with
      | false =>
        go_wp2_with fail
        go_ret
        exact ⟨rfl, HB2.out⟩
      | true =>
        have HCR := Aside0.mk (hr rfl)
        clear hr
        go_wp2_with fail
        have hbc : Below w2.heap.size w2 ((w2.alloc (Obj.cells #[Value.string name] 9)).alloc (Obj.cells #[Value.int IntKind.i64 x.f0, Value.int IntKind.i64 x.f1, Value.string x.f2, Value.slice A x.f3.length c] 24)) := (((Below.refl w2.heap.size w2).alloc (Nat.le_refl _) _).alloc (by simp) _)
        refine (columns_any 9 (by decide) (by decide) [name] [x] HCR.out (fun _ => by simp) 10 [0] (byName_one name) (ordOk_one name) (some ⟨w2.heap.size, 0, none⟩) (some ⟨w2.heap.size + 1, 0, none⟩) 1 1 (by simp) _ (C_name (blk_alloc (blk_new _ _) _)) (C_box (blk2 _ _) HL.out (Kd.C_below HC.out (below_step HB2.out hbc)))).mono ?_
        rw [show [name].length = 1 from rfl, cols_one]
        rintro e w3 ⟨A1, d1, rfl, hV, hb⟩
        have HB3 := Aside0.mk (below_step HB2.out (below_step hbc hb))
        have B5 := blk_below B4'.out (below_step hbc hb)
        clear c0 c1 c2 c3 a0 a1 a2 a3
        have c0 : w3.cell? ⟨w.heap.size, 0, none⟩ = some (.int .i64 x.f0) := (blk_cell B5 0).trans rfl
        have c1 : w3.cell? ⟨w.heap.size, 1, none⟩ = some (.int .i64 x.f1) := (blk_cell B5 1).trans rfl
        have c2 : w3.cell? ⟨w.heap.size, 2, none⟩ = some (.string x.f2) := (blk_cell B5 2).trans rfl
        have c3 : w3.cell? ⟨w.heap.size, 3, none⟩ = some (.slice A x.f3.length c) := (blk_cell B5 3).trans rfl
        have a0 : ∀ o : Obj, (w3.alloc o).cell? ⟨w.heap.size, 0, none⟩ = some (.int .i64 x.f0) := fun o => (blk_cell (blk_alloc B5 o) 0).trans rfl
        have a1 : ∀ o : Obj, (w3.alloc o).cell? ⟨w.heap.size, 1, none⟩ = some (.int .i64 x.f1) := fun o => (blk_cell (blk_alloc B5 o) 1).trans rfl
        have a2 : ∀ o : Obj, (w3.alloc o).cell? ⟨w.heap.size, 2, none⟩ = some (.string x.f2) := fun o => (blk_cell (blk_alloc B5 o) 2).trans rfl
        have a3 : ∀ o : Obj, (w3.alloc o).cell? ⟨w.heap.size, 3, none⟩ = some (.slice A x.f3.length c) := fun o => (blk_cell (blk_alloc B5 o) 3).trans rfl
        have B5' := Aside0.mk B5
        have HV3 := Aside0.mk (Kd.V_reads' hV).2.2
        clear B5 B4' hbc hb hV
        obtain ⟨p, hp⟩ : ∃ p, p = cmpV 9 name x := ⟨_, rfl⟩
        rw [← hp] at HV3 ⊢
        have HP := Aside0.mk hp
        clear hp
        go_wp2_with fail
        have hbd : Below w3.heap.size w3 (w3.alloc (Obj.cells #[Value.string p.1, Value.slice A1 p.2.1.length d1, Value.int IntKind.i64 p.2.2] 30)) := (Below.refl w3.heap.size w3).alloc (Nat.le_refl _) _
        refine (of_21 name x HCR.out A c HL.out _ (Kd.C_below HC.out (below_step HB3.out hbd)) p HP.out).mono ?_
        rintro e w4 ⟨hor, hb⟩
        have B6 := blk_below (blk_new w3 (Obj.cells #[Value.string p.1, Value.slice A1 p.2.1.length d1, Value.int IntKind.i64 p.2.2] 30)) hb
        have b0 : w4.cell? ⟨w3.heap.size, 0, none⟩ = some (.string p.1) := (blk_cell B6 0).trans rfl
        have b1 : w4.cell? ⟨w3.heap.size, 1, none⟩ = some (.slice A1 p.2.1.length d1) := (blk_cell B6 1).trans rfl
        have b2 : w4.cell? ⟨w3.heap.size, 2, none⟩ = some (.int .i64 p.2.2) := (blk_cell B6 2).trans rfl
        have HB4 := Aside0.mk (below_step HB3.out (below_step hbd hb))
        have HV4 := Aside0.mk (Kd.C_below HV3.out (below_step hbd hb))
        clear c0 c1 c2 c3 a0 a1 a2 a3 hbd hb B6 HV3
        rcases hor with ⟨hz, rfl⟩ | ⟨hz, v, rfl, hr⟩
        · go_wp2_with fail
          refine (told7_no _ _ _ _ _ _ _).mono ?_
          rintro e w5 ⟨rfl, hb⟩
          have HB5 := Aside0.mk (below_step HB4.out hb)
          clear hb hz b0 b1 b2
          go_wp2_with fail
          go_ret
          exact ⟨rfl, HB5.out⟩
        · obtain ⟨A2, d2, rfl, _, hC2⟩ := Kd.R_reads hr
          have HC2 := Aside0.mk hC2
          clear hr hC2
          go_wp2_with fail
          refine (told7_yes _ _ _ _ _ _ _ _ (fun w1 hb => sameValues_any p.2.1 (fun y hy => ?_) ?_ _ _ _ _ w1 (Kd.C_below HC2.out hb) (Kd.C_below HV4.out hb))).mono ?_
          · rw [HP.out] at hy
            unfold cmpV at hy
            split at hy
            · simp at hy
            · obtain rfl : y = x := by simpa using hy
              exact HCR.out.vr y (by simp)
          · rw [HP.out]; exact Nat.le_trans (cmpV_fair 9 name (HCR.out.pos name (by simp)).2 x).2.1 (Nat.le_refl _)
          rintro e w5 ⟨rfl, hb⟩
          have HB5 := Aside0.mk (below_step HB4.out hb)
          clear hb hz b0 b1 b2
          go_wp2_with fail
          go_ret
          exact ⟨rfl, HB5.out⟩

end Go.Proofs.Ytagandfneflcbaa
