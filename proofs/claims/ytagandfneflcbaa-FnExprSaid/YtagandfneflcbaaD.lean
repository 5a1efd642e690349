/- The guard 'spec.ConditionRight' whole, at a comparison and at a text, and 'laws.columns7'. Conditions: the piece lies in one row. -/
import Derived.Test.YtagandfneflcbaaC
namespace Go.Proofs.Ytagandfneflcbaa
open Go.RowKit Go.Proofs.YtagandfneflcbaaW.PrintWords Go.Proofs.YtagandfneflcbaaW.PrintLast Go.Proofs.YtagandfneflcbaaW.PrintMore
open Go.Proofs.Ytagandfneflcbaa.PFnLt

/-- What the guard has looked at, of a text with arguments. -/
structure ER (txt : ByteArray) (vals : List S24) : Prop where
  t200 : txt.size ≤ 200
  v8 : vals.length ≤ 8
  vr : ∀ x, x ∈ vals → VR x

set_option maxRecDepth 100000 in
set_option maxHeartbeats 2000000 in
theorem cond_long (b : Nat) (NA VA : Option Addr) (nn nc vn vc : Nat) (txt : ByteArray) (kind : Int) (w : World)
    (h0 : w.cell? ⟨b, 0, none⟩ = some (.int .i64 kind)) (h1 : w.cell? ⟨b, 1, none⟩ = some (.string txt)) (h2 : w.cell? ⟨b, 2, none⟩ = some (.slice NA nn nc)) (h3 : w.cell? ⟨b, 3, none⟩ = some (.slice VA vn vc)) (h4 : w.cell? ⟨b, 4, none⟩ = some (.slice none 0 0)) (h5 : w.cell? ⟨b, 5, none⟩ = some (.int .i64 1))
    (ht : 200 < (txt.size : Int)) (P : Prop) :
    Calls Try.prog 53 #[.slice (some ⟨b, 0, none⟩) 1 1, .int .i64 12] w (CondPost P w.heap.size w) := by
  go_enter Try.func53, Try.ntmps53
  go_wp2_with fail
  go_ret
  exact ⟨false, rfl, fun h => (by cases h), (Below.refl _ _).alloc (Nat.le_refl _) _⟩

set_option maxRecDepth 100000 in
set_option maxHeartbeats 4000000 in
theorem cond_text (b : Nat) (VA : Option Addr) (vc : Nat) (txt : ByteArray) (vals : List S24) (w : World)
    (h0 : w.cell? ⟨b, 0, none⟩ = some (.int .i64 1)) (h1 : w.cell? ⟨b, 1, none⟩ = some (.string txt)) (h2 : w.cell? ⟨b, 2, none⟩ = some (.slice none 0 0)) (h3 : w.cell? ⟨b, 3, none⟩ = some (.slice VA vals.length vc)) (h4 : w.cell? ⟨b, 4, none⟩ = some (.slice none 0 0)) (h5 : w.cell? ⟨b, 5, none⟩ = some (.int .i64 1))
    (ht : txt.size ≤ 200) (hv : vals.length ≤ 8) (hV : Kd.C k24 w VA vals.length vals) :
    Calls Try.prog 53 #[.slice (some ⟨b, 0, none⟩) 1 1, .int .i64 12] w (CondPost (ER txt vals) w.heap.size w) := by
  have ht1 : decide ((txt.size : Int) > 200) = false := by simp; omega
  have hv8 : (vals.length : Int) ≤ 8 := by omega
  have HV := Aside0.mk hV
  clear hV
  go_enter Try.func53, Try.ntmps53
  go_wp2_with fail
  clear h0 h1 h2 h3 h4 h5
  go_loopw [6] (fun i wr => ∃ x : Int, i = .int .i64 x ∧ (0 ≤ x ∧ x ≤ vals.length) ∧ Aside0 (∀ j : Int, 0 ≤ j → j < x → VR (rd_T24 vals j)) ∧ Aside0 (Below w.heap.size w wr) ∧ Aside0 (wr.heap[w.heap.size]? = some (.cells (pieceCells 1 txt none 0 0 VA vals.length vc) 41 (0, 0)))) (fun i _ => vals.length - (intOf i).toNat)
  case atStart => exact ⟨0, rfl, ⟨by omega, by omega⟩, ⟨fun j h1 h2 => by omega⟩, ⟨(Below.refl _ _).alloc (Nat.le_refl _) _⟩, ⟨blk_new _ _⟩⟩
  case round =>
    obtain ⟨x, rfl, ⟨hx0, hxn⟩, HR, HB, HK⟩ := hrel
    have k0 : wr.cell? ⟨w.heap.size, 0, none⟩ = some (.int .i64 1) := by rw [blk_cell HK.out]; rfl
    have k1 : wr.cell? ⟨w.heap.size, 1, none⟩ = some (.string txt) := by rw [blk_cell HK.out]; rfl
    have k2 : wr.cell? ⟨w.heap.size, 2, none⟩ = some (.slice none 0 0) := by rw [blk_cell HK.out]; rfl
    have k3 : wr.cell? ⟨w.heap.size, 3, none⟩ = some (.slice VA vals.length vc) := by rw [blk_cell HK.out]; rfl
    by_cases hlt : x < vals.length
    · clear k0 k1 k2
      obtain ⟨ad, A3, c3, e, x0, x1, x2, x3, hl, hC⟩ := at_T24 HV.out x hx0 hlt
      cases e
      replace x0 := (HB.out.cell (World.block_lt_of_cell? w _ x0)).trans x0
      replace x1 := (HB.out.cell (World.block_lt_of_cell? w _ x1)).trans x1
      replace x2 := (HB.out.cell (World.block_lt_of_cell? w _ x2)).trans x2
      replace x3 := (HB.out.cell (World.block_lt_of_cell? w _ x3)).trans x3
      have HL := Aside0.mk hl
      have HC := Aside0.mk hC
      clear hl hC
      go_wp2_with fail
      refine (valueRight_any (rd_T24 vals x) A3 c3 _ HL.out (Kd.C_below HC.out HB.out)).mono ?_
      rintro e w2 ⟨r, rfl, hr, hb⟩
      have HR2 := Aside0.mk hr
      have HB2 := Aside0.mk (below_step HB.out hb)
      have HK2 := Aside0.mk (blk_below HK.out hb)
      clear hr hb x0 x1 x2 x3
      cases r with
      | false =>
        go_wp2_with fail
        go_ret
        exact ⟨false, rfl, fun h => (by cases h), HB2.out⟩
      | true =>
        go_wp2_with fail
        go_roundw
        case rel => exact ⟨x + 1, rfl, ⟨by omega, by omega⟩, ⟨fun j h1 h2 => by rcases (show j < x ∨ j = x from by omega) with h | h; exact HR.out j h1 h; subst h; exact HR2.out (by trivial)⟩, HB2, HK2⟩
        case measure => simp [intOf]; omega
    · obtain rfl : x = vals.length := by omega
      go_wp2_with fail
      refine wp_loop_rounds 1 ?_
      rw [rounds_succ]
      go_wp2_with fail
      go_ret
      exact ⟨true, rfl, fun _ => ⟨ht, hv, fun x hx => by
        obtain ⟨j, hj, rfl⟩ := List.getElem_of_mem hx
        simpa [rd_T24, List.getD_eq_getElem?_getD, List.getElem?_eq_getElem hj] using HR.out j (by omega) (by omega)⟩, HB.out⟩

/-- conditionRight at a block that is the piece. -/
theorem cond_eq_blk (b : Nat) (NA VA : Option Addr) (nc vc : Nat) (names : List ByteArray) (vals : List S24) (w : World) (hb : w.heap[b]? = some (.cells (pieceCells 2 ⟨#[]⟩ NA names.length nc VA vals.length vc) 41 (0, 0)))
    (hN : Kd.C Kd.string w NA names.length names) (hV : Kd.C k24 w VA vals.length vals) :
    Calls Try.prog 53 #[.slice (some ⟨b, 0, none⟩) 1 1, .int .i64 12] w (CondPost (CR names vals) w.heap.size w) := by
  have h0 : w.cell? ⟨b, 0, none⟩ = some (.int .i64 2) := by rw [blk_cell hb]; rfl
  have h1 : w.cell? ⟨b, 1, none⟩ = some (.string ⟨#[]⟩) := by rw [blk_cell hb]; rfl
  have h2 : w.cell? ⟨b, 2, none⟩ = some (.slice NA names.length nc) := by rw [blk_cell hb]; rfl
  have h3 : w.cell? ⟨b, 3, none⟩ = some (.slice VA vals.length vc) := by rw [blk_cell hb]; rfl
  have h4 : w.cell? ⟨b, 4, none⟩ = some (.slice none 0 0) := by rw [blk_cell hb]; rfl
  have h5 : w.cell? ⟨b, 5, none⟩ = some (.int .i64 1) := by rw [blk_cell hb]; rfl
  by_cases hn : names.length ≤ 8 ∧ vals.length ≤ 8
  · exact cond_eq b NA VA nc vc names vals w h0 h1 h2 h3 h4 h5 hn.1 hn.2 hN hV
  · exact cond_far b NA VA _ nc _ vc ⟨#[]⟩ 2 w h0 h1 h2 h3 h4 h5 (by decide) hn _

theorem cond_text_blk (b : Nat) (VA : Option Addr) (vc : Nat) (txt : ByteArray) (vals : List S24) (w : World) (hb : w.heap[b]? = some (.cells (pieceCells 1 txt none 0 0 VA vals.length vc) 41 (0, 0))) (hV : Kd.C k24 w VA vals.length vals) :
    Calls Try.prog 53 #[.slice (some ⟨b, 0, none⟩) 1 1, .int .i64 12] w (CondPost (ER txt vals) w.heap.size w) := by
  have h0 : w.cell? ⟨b, 0, none⟩ = some (.int .i64 1) := by rw [blk_cell hb]; rfl
  have h1 : w.cell? ⟨b, 1, none⟩ = some (.string txt) := by rw [blk_cell hb]; rfl
  have h2 : w.cell? ⟨b, 2, none⟩ = some (.slice none 0 0) := by rw [blk_cell hb]; rfl
  have h3 : w.cell? ⟨b, 3, none⟩ = some (.slice VA vals.length vc) := by rw [blk_cell hb]; rfl
  have h4 : w.cell? ⟨b, 4, none⟩ = some (.slice none 0 0) := by rw [blk_cell hb]; rfl
  have h5 : w.cell? ⟨b, 5, none⟩ = some (.int .i64 1) := by rw [blk_cell hb]; rfl
  by_cases ht : txt.size ≤ 200
  · by_cases hv : vals.length ≤ 8
    · exact cond_text b VA vc txt vals w h0 h1 h2 h3 h4 h5 ht hv hV
    · exact cond_far b none VA _ 0 _ vc txt 1 w h0 h1 h2 h3 h4 h5 ht (by omega) _
  · exact cond_long b none VA _ 0 _ vc txt 1 w h0 h1 h2 h3 h4 h5 (by omega) _

/-- ConditionRight out of what conditionRight tells at the same block. -/
theorem condRight_of (b : Nat) (cs : Array Value) (w : World) (P : Prop) (hb : w.heap[b]? = some (.cells cs 41 (0, 0))) (hc4 : cs[4]? = some (.slice none 0 0))
    (h : ∀ w1 : World, Below w.heap.size w w1 → Calls Try.prog 53 #[.slice (some ⟨b, 0, none⟩) 1 1, .int .i64 12] w1 (CondPost P w1.heap.size w1)) :
    Calls Try.prog 29 #[.slice (some ⟨b, 0, none⟩) 1 1] w (CondPost P w.heap.size w) := by
  have HB := Aside0.mk hb
  have HH := Aside0.mk h
  have HC := Aside0.mk hc4
  clear hb h hc4
  go_enter Try.func29, Try.ntmps29
  go_wp2_with fail
  refine (budget_any _).mono ?_
  rintro e w1 ⟨rfl, rfl⟩
  go_wp2_with fail
  refine (lightParts_one b w.heap.size (by have := blk_lt HB.out; omega) _ ?_ ?_ ?_ w.heap.size (Nat.le_refl _)).mono ?_
  · rw [blk_cell (blk_alloc HB.out _)]; exact HC.out
  · rw [blk_cell (blk_new _ _)]; rfl
  · exact blk_frozen (blk_new _ _) _
  rintro e w1 ⟨rfl, hb1⟩
  have HB1 := Aside0.mk (((Below.refl w.heap.size w).alloc (Nat.le_refl _) (.cells #[.int .i64 2000] 3)).trans hb1)
  clear hb1
  go_wp2_with fail
  refine (HH.out _ HB1.out).mono ?_
  rintro e w2 ⟨r, rfl, hr, hb2⟩
  have HR := Aside0.mk hr
  have HB2 := Aside0.mk (below_step HB1.out hb2)
  clear hr hb2
  go_wp2_with fail
  go_ret
  exact ⟨r, rfl, HR.out, HB2.out⟩

theorem columns7_any (NA VA : Option Addr) (nc vc : Nat) (names : List ByteArray) (vals : List S24) (w : World) (hN : Kd.C Kd.string w NA names.length names) (hV : Kd.C k24 w VA vals.length vals) :
    Calls Try.prog 15 #[.slice NA names.length nc, .slice VA vals.length vc] w (CondPost (CR names vals) w.heap.size w) := by
  have HN := Aside0.mk hN
  have HV := Aside0.mk hV
  clear hN hV
  go_enter Try.func15, Try.ntmps15
  go_wp2_with fail
  refine (condRight_of w.heap.size (pieceCells 2 ⟨#[]⟩ NA names.length nc VA vals.length vc) _ (CR names vals) (blk_new _ _) rfl ?_).mono ?_
  · intro w1 hb
    have hb0 : Below w.heap.size w w1 := below_step ((Below.refl _ _).alloc (Nat.le_refl _) _) hb
    exact cond_eq_blk _ NA VA nc vc names vals w1 (blk_below (blk_new _ _) hb) (Kd.C_below HN.out hb0) (Kd.C_below HV.out hb0)
  rintro e w2 ⟨r, rfl, hr, hb2⟩
  have HR := Aside0.mk hr
  have HB2 := Aside0.mk (below_step ((Below.refl w.heap.size w).alloc (Nat.le_refl _) _) hb2)
  clear hr hb2
  go_wp2_with fail
  go_ret
  exact ⟨r, rfl, HR.out, HB2.out⟩

end Go.Proofs.Ytagandfneflcbaa
