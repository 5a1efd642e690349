/- The guard 'spec.ConditionRight' at one piece that is a comparison (kind 2) or a text (kind 1): where it says yes, the names and the values are as it asks. Conditions: the piece's cells lie in one row. -/
import Derived.Test.YtagandfneflcbaaA
import Derived.Test.YtagandfneflcbaaB
namespace Go.Proofs.Ytagandfneflcbaa
open Go.RowKit Go.Proofs.YtagandfneflcbaaW.PrintWords Go.Proofs.YtagandfneflcbaaW.PrintLast Go.Proofs.YtagandfneflcbaaW.PrintMore
open Go.Proofs.Ytagandfneflcbaa.PFnLt

/-- What the guard has looked at. -/
structure CR (names : List ByteArray) (vals : List S24) : Prop where
  n8 : names.length ≤ 8
  vn : vals.length = names.length
  vr : ∀ x, x ∈ vals → VR x
  pos : ∀ s, s ∈ names → 1 ≤ s.size ∧ s.size ≤ 40
  nd : names.Nodup

def CondPost (p : Prop) (B : Nat) (w : World) (e : Ending) (w' : World) : Prop := ∃ r, e = .returned (.bool r) ∧ (r = true → p) ∧ Below B w w'


theorem bytes_inj {a b : ByteArray} (h : a.data.toList = b.data.toList) : a = b := by
  cases a; cases b; congr; exact Array.toList_inj.mp h

theorem cr_of {names : List ByteArray} {vals : List S24} (hn : names.length ≤ 8) (hv : names.length = vals.length) (hr : ∀ j : Int, 0 ≤ j → j < vals.length → VR (rd_T24 vals j))
    (hs : ∀ j : Int, 0 ≤ j → j < names.length → 1 ≤ (rdOf ByteArray.empty names j).size ∧ (rdOf ByteArray.empty names j).size ≤ 40)
    (hd : ∀ j k : Int, 0 ≤ k → k < j → j < names.length → rdOf ByteArray.empty names k ≠ rdOf ByteArray.empty names j) : CR names vals where
  n8 := hn
  vn := hv.symm
  vr := by
    intro x hx
    obtain ⟨j, hj, rfl⟩ := List.getElem_of_mem hx
    simpa [rd_T24, List.getD_eq_getElem?_getD, List.getElem?_eq_getElem hj] using hr j (by omega) (by omega)
  pos := by
    intro x hx
    obtain ⟨j, hj, rfl⟩ := List.getElem_of_mem hx
    simpa [rdOf, List.getD_eq_getElem?_getD, List.getElem?_eq_getElem hj] using hs j (by omega) (by omega)
  nd := by
    rw [List.nodup_iff_pairwise_ne, List.pairwise_iff_getElem]
    intro i j hi hj hij
    simpa [rdOf, List.getD_eq_getElem?_getD, List.getElem?_eq_getElem hi, List.getElem?_eq_getElem hj] using hd j i (by omega) (by omega) (by omega)

/-- The cells of the one piece. -/
def pieceCells (kind : Int) (txt : ByteArray) (NA : Option Addr) (nn nc : Nat) (VA : Option Addr) (vn vc : Nat) : Array Value := #[.int .i64 kind, .string txt, .slice NA nn nc, .slice VA vn vc, .slice none 0 0, .int .i64 1]

set_option maxRecDepth 100000 in
set_option maxHeartbeats 2000000 in
theorem cond_far (b : Nat) (NA VA : Option Addr) (nn nc vn vc : Nat) (txt : ByteArray) (kind : Int) (w : World)
    (h0 : w.cell? ⟨b, 0, none⟩ = some (.int .i64 kind)) (h1 : w.cell? ⟨b, 1, none⟩ = some (.string txt)) (h2 : w.cell? ⟨b, 2, none⟩ = some (.slice NA nn nc)) (h3 : w.cell? ⟨b, 3, none⟩ = some (.slice VA vn vc)) (h4 : w.cell? ⟨b, 4, none⟩ = some (.slice none 0 0)) (h5 : w.cell? ⟨b, 5, none⟩ = some (.int .i64 1))
    (ht : txt.size ≤ 200) (hn : ¬ (nn ≤ 8 ∧ vn ≤ 8)) (P : Prop) :
    Calls Try.prog 53 #[.slice (some ⟨b, 0, none⟩) 1 1, .int .i64 12] w (CondPost P w.heap.size w) := by
  have t1 : decide ((txt.size : Int) > 200) = false := by simp; omega
  by_cases hn8 : 8 < (nn : Int)
  · clear hn
    go_enter Try.func53, Try.ntmps53
    go_wp2_with fail
    go_ret
    exact ⟨false, rfl, fun h => (by cases h), (Below.refl _ _).alloc (Nat.le_refl _) _⟩
  · have hv8 : 8 < (vn : Int) := by omega
    clear hn
    go_enter Try.func53, Try.ntmps53
    go_wp2_with fail
    go_ret
    exact ⟨false, rfl, fun h => (by cases h), (Below.refl _ _).alloc (Nat.le_refl _) _⟩

set_option maxRecDepth 100000 in
set_option maxHeartbeats 4000000 in
theorem cond_eq (b : Nat) (NA VA : Option Addr) (nc vc : Nat) (names : List ByteArray) (vals : List S24) (w : World)
    (h0 : w.cell? ⟨b, 0, none⟩ = some (.int .i64 2)) (h1 : w.cell? ⟨b, 1, none⟩ = some (.string ⟨#[]⟩)) (h2 : w.cell? ⟨b, 2, none⟩ = some (.slice NA names.length nc)) (h3 : w.cell? ⟨b, 3, none⟩ = some (.slice VA vals.length vc)) (h4 : w.cell? ⟨b, 4, none⟩ = some (.slice none 0 0)) (h5 : w.cell? ⟨b, 5, none⟩ = some (.int .i64 1))
    (hn : names.length ≤ 8) (hv : vals.length ≤ 8) (hN : Kd.C Kd.string w NA names.length names) (hV : Kd.C k24 w VA vals.length vals) :
    Calls Try.prog 53 #[.slice (some ⟨b, 0, none⟩) 1 1, .int .i64 12] w (CondPost (CR names vals) w.heap.size w) := by
  have hn8 : (names.length : Int) ≤ 8 := by omega
  have hv8 : (vals.length : Int) ≤ 8 := by omega
  have HN := Aside0.mk hN
  have HV := Aside0.mk hV
  clear hN hV
  go_enter Try.func53, Try.ntmps53
  go_wp2_with fail
  clear h0 h1 h2 h3 h4 h5
  go_loopw [6] (fun i wr => ∃ x : Int, i = .int .i64 x ∧ (0 ≤ x ∧ x ≤ vals.length) ∧ Aside0 (∀ j : Int, 0 ≤ j → j < x → VR (rd_T24 vals j)) ∧ Aside0 (Below w.heap.size w wr) ∧ Aside0 (wr.heap[w.heap.size]? = some (.cells (pieceCells 2 ⟨#[]⟩ NA names.length nc VA vals.length vc) 41 (0, 0)))) (fun i _ => vals.length - (intOf i).toNat)
  case atStart => exact ⟨0, rfl, ⟨by omega, by omega⟩, ⟨fun j h1 h2 => by omega⟩, ⟨(Below.refl _ _).alloc (Nat.le_refl _) _⟩, ⟨blk_new _ _⟩⟩
  case round =>
    obtain ⟨x, rfl, ⟨hx0, hxn⟩, HR, HB, HK⟩ := hrel
    have k0 : wr.cell? ⟨w.heap.size, 0, none⟩ = some (.int .i64 2) := by rw [blk_cell HK.out]; rfl
    have k1 : wr.cell? ⟨w.heap.size, 1, none⟩ = some (.string ⟨#[]⟩) := by rw [blk_cell HK.out]; rfl
    have k2 : wr.cell? ⟨w.heap.size, 2, none⟩ = some (.slice NA names.length nc) := by rw [blk_cell HK.out]; rfl
    have k3 : wr.cell? ⟨w.heap.size, 3, none⟩ = some (.slice VA vals.length vc) := by rw [blk_cell HK.out]; rfl
    by_cases hlt : x < vals.length
    · clear k0 k1 k2
      obtain ⟨ad, A3, c3, e, x0, x1, x2, x3, hl, hC⟩ := at_T24 HV.out x hx0 hlt
      cases e
      replace x0 := (HB.out.cell (World.block_lt_of_cell? w _ x0)).trans x0
      replace x1 := (HB.out.cell (World.block_lt_of_cell? w _ x1)).trans x1
      replace x2 := (HB.out.cell (World.block_lt_of_cell? w _ x2)).trans x2
      replace x3 := (HB.out.cell (World.block_lt_of_cell? w _ x3)).trans x3
      have HL := Aside0.mk hl
      have HC := Aside0.mk hC
      clear hl hC
      go_wp2_with fail
      refine (valueRight_any (rd_T24 vals x) A3 c3 _ HL.out (Kd.C_below HC.out HB.out)).mono ?_
      rintro e w2 ⟨r, rfl, hr, hb⟩
      have HR2 := Aside0.mk hr
      have HB2 := Aside0.mk (below_step HB.out hb)
      have HK2 := Aside0.mk (blk_below HK.out hb)
      clear hr hb x0 x1 x2 x3
      cases r with
      | false =>
        go_wp2_with fail
        go_ret
        exact ⟨false, rfl, fun h => (by cases h), HB2.out⟩
      | true =>
        go_wp2_with fail
        go_roundw
        case rel => exact ⟨x + 1, rfl, ⟨by omega, by omega⟩, ⟨fun j h1 h2 => by rcases (show j < x ∨ j = x from by omega) with h | h; exact HR.out j h1 h; subst h; exact HR2.out (by trivial)⟩, HB2, HK2⟩
        case measure => simp [intOf]; omega
    · obtain rfl : x = vals.length := by omega
      go_wp2_with fail
      refine wp_loop_rounds 1 ?_
      rw [rounds_succ]
      by_cases hnv : names.length = vals.length
      · have HNV := Aside0.mk hnv
        have hnb : ((names.length : Int) != vals.length) = false := by rw [bne_eq_false_iff_eq]; omega
        clear hnv
        go_wp2_with fail
        clear k0 k1 k3 hnb
        go_loopw [9] (fun i wr => ∃ x : Int, i = .int .i64 x ∧ (0 ≤ x ∧ x ≤ names.length) ∧ Aside0 (∀ j : Int, 0 ≤ j → j < x → 1 ≤ (rdOf ByteArray.empty names j).size ∧ (rdOf ByteArray.empty names j).size ≤ 40) ∧ Aside0 (∀ j k : Int, 0 ≤ k → k < j → j < x → rdOf ByteArray.empty names k ≠ rdOf ByteArray.empty names j) ∧ Aside0 (Below w.heap.size w wr) ∧ Aside0 (wr.heap[w.heap.size]? = some (.cells (pieceCells 2 ⟨#[]⟩ NA names.length nc VA vals.length vc) 41 (0, 0)))) (fun i _ => names.length - (intOf i).toNat)
        case atStart => exact ⟨0, rfl, ⟨by omega, by omega⟩, ⟨fun j h1 h2 => by omega⟩, ⟨fun j k h1 h2 h3 => by omega⟩, HB, HK⟩
        case round =>
          clear k2 HB HK hlt hx0 hxn
          obtain ⟨x, rfl, ⟨hx0, hxn⟩, HS, HD, HB, HK⟩ := hrel
          have k2 : wr.cell? ⟨w.heap.size, 2, none⟩ = some (.slice NA names.length nc) := by rw [blk_cell HK.out]; rfl
          by_cases hlt : x < names.length
          · obtain ⟨ad, e, x0⟩ := Kd.at_string HN.out x hx0 hlt
            cases e
            replace x0 := (HB.out.cell (World.block_lt_of_cell? w _ x0)).trans x0
            obtain ⟨s, hs⟩ : ∃ s, s = rdOf ByteArray.empty names x := ⟨_, rfl⟩
            rw [← hs] at x0
            have HSE := Aside0.mk hs
            clear hs
            by_cases hse : s.toList = []
            · have hse2 : s.toList.isEmpty = true := by rw [hse]; rfl
              go_wp2_with fail
              go_ret
              exact ⟨false, rfl, fun h => (by cases h), HB.out⟩
            by_cases hsl : (40 : Int) < s.size
            · have hse2 : s.toList.isEmpty = false := by simpa using hse
              go_wp2_with fail
              go_ret
              exact ⟨false, rfl, fun h => (by cases h), HB.out⟩
            have hse2 : s.toList.isEmpty = false := by simpa using hse
            have HSZ := Aside0.mk (show 1 ≤ s.size ∧ s.size ≤ 40 from ⟨by
              rcases Nat.eq_zero_or_pos s.size with h | h
              · exact absurd (by rw [ByteArray.toList_eq]; exact List.eq_nil_of_length_eq_zero h) hse
              · exact h, by omega⟩)
            go_wp2_with fail
            clear hse hse2 hsl k2
            go_loopw [10] (fun i wr => ∃ y : Int, i = .int .i64 y ∧ (0 ≤ y ∧ y ≤ x) ∧ Aside0 (∀ k : Int, 0 ≤ k → k < y → rdOf ByteArray.empty names k ≠ s) ∧ Aside0 (Below w.heap.size w wr) ∧ Aside0 (wr.heap[w.heap.size]? = some (.cells (pieceCells 2 ⟨#[]⟩ (some ad) names.length nc VA vals.length vc) 41 (0, 0)))) (fun i _ => names.length - (intOf i).toNat)
            case atStart => exact ⟨0, rfl, ⟨by omega, by omega⟩, ⟨fun j h1 h2 => by omega⟩, HB, HK⟩
            case round =>
              clear HB HK x0
              obtain ⟨y, rfl, ⟨hy0, hyx⟩, HY, HB, HK⟩ := hrel
              have k2 : wr.cell? ⟨w.heap.size, 2, none⟩ = some (.slice (some ad) names.length nc) := by rw [blk_cell HK.out]; rfl
              by_cases hly : y < x
              · obtain ⟨ad1, e, x0⟩ := Kd.at_string HN.out x hx0 hlt
                obtain rfl := Option.some.inj e
                obtain ⟨ad2, e2, y0⟩ := Kd.at_string HN.out y hy0 (by omega)
                obtain rfl := Option.some.inj e2
                replace x0 := (HB.out.cell (World.block_lt_of_cell? w _ x0)).trans x0
                replace y0 := (HB.out.cell (World.block_lt_of_cell? w _ y0)).trans y0
                rw [← HSE.out] at x0
                obtain ⟨t, ht⟩ : ∃ t, t = rdOf ByteArray.empty names y := ⟨_, rfl⟩
                rw [← ht] at y0
                have HTE := Aside0.mk ht
                clear ht
                have hyn : y < names.length := by omega
                by_cases hts : t = s
                · obtain rfl := hts
                  go_wp2_with fail
                  go_quiet (fail)
                  go_wp2_with fail
                  go_ret
                  exact ⟨false, rfl, fun h => (by cases h), pw_below_drewN HB.out _⟩
                · have hts1 : (t.toList == s.toList) = false := by
                    rw [beq_eq_false_iff_ne]
                    intro h
                    rw [ByteArray.toList_eq, ByteArray.toList_eq] at h
                    exact hts (bytes_inj h)
                  have HTS := Aside0.mk hts
                  clear hts
                  go_wp2_with fail
                  go_quiet (fail)
                  go_wp2_with fail
                  go_roundw
                  case rel => exact ⟨y + 1, rfl, ⟨by omega, by omega⟩, ⟨fun k h1 h2 => by rcases (show k < y ∨ k = y from by omega) with h | h; exact HY.out k h1 h; subst h; rw [← HTE.out]; exact HTS.out⟩, ⟨pw_below_drewN HB.out _⟩, ⟨blk_drewN HK.out _⟩⟩
                  case measure => simp [intOf]; omega
              · obtain rfl : y = x := by omega
                go_wp2_with fail
                go_roundw
                case rel => exact ⟨y + 1, rfl, ⟨by omega, by omega⟩, ⟨fun j h1 h2 => by rcases (show j < y ∨ j = y from by omega) with h | h; exact HS.out j h1 h; subst h; rw [← HSE.out]; exact HSZ.out⟩, ⟨fun j k h1 h2 h3 => by rcases (show j < y ∨ j = y from by omega) with h | h; exact HD.out j k h1 h2 h; subst h; rw [← HSE.out]; exact HY.out k h1 h2⟩, HB, HK⟩
                case measure => simp [intOf]; omega
          · obtain rfl : x = names.length := by omega
            go_wp2_with fail
            go_ret
            exact ⟨true, rfl, fun _ => cr_of hn HNV.out HR.out HS.out HD.out, HB.out⟩
      · have hnb : ((names.length : Int) != vals.length) = true := by rw [bne_iff_ne]; omega
        clear hnv
        go_wp2_with fail
        go_ret
        exact ⟨false, rfl, fun h => (by cases h), HB.out⟩

end Go.Proofs.Ytagandfneflcbaa
