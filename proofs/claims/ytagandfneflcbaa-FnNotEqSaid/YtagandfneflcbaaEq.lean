/- The laws of FnEq and FnNotEq, walked. Conditions: names and values lie in memory as their data say. -/
import Derived.Test.YtagandfneflcbaaE4
import Derived.Test.YtagandfneflcbaaE2f
import Derived.Test.YtagandfneflcbaaE2t
import Derived.Test.YtagandfneflcbaaE2n
import Derived.Test.YtagandfneflcbaaX
namespace Go.Proofs.Ytagandfneflcbaa
open Go.RowKit Go.Proofs.YtagandfneflcbaaW.PrintWords Go.Proofs.YtagandfneflcbaaW.PrintLast Go.Proofs.YtagandfneflcbaaW.PrintMore
open Go.Proofs.Ytagandfneflcbaa.PFnLt
open Go.Maps

/-- The condition of all columns: of none, it is always so. -/
def eqAll (neg : Bool) (names : List ByteArray) (vals : List S24) (r : List Int) : Pc := if names.length = 0 then (⟨#[40, 49, 61, 49, 41]⟩, [], 1) else colsN (eqV neg) (ordG names vals r) names.length
theorem colsE_len {neg : Bool} {names : List ByteArray} {vals : List S24} {r : List Int} (hcr : CR names vals) (ho : OrdOk names r) : ∀ n, n ≤ names.length → (colsN (eqV neg) (ordG names vals r) n).2.1.length ≤ 12 * n ∧ ∀ y, y ∈ (colsN (eqV neg) (ordG names vals r) n).2.1 → VR y
  | 0, _ => ⟨by simp [colsN], fun y hy => by simp [colsN] at hy⟩
  | n + 1, h => by
    obtain ⟨i1, i2⟩ := colsE_len (neg := neg) hcr ho n (by omega)
    obtain ⟨a0, a1⟩ := ho.rng n (by have := ho.len; omega)
    have hx := hcr.vr _ (ord_val hcr a0 a1)
    have hb := eqArgs_back neg (ordG names vals r n).1 hx
    have hl := eqArgs_len hx
    have h1 : (eqV neg (ordG names vals r n).1 (ordG names vals r n).2).2.1.length ≤ 12 := by
      rw [show (eqV neg (ordG names vals r n).1 (ordG names vals r n).2).2.1 = (eqArgs (rd_T24 vals (YtagandfneflcbaaW.PrintWords.rd r n))).map toS0 from hb.symm, List.length_map]
      exact hl
    refine ⟨?_, fun y hy => ?_⟩
    · simp only [colsN, List.length_append]
      omega
    · simp only [colsN, List.mem_append] at hy
      rcases hy with hy | hy
      · exact i2 y hy
      · have hx2 : VR (ordG names vals r n).2 := hx
        unfold eqV at hy
        split at hy
        · simp at hy
        · split at hy
          · cases hx2' : (ordG names vals r n).2 with
            | mk a b c l =>
              rw [hx2'] at hx2 hy
              cases hx2 with
              | one h => cases h <;> simp at hy
              | list l hl h => exact .one (h y hy)
          · obtain rfl : y = (ordG names vals r n).2 := by simpa using hy
            exact hx2

/-- What a condition tells that is never refused. -/
def EqPost2 (p : Pc) (w : World) (e : Ending) (w' : World) : Prop := ∃ v, e = .returned (.tuple #[.string p.1, v, .nilIface]) ∧ (∃ A c, ∃ l : List I0, v = .slice A l.length c ∧ kI0.C w' A l.length l ∧ l.map toS0 = p.2.1) ∧ Below w.heap.size w w'
theorem eqSql0_false (gs : List Value) (b : Nat) (w : World) (hgs : gs = []) (hm : w.ownsMap Try.prog 9 RH b 0 (tab [] gs)) :
    Calls Try.prog 65 #[.map (some b), .bool false] w (EqPost2 (⟨#[40, 49, 61, 49, 41]⟩, [], 1) w) := by
  have HM := Aside0.mk hm
  have HSZ := Aside0.mk (show Maps.size (tab [] gs) = 0 by rw [hgs]; rfl)
  clear hm hgs
  go_enter Try.func65, Try.ntmps65
  go_wp2_with (first | (at_len; refine wpList_len_own _ rfl _ 71 rfl 9 20 Try.underlying71 RH b 0 (tab [] gs) rfl HM.out ?_; rw [HSZ.out]))
  go_ret3
  exact ⟨_, rfl, ⟨none, 0, [], rfl, ⟨rfl, by decide, fun h => by cases h⟩, rfl⟩, Below.refl _ _⟩
theorem eqSqlA_false (names : List ByteArray) (vals : List S24) (hcr : CR names vals) (r : List Int) (hgood : Good names r names.length) (gs : List Value) (b : Nat) (w : World) (hm : EqOk names vals b gs w) :
    Calls Try.prog 65 #[.map (some b), .bool false] w (EqPost2 (eqAll false names vals r) w) := by
  by_cases h0 : names.length = 0
  · unfold eqAll
    rw [if_pos h0]
    obtain rfl := List.eq_nil_of_length_eq_zero h0
    obtain rfl := List.eq_nil_of_length_eq_zero hm.len
    exact eqSql0_false [] b w rfl hm.own
  · unfold eqAll
    rw [if_neg h0]
    refine (eqSql_false names vals hcr (by omega) r hgood gs b w hm).mono ?_
    rintro e w' ⟨A, c, l, rfl, hC, hl, hb⟩
    exact ⟨_, rfl, ⟨A, c, l, rfl, hC, hl⟩, hb⟩
theorem eqSql0_true (gs : List Value) (b : Nat) (w : World) (hgs : gs = []) (hm : w.ownsMap Try.prog 9 RH b 0 (tab [] gs)) :
    Calls Try.prog 65 #[.map (some b), .bool true] w (EqPost2 (⟨#[40, 49, 61, 49, 41]⟩, [], 1) w) := by
  have HM := Aside0.mk hm
  have HSZ := Aside0.mk (show Maps.size (tab [] gs) = 0 by rw [hgs]; rfl)
  clear hm hgs
  go_enter Try.func65, Try.ntmps65
  go_wp2_with (first | (at_len; refine wpList_len_own _ rfl _ 71 rfl 9 20 Try.underlying71 RH b 0 (tab [] gs) rfl HM.out ?_; rw [HSZ.out]))
  go_ret3
  exact ⟨_, rfl, ⟨none, 0, [], rfl, ⟨rfl, by decide, fun h => by cases h⟩, rfl⟩, Below.refl _ _⟩
theorem eqSqlA_true (names : List ByteArray) (vals : List S24) (hcr : CR names vals) (r : List Int) (hgood : Good names r names.length) (gs : List Value) (b : Nat) (w : World) (hm : EqOk names vals b gs w) :
    Calls Try.prog 65 #[.map (some b), .bool true] w (EqPost2 (eqAll true names vals r) w) := by
  by_cases h0 : names.length = 0
  · unfold eqAll
    rw [if_pos h0]
    obtain rfl := List.eq_nil_of_length_eq_zero h0
    obtain rfl := List.eq_nil_of_length_eq_zero hm.len
    exact eqSql0_true [] b w rfl hm.own
  · unfold eqAll
    rw [if_neg h0]
    refine (eqSql_true names vals hcr (by omega) r hgood gs b w hm).mono ?_
    rintro e w' ⟨A, c, l, rfl, hC, hl, hb⟩
    exact ⟨_, rfl, ⟨A, c, l, rfl, hC, hl⟩, hb⟩
theorem eqTo_49 (names : List ByteArray) (vals : List S24) (hcr : CR names vals) (r : List Int) (hgood : Good names r names.length) (gs : List Value) (b : Nat) (w : World) (hm : EqOk names vals b gs w) :
    Calls Try.prog 49 #[.map (some b)] w (EqPost2 (eqAll false names vals r) w) := by
  have H := Aside0.mk (eqSqlA_false names vals hcr r hgood gs b w hm)
  obtain ⟨p, hp⟩ : ∃ p, p = eqAll false names vals r := ⟨_, rfl⟩
  rw [← hp] at H ⊢
  clear hm hcr hgood hp
  go_enter Try.func49, Try.ntmps49
  go_wp2_with fail
  refine H.out.mono ?_
  rintro e w2 ⟨v, rfl, hv, hb⟩
  have HB := Aside0.mk hb
  have HV := Aside0.mk hv
  clear hb hv
  go_wp2_with fail
  go_ret3
  exact ⟨v, rfl, HV.out, HB.out⟩
theorem eqTo_50 (names : List ByteArray) (vals : List S24) (hcr : CR names vals) (r : List Int) (hgood : Good names r names.length) (gs : List Value) (b : Nat) (w : World) (hm : EqOk names vals b gs w) :
    Calls Try.prog 50 #[.map (some b)] w (EqPost2 (eqAll true names vals r) w) := by
  have H := Aside0.mk (eqSqlA_true names vals hcr r hgood gs b w hm)
  obtain ⟨p, hp⟩ : ∃ p, p = eqAll true names vals r := ⟨_, rfl⟩
  rw [← hp] at H ⊢
  clear hm hcr hgood hp
  go_enter Try.func50, Try.ntmps50
  go_wp2_with fail
  refine H.out.mono ?_
  rintro e w2 ⟨v, rfl, hv, hb⟩
  have HB := Aside0.mk hb
  have HV := Aside0.mk hv
  clear hb hv
  go_wp2_with fail
  go_ret3
  exact ⟨v, rfl, HV.out, HB.out⟩
set_option maxRecDepth 100000 in
set_option maxHeartbeats 4000000 in
theorem mapOf_27 (names : List ByteArray) (vals : List S24) (hcr : CR names vals) (r : List Int) (hgood : Good names r names.length) (NA VA : Option Addr) (nc vc : Nat) (w : World) (hN : Kd.string.C w NA names.length names) (hV : k24.C w VA vals.length vals) (p : Pc) (hp : p = eqAll false names vals r) :
    Calls Try.prog 27 #[.slice NA names.length nc, .slice VA vals.length vc] w (OfPost p w) := by
  have HT := Aside0.mk (tableOf_any names vals hcr NA VA nc vc w hN hV)
  have HR := Aside0.mk hcr
  have HG := Aside0.mk hgood
  have HP := Aside0.mk hp
  have H1 := Aside0.mk (show p.2.2 = 1 by
    rw [hp]; unfold eqAll
    split
    · rfl
    · rw [colsE_ok])
  clear hN hV hcr hgood hp
  go_enter Try.func27, Try.ntmps27
  go_wp2_with fail
  refine HT.out.mono ?_
  rintro e w1 ⟨b, gs, rfl, hgl, hown, hK, hbb, hb⟩
  have HB := Aside0.mk hb
  have HM := Aside0.mk (show EqOk names vals b gs w1 from ⟨hgl, hown, hK⟩)
  clear hgl hown hK hbb hb
  go_wp2_with fail
  refine (eqTo_49 names vals HR.out r HG.out gs b _ HM.out).mono ?_
  rw [← HP.out]
  rintro e w2 ⟨v0, rfl, ⟨A1, c1, l, rfl, hC1, hl⟩, hb⟩
  have HB2 := Aside0.mk (below_step HB.out hb)
  have HC1 := Aside0.mk hC1
  have HL := Aside0.mk hl
  have hlen : l.length ≤ 1000 := by
    have h2 := congrArg List.length hl
    rw [List.length_map, HP.out] at h2
    have h4 := (colsE_len (neg := false) HR.out (good_ok HG.out) names.length (Nat.le_refl _)).1
    have := HR.out.n8
    unfold eqAll at h2
    split at h2
    · rw [h2]; simp
    · omega
  have HLEN := Aside0.mk hlen
  clear hb hC1 hl hlen
  go_wp2_with fail
  refine (answer_ok p.1 (.slice A1 l.length c1) (l.map toS0) _ (valuesOf_flat l HLEN.out A1 c1 _ HC1.out)).mono ?_
  rintro e w3 ⟨v, rfl, hr, hb⟩
  rw [HL.out] at hr
  have HR3 := Aside0.mk hr
  have HB3 := Aside0.mk (below_step HB2.out hb)
  have HS3 := Aside0.mk HB2.out.size
  clear hr hb
  go_wp2_with fail
  go_ret3
  exact ⟨.inr ⟨H1.out, v, rfl, Kd.R_lower HR3.out HS3.out⟩, HB3.out⟩
theorem colsA_false (names : List ByteArray) (vals : List S24) (hcr : CR names vals) (fu : Nat) (r : List Int) (hr : spec_ByName.f fu names = some r) (ho : OrdOk names r)
    (NA VA : Option Addr) (nc vc : Nat) (hnc : names.length ≤ nc) (w : World) (hN : Kd.C Kd.string w NA names.length names) (hV : Kd.C k24 w VA vals.length vals) :
    Calls Try.prog 16 #[.int .i64 2, .slice NA names.length nc, .slice VA vals.length vc] w (PieceP (fun k => k < w.heap.size) (eqAll false names vals r) w) := by
  unfold eqAll
  by_cases h0 : names.length = 0
  · rw [if_pos h0, h0]
    exact columnsE_none_false NA VA nc vc vals.length w
  · rw [if_neg h0]
    exact columnsE_false names vals hcr (by simp; intro h; exact h0 (by rw [h]; rfl)) fu r hr ho NA VA nc vc hnc w hN hV
set_option maxRecDepth 100000 in
set_option maxHeartbeats 4000000 in
theorem mapOf_28 (names : List ByteArray) (vals : List S24) (hcr : CR names vals) (r : List Int) (hgood : Good names r names.length) (NA VA : Option Addr) (nc vc : Nat) (w : World) (hN : Kd.string.C w NA names.length names) (hV : k24.C w VA vals.length vals) (p : Pc) (hp : p = eqAll true names vals r) :
    Calls Try.prog 28 #[.slice NA names.length nc, .slice VA vals.length vc] w (OfPost p w) := by
  have HT := Aside0.mk (tableOf_any names vals hcr NA VA nc vc w hN hV)
  have HR := Aside0.mk hcr
  have HG := Aside0.mk hgood
  have HP := Aside0.mk hp
  have H1 := Aside0.mk (show p.2.2 = 1 by
    rw [hp]; unfold eqAll
    split
    · rfl
    · rw [colsE_ok])
  clear hN hV hcr hgood hp
  go_enter Try.func28, Try.ntmps28
  go_wp2_with fail
  refine HT.out.mono ?_
  rintro e w1 ⟨b, gs, rfl, hgl, hown, hK, hbb, hb⟩
  have HB := Aside0.mk hb
  have HM := Aside0.mk (show EqOk names vals b gs w1 from ⟨hgl, hown, hK⟩)
  clear hgl hown hK hbb hb
  go_wp2_with fail
  refine (eqTo_50 names vals HR.out r HG.out gs b _ HM.out).mono ?_
  rw [← HP.out]
  rintro e w2 ⟨v0, rfl, ⟨A1, c1, l, rfl, hC1, hl⟩, hb⟩
  have HB2 := Aside0.mk (below_step HB.out hb)
  have HC1 := Aside0.mk hC1
  have HL := Aside0.mk hl
  have hlen : l.length ≤ 1000 := by
    have h2 := congrArg List.length hl
    rw [List.length_map, HP.out] at h2
    have h4 := (colsE_len (neg := true) HR.out (good_ok HG.out) names.length (Nat.le_refl _)).1
    have := HR.out.n8
    unfold eqAll at h2
    split at h2
    · rw [h2]; simp
    · omega
  have HLEN := Aside0.mk hlen
  clear hb hC1 hl hlen
  go_wp2_with fail
  refine (answer_ok p.1 (.slice A1 l.length c1) (l.map toS0) _ (valuesOf_flat l HLEN.out A1 c1 _ HC1.out)).mono ?_
  rintro e w3 ⟨v, rfl, hr, hb⟩
  rw [HL.out] at hr
  have HR3 := Aside0.mk hr
  have HB3 := Aside0.mk (below_step HB2.out hb)
  have HS3 := Aside0.mk HB2.out.size
  clear hr hb
  go_wp2_with fail
  go_ret3
  exact ⟨.inr ⟨H1.out, v, rfl, Kd.R_lower HR3.out HS3.out⟩, HB3.out⟩
theorem colsA_true (names : List ByteArray) (vals : List S24) (hcr : CR names vals) (fu : Nat) (r : List Int) (hr : spec_ByName.f fu names = some r) (ho : OrdOk names r)
    (NA VA : Option Addr) (nc vc : Nat) (hnc : names.length ≤ nc) (w : World) (hN : Kd.C Kd.string w NA names.length names) (hV : Kd.C k24 w VA vals.length vals) :
    Calls Try.prog 16 #[.int .i64 3, .slice NA names.length nc, .slice VA vals.length vc] w (PieceP (fun k => k < w.heap.size) (eqAll true names vals r) w) := by
  unfold eqAll
  by_cases h0 : names.length = 0
  · rw [if_pos h0, h0]
    exact columnsE_none_true NA VA nc vc vals.length w
  · rw [if_neg h0]
    exact columnsE_true names vals hcr (by simp; intro h; exact h0 (by rw [h]; rfl)) fu r hr ho NA VA nc vc hnc w hN hV
set_option maxRecDepth 100000 in
set_option maxHeartbeats 4000000 in
theorem law_11 (names : List ByteArray) (vals : List S24) (NA VA : Option Addr) (nc vc : Nat) (hnc : names.length ≤ nc) (w : World) (hN : Kd.string.C w NA names.length names) (hV : k24.C w VA vals.length vals) :
    Calls Try.prog 11 #[.slice NA names.length nc, .slice VA vals.length vc] w (SamePost w) := by
  have HN := Aside0.mk hN
  have HV := Aside0.mk hV
  have hvl := hV.2.1
  clear hN hV
  go_enter Try.func11, Try.ntmps11
  go_wp2_with fail
  refine (fits1_any names NA nc _ HN.out).mono ?_
  rintro e w1 ⟨b1, rfl, hb⟩
  have HB1 := Aside0.mk hb
  clear hb
  by_cases hv2 : (2147483647 : Int) < vals.length
  · cases b1 <;>
    · go_wp2_with fail
      go_ret
      exact ⟨rfl, HB1.out⟩
  cases b1 with
  | false =>
    go_wp2_with fail
    go_ret
    exact ⟨rfl, HB1.out⟩
  | true =>
    go_wp2_with fail
    refine (columns7_any NA VA nc vc names vals _ (Kd.C_below HN.out HB1.out) (Kd.C_below HV.out HB1.out)).mono ?_
    rintro e w2 ⟨b2, rfl, hr, hb⟩
    have HB2 := Aside0.mk (below_step HB1.out hb)
    clear hb
    cases b2 with
    | false =>
      go_wp2_with fail
      go_ret
      exact ⟨rfl, HB2.out⟩
    | true =>
      have HCR := Aside0.mk (hr rfl)
      clear hr
      obtain ⟨fu, r, hfr, hgd⟩ := byName_any names HCR.out.n8
      have HGD := Aside0.mk hgd
      have HFR := Aside0.mk hfr
      clear hgd hfr
      go_wp2_with fail
      refine (colsA_false names vals HCR.out fu r HFR.out (good_ok HGD.out) NA VA nc vc hnc _ (Kd.C_below HN.out HB2.out) (Kd.C_below HV.out HB2.out)).mono ?_
      obtain ⟨p, hp⟩ : ∃ p, p = eqAll false names vals r := ⟨_, rfl⟩
      rw [← hp]
      have HP := Aside0.mk hp
      clear hp
      rintro e w3 ⟨A1, d1, rfl, hV3, hb⟩
      have HB3 := Aside0.mk (below_step HB2.out hb)
      have HV3 := Aside0.mk (Kd.V_reads' hV3).2.2
      clear hb hV3
      have hn8 : names.length ≤ 8 := HCR.out.n8
      have hv8 : vals.length ≤ 8 := by rw [HCR.out.vn]; exact hn8
      have HB4 := Aside0.mk (show Below w3.heap.size w3 ((w3.alloc (Obj.cells #[Value.string p.1, Value.slice A1 p.2.1.length d1, Value.int IntKind.i64 p.2.2] 30)).alloc (Obj.cells #[] 9)) from ((Below.refl _ _).alloc (Nat.le_refl _) _).alloc (by simp) _)
      have HR4 := Aside0.mk (show Kd.string.R 9 ((w3.alloc (Obj.cells #[Value.string p.1, Value.slice A1 p.2.1.length d1, Value.int IntKind.i64 p.2.2] 30)).alloc (Obj.cells #[] 9)) w3.heap.size (fun _ => True) (.slice (some ⟨w3.heap.size + 1, 0, none⟩) 0 0) [] from ⟨fun _ _ => trivial, [], by
        have h1 := World.ownsRow_made (base := w3.heap.size) (e := 9) (size := 1) (w3.alloc (Obj.cells #[Value.string p.1, Value.slice A1 p.2.1.length d1, Value.int IntKind.i64 p.2.2] 30)) #[] 0 (by simp) (by decide) rfl
        have h2 : ((w3.alloc (Obj.cells #[Value.string p.1, Value.slice A1 p.2.1.length d1, Value.int IntKind.i64 p.2.2] 30)).alloc (Obj.cells #[] 9)).ownsRow w3.heap.size 9 1 (.slice (some ⟨w3.heap.size + 1, 0, none⟩) 0 0) 0 [] := by simpa using h1
        exact h2, rfl, fun j p hj => by simp at hj⟩)
      have HO4 := Aside0.mk (show ((w3.alloc (Obj.cells #[Value.string p.1, Value.slice A1 p.2.1.length d1, Value.int IntKind.i64 p.2.2] 30)).alloc (Obj.cells #[] 9)).heap[w3.heap.size]? = some (Obj.cells #[Value.string p.1, Value.slice A1 p.2.1.length d1, Value.int IntKind.i64 p.2.2] 30 (0, 0)) from blk_alloc (blk_new _ _) _)
      go_wp2_with (first | ((with_reducible refine gate_builtin (b := .append) (xs := #[.tmp 25, .tmp 26]) rfl ?_); at_builtin; go_loud (refine Kd.R_append_row Value.string ByteArray.empty (h1 := fun _ => rfl) (w0 := w3) w3.heap.size rfl (.tmp 25) (.tmp 26) 27 9 (.string ⟨#[]⟩) 16 rfl Try.underlying27 info9 rfl (by decide) (.slice (some ⟨w3.heap.size + 1, 0, none⟩) 0 0) [] names NA names.length nc (fun _ => True) rfl rfl (fun _ _ => trivial) HR4.out (Kd.C_below HN.out (below_step HB3.out HB4.out)) HB4.out HB4.out.size (by simp; omega) ?_; intro v1 w4 ho hb hg hat; have HO5 := Aside0.mk (blk_grown HO4.out hg (by simp [Value.ownBlock])); have HR5 := Aside0.mk ho; have HB5 := Aside0.mk hb; clear ho hb hg hat; have HB6 := Aside0.mk (HB5.out.alloc HB5.out.size (Obj.cells #[] 24)); have HR6 := Aside0.mk (made24 w4 w3.heap.size HB5.out.size); have HO6 := Aside0.mk (blk_alloc HO5.out (Obj.cells #[] 24)); have HR7 := Aside0.mk (Kd.R_below HR5.out ((Below.refl w4.heap.size w4).alloc (Nat.le_refl _) (Obj.cells #[] 24))); have HZ4 := Aside0.mk HB5.out.size; have HZ5 := Aside0.mk (blk_lt HO5.out))) | ((with_reducible refine gate_builtin (b := .append) (xs := #[.tmp 28, .tmp 29]) rfl ?_); at_builtin; go_loud (refine Kd.N_append_rows k24 (w0 := w3) w3.heap.size rfl (.tmp 28) (.tmp 29) 22 24 (.agg #[(.int .i64 0), (.int .i64 0), (.string ⟨#[]⟩), (.slice none 0 0)]) 56 rfl Try.underlying22 info24 rfl (by decide) (by decide) (.slice (some ⟨w4.heap.size, 0, none⟩) 0 0) [] vals VA vals.length vc (fun _ => True) (fun k => k < w.heap.size) rfl rfl (Kd.R_N HR6.out) (Kd.F_below (Kd.C_F k24_heap HV.out) (below_step HB3.out HB6.out)) (fun k hk => ⟨trivial, by have := HZ4.out; have := HB3.out.size; simp [Value.ownBlock]; omega⟩) (fun _ _ => trivial) HB6.out HB6.out.size (by simp; omega) ?_; intro v2 w5 ho hb hg hat; have HN7 := Aside0.mk ho; have HB7 := Aside0.mk hb; have HO7 := Aside0.mk (blk_grown HO6.out hg (by have := HZ5.out; simp [Value.ownBlock]; omega)); have HR8 := Aside0.mk (Kd.R_grown2 HR7.out rfl hg (apart_of HR6.out HR7.out (by decide))); clear ho hb hg hat)))
      obtain ⟨A8, c8, rfl, _, hC8⟩ := Kd.R_reads HR8.out
      have hV8 := Kd.N_V (base' := 0) HN7.out
      obtain ⟨A9, c9, rfl⟩ := Kd.V_slice hV8
      have hC9 := (Kd.V_reads' hV8).2.2
      rw [List.nil_append] at hC8 hC9
      simp only [List.nil_append]
      refine (mapOf_27 names vals HCR.out r HGD.out A8 A9 c8 c9 _ hC8 hC9 p HP.out).mono ?_
      clear hV8 hC8 hC9
      rintro e w6 ⟨hor, hb⟩
      have B6 := blk_below HO7.out hb
      have b0 : w6.cell? ⟨w3.heap.size, 0, none⟩ = some (.string p.1) := (blk_cell B6 0).trans rfl
      have b1 : w6.cell? ⟨w3.heap.size, 1, none⟩ = some (.slice A1 p.2.1.length d1) := (blk_cell B6 1).trans rfl
      have b2 : w6.cell? ⟨w3.heap.size, 2, none⟩ = some (.int .i64 p.2.2) := (blk_cell B6 2).trans rfl
      have HB8 := Aside0.mk (below_step HB3.out (below_step HB7.out hb))
      have HV8 := Aside0.mk (Kd.C_below HV3.out (below_step HB7.out hb))
      clear hb B6
      rcases hor with ⟨hz, rfl⟩ | ⟨hz, v, rfl, hr⟩
      · go_wp2_with fail
        refine (told7_no _ _ _ _ _ _ _).mono ?_
        rintro e w7 ⟨rfl, hb⟩
        have HB9 := Aside0.mk (below_step HB8.out hb)
        clear hb hz b0 b1 b2
        go_wp2_with fail
        go_ret
        exact ⟨rfl, HB9.out⟩
      · obtain ⟨A10, d10, rfl, _, hC2⟩ := Kd.R_reads hr
        have HC2 := Aside0.mk hC2
        clear hr hC2
        go_wp2_with fail
        refine (told7_yes _ _ _ _ _ _ _ _ (fun w1 hb => sameValues_any p.2.1 (fun y hy => ?_) ?_ _ _ _ _ w1 (Kd.C_below HC2.out hb) (Kd.C_below HV8.out hb))).mono ?_
        · rw [HP.out] at hy
          unfold eqAll at hy
          split at hy
          · simp at hy
          · exact (colsE_len (neg := false) HCR.out (good_ok HGD.out) names.length (Nat.le_refl _)).2 y hy
        · rw [HP.out]
          have := (colsE_len (neg := false) HCR.out (good_ok HGD.out) names.length (Nat.le_refl _)).1
          unfold eqAll
          split
          · simp
          · omega
        rintro e w7 ⟨rfl, hb⟩
        have HB9 := Aside0.mk (below_step HB8.out hb)
        clear hb hz b0 b1 b2
        go_wp2_with fail
        go_ret
        exact ⟨rfl, HB9.out⟩
set_option maxRecDepth 100000 in
set_option maxHeartbeats 4000000 in
theorem law_12 (names : List ByteArray) (vals : List S24) (NA VA : Option Addr) (nc vc : Nat) (hnc : names.length ≤ nc) (w : World) (hN : Kd.string.C w NA names.length names) (hV : k24.C w VA vals.length vals) :
    Calls Try.prog 12 #[.slice NA names.length nc, .slice VA vals.length vc] w (SamePost w) := by
  have HN := Aside0.mk hN
  have HV := Aside0.mk hV
  have hvl := hV.2.1
  clear hN hV
  go_enter Try.func12, Try.ntmps12
  go_wp2_with fail
  refine (fits1_any names NA nc _ HN.out).mono ?_
  rintro e w1 ⟨b1, rfl, hb⟩
  have HB1 := Aside0.mk hb
  clear hb
  by_cases hv2 : (2147483647 : Int) < vals.length
  · cases b1 <;>
    · go_wp2_with fail
      go_ret
      exact ⟨rfl, HB1.out⟩
  cases b1 with
  | false =>
    go_wp2_with fail
    go_ret
    exact ⟨rfl, HB1.out⟩
  | true =>
    go_wp2_with fail
    refine (columns7_any NA VA nc vc names vals _ (Kd.C_below HN.out HB1.out) (Kd.C_below HV.out HB1.out)).mono ?_
    rintro e w2 ⟨b2, rfl, hr, hb⟩
    have HB2 := Aside0.mk (below_step HB1.out hb)
    clear hb
    cases b2 with
    | false =>
      go_wp2_with fail
      go_ret
      exact ⟨rfl, HB2.out⟩
    | true =>
      have HCR := Aside0.mk (hr rfl)
      clear hr
      obtain ⟨fu, r, hfr, hgd⟩ := byName_any names HCR.out.n8
      have HGD := Aside0.mk hgd
      have HFR := Aside0.mk hfr
      clear hgd hfr
      go_wp2_with fail
      refine (colsA_true names vals HCR.out fu r HFR.out (good_ok HGD.out) NA VA nc vc hnc _ (Kd.C_below HN.out HB2.out) (Kd.C_below HV.out HB2.out)).mono ?_
      obtain ⟨p, hp⟩ : ∃ p, p = eqAll true names vals r := ⟨_, rfl⟩
      rw [← hp]
      have HP := Aside0.mk hp
      clear hp
      rintro e w3 ⟨A1, d1, rfl, hV3, hb⟩
      have HB3 := Aside0.mk (below_step HB2.out hb)
      have HV3 := Aside0.mk (Kd.V_reads' hV3).2.2
      clear hb hV3
      have hn8 : names.length ≤ 8 := HCR.out.n8
      have hv8 : vals.length ≤ 8 := by rw [HCR.out.vn]; exact hn8
      have HB4 := Aside0.mk (show Below w3.heap.size w3 ((w3.alloc (Obj.cells #[Value.string p.1, Value.slice A1 p.2.1.length d1, Value.int IntKind.i64 p.2.2] 30)).alloc (Obj.cells #[] 9)) from ((Below.refl _ _).alloc (Nat.le_refl _) _).alloc (by simp) _)
      have HR4 := Aside0.mk (show Kd.string.R 9 ((w3.alloc (Obj.cells #[Value.string p.1, Value.slice A1 p.2.1.length d1, Value.int IntKind.i64 p.2.2] 30)).alloc (Obj.cells #[] 9)) w3.heap.size (fun _ => True) (.slice (some ⟨w3.heap.size + 1, 0, none⟩) 0 0) [] from ⟨fun _ _ => trivial, [], by
        have h1 := World.ownsRow_made (base := w3.heap.size) (e := 9) (size := 1) (w3.alloc (Obj.cells #[Value.string p.1, Value.slice A1 p.2.1.length d1, Value.int IntKind.i64 p.2.2] 30)) #[] 0 (by simp) (by decide) rfl
        have h2 : ((w3.alloc (Obj.cells #[Value.string p.1, Value.slice A1 p.2.1.length d1, Value.int IntKind.i64 p.2.2] 30)).alloc (Obj.cells #[] 9)).ownsRow w3.heap.size 9 1 (.slice (some ⟨w3.heap.size + 1, 0, none⟩) 0 0) 0 [] := by simpa using h1
        exact h2, rfl, fun j p hj => by simp at hj⟩)
      have HO4 := Aside0.mk (show ((w3.alloc (Obj.cells #[Value.string p.1, Value.slice A1 p.2.1.length d1, Value.int IntKind.i64 p.2.2] 30)).alloc (Obj.cells #[] 9)).heap[w3.heap.size]? = some (Obj.cells #[Value.string p.1, Value.slice A1 p.2.1.length d1, Value.int IntKind.i64 p.2.2] 30 (0, 0)) from blk_alloc (blk_new _ _) _)
      go_wp2_with (first | ((with_reducible refine gate_builtin (b := .append) (xs := #[.tmp 25, .tmp 26]) rfl ?_); at_builtin; go_loud (refine Kd.R_append_row Value.string ByteArray.empty (h1 := fun _ => rfl) (w0 := w3) w3.heap.size rfl (.tmp 25) (.tmp 26) 27 9 (.string ⟨#[]⟩) 16 rfl Try.underlying27 info9 rfl (by decide) (.slice (some ⟨w3.heap.size + 1, 0, none⟩) 0 0) [] names NA names.length nc (fun _ => True) rfl rfl (fun _ _ => trivial) HR4.out (Kd.C_below HN.out (below_step HB3.out HB4.out)) HB4.out HB4.out.size (by simp; omega) ?_; intro v1 w4 ho hb hg hat; have HO5 := Aside0.mk (blk_grown HO4.out hg (by simp [Value.ownBlock])); have HR5 := Aside0.mk ho; have HB5 := Aside0.mk hb; clear ho hb hg hat; have HB6 := Aside0.mk (HB5.out.alloc HB5.out.size (Obj.cells #[] 24)); have HR6 := Aside0.mk (made24 w4 w3.heap.size HB5.out.size); have HO6 := Aside0.mk (blk_alloc HO5.out (Obj.cells #[] 24)); have HR7 := Aside0.mk (Kd.R_below HR5.out ((Below.refl w4.heap.size w4).alloc (Nat.le_refl _) (Obj.cells #[] 24))); have HZ4 := Aside0.mk HB5.out.size; have HZ5 := Aside0.mk (blk_lt HO5.out))) | ((with_reducible refine gate_builtin (b := .append) (xs := #[.tmp 28, .tmp 29]) rfl ?_); at_builtin; go_loud (refine Kd.N_append_rows k24 (w0 := w3) w3.heap.size rfl (.tmp 28) (.tmp 29) 22 24 (.agg #[(.int .i64 0), (.int .i64 0), (.string ⟨#[]⟩), (.slice none 0 0)]) 56 rfl Try.underlying22 info24 rfl (by decide) (by decide) (.slice (some ⟨w4.heap.size, 0, none⟩) 0 0) [] vals VA vals.length vc (fun _ => True) (fun k => k < w.heap.size) rfl rfl (Kd.R_N HR6.out) (Kd.F_below (Kd.C_F k24_heap HV.out) (below_step HB3.out HB6.out)) (fun k hk => ⟨trivial, by have := HZ4.out; have := HB3.out.size; simp [Value.ownBlock]; omega⟩) (fun _ _ => trivial) HB6.out HB6.out.size (by simp; omega) ?_; intro v2 w5 ho hb hg hat; have HN7 := Aside0.mk ho; have HB7 := Aside0.mk hb; have HO7 := Aside0.mk (blk_grown HO6.out hg (by have := HZ5.out; simp [Value.ownBlock]; omega)); have HR8 := Aside0.mk (Kd.R_grown2 HR7.out rfl hg (apart_of HR6.out HR7.out (by decide))); clear ho hb hg hat)))
      obtain ⟨A8, c8, rfl, _, hC8⟩ := Kd.R_reads HR8.out
      have hV8 := Kd.N_V (base' := 0) HN7.out
      obtain ⟨A9, c9, rfl⟩ := Kd.V_slice hV8
      have hC9 := (Kd.V_reads' hV8).2.2
      rw [List.nil_append] at hC8 hC9
      simp only [List.nil_append]
      refine (mapOf_28 names vals HCR.out r HGD.out A8 A9 c8 c9 _ hC8 hC9 p HP.out).mono ?_
      clear hV8 hC8 hC9
      rintro e w6 ⟨hor, hb⟩
      have B6 := blk_below HO7.out hb
      have b0 : w6.cell? ⟨w3.heap.size, 0, none⟩ = some (.string p.1) := (blk_cell B6 0).trans rfl
      have b1 : w6.cell? ⟨w3.heap.size, 1, none⟩ = some (.slice A1 p.2.1.length d1) := (blk_cell B6 1).trans rfl
      have b2 : w6.cell? ⟨w3.heap.size, 2, none⟩ = some (.int .i64 p.2.2) := (blk_cell B6 2).trans rfl
      have HB8 := Aside0.mk (below_step HB3.out (below_step HB7.out hb))
      have HV8 := Aside0.mk (Kd.C_below HV3.out (below_step HB7.out hb))
      clear hb B6
      rcases hor with ⟨hz, rfl⟩ | ⟨hz, v, rfl, hr⟩
      · go_wp2_with fail
        refine (told7_no _ _ _ _ _ _ _).mono ?_
        rintro e w7 ⟨rfl, hb⟩
        have HB9 := Aside0.mk (below_step HB8.out hb)
        clear hb hz b0 b1 b2
        go_wp2_with fail
        go_ret
        exact ⟨rfl, HB9.out⟩
      · obtain ⟨A10, d10, rfl, _, hC2⟩ := Kd.R_reads hr
        have HC2 := Aside0.mk hC2
        clear hr hC2
        go_wp2_with fail
        refine (told7_yes _ _ _ _ _ _ _ _ (fun w1 hb => sameValues_any p.2.1 (fun y hy => ?_) ?_ _ _ _ _ w1 (Kd.C_below HC2.out hb) (Kd.C_below HV8.out hb))).mono ?_
        · rw [HP.out] at hy
          unfold eqAll at hy
          split at hy
          · simp at hy
          · exact (colsE_len (neg := true) HCR.out (good_ok HGD.out) names.length (Nat.le_refl _)).2 y hy
        · rw [HP.out]
          have := (colsE_len (neg := true) HCR.out (good_ok HGD.out) names.length (Nat.le_refl _)).1
          unfold eqAll
          split
          · simp
          · omega
        rintro e w7 ⟨rfl, hb⟩
        have HB9 := Aside0.mk (below_step HB8.out hb)
        clear hb hz b0 b1 b2
        go_wp2_with fail
        go_ret
        exact ⟨rfl, HB9.out⟩

end Go.Proofs.Ytagandfneflcbaa
