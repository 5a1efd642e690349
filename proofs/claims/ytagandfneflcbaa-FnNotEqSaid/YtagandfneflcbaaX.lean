/- The four laws of columns in an order (FnLt and its kin), walked. Conditions: names and values lie in memory as their data say. -/
import Derived.Test.YtagandfneflcbaaY
import Derived.Test.YtagandfneflcbaaD
namespace Go.Proofs.Ytagandfneflcbaa
open Go.RowKit Go.Proofs.YtagandfneflcbaaW.PrintWords Go.Proofs.YtagandfneflcbaaW.PrintLast Go.Proofs.YtagandfneflcbaaW.PrintMore
open Go.Proofs.Ytagandfneflcbaa.PFnLt
open Go.Maps

theorem fits1_any (l : List ByteArray) (A : Option Addr) (c : Nat) (w : World) (hC : Kd.string.C w A l.length l) : Calls Try.prog 22 #[.slice A l.length c] w (BoolPost w) := by
  have HC := Aside0.mk hC
  have hlen := hC.2.1
  clear hC
  by_cases h1 : (2147483647 : Int) < l.length
  · go_enter Try.func22, Try.ntmps22
    go_wp2_with fail
    go_ret
    exact ⟨_, rfl, Below.refl _ _⟩
  · go_enter Try.func22, Try.ntmps22
    go_wp2_with fail
    go_loopw [10] (fun i wr => ∃ x : Int, i = .int .i64 x ∧ (0 ≤ x ∧ x ≤ l.length) ∧ wr = w) (fun i _ => l.length - (intOf i).toNat)
    case atStart => exact ⟨0, rfl, ⟨by omega, by omega⟩, by trivial⟩
    case round =>
      obtain ⟨x, rfl, ⟨hx0, hxn⟩, rfl⟩ := hrel
      by_cases hlt : x < l.length
      · obtain ⟨ad, e, x0⟩ := Kd.at_string HC.out x hx0 hlt
        cases e
        by_cases h2 : (2147483647 : Int) < (rdOf ByteArray.empty l x).size
        · go_wp2_with fail
          go_ret
          exact ⟨_, rfl, Below.refl _ _⟩
        · go_wp2_with fail
          go_roundw
          case rel => exact ⟨x + 1, rfl, ⟨by omega, by omega⟩, by trivial⟩
          case measure => simp [intOf]; omega
      · obtain rfl : x = l.length := by omega
        go_wp2_with fail
        go_ret
        exact ⟨_, rfl, Below.refl _ _⟩
theorem colsN_len (k : Int) (g : Nat → ByteArray × S24) : ∀ n, (colsN (cmpV k) g n).2.1.length ≤ n
  | 0 => Nat.le_refl _
  | n + 1 => by
    have ih := colsN_len k g n
    have : (cmpV k (g n).1 (g n).2).2.1.length ≤ 1 := by unfold cmpV; split <;> simp
    simp only [colsN, List.length_append]
    omega

theorem mapSql_45 (names : List ByteArray) (vals : List S24) (hcr : CR names vals) (r : List Int) (hgood : Good names r names.length) (gs : List Value) (b : Nat) (w : World) (hm : MapOk names vals b gs w) :
    Calls Try.prog 45 #[.map (some b)] w (MapPost (colsN (cmpV 6) (ordG names vals r) names.length) w) := by
  have H := Aside0.mk (ltSql_6 names vals hcr r hgood gs b w hm)
  obtain ⟨p, hp⟩ : ∃ p, p = colsN (cmpV 6) (ordG names vals r) names.length := ⟨_, rfl⟩
  rw [← hp] at H ⊢
  clear hm hcr hgood hp
  go_enter Try.func45, Try.ntmps45
  go_wp2_with fail
  refine H.out.mono ?_
  rintro e w2 (⟨h0, s, v, a, rfl, hb⟩ | ⟨h1, A, c, l, rfl, hC, hl, hb⟩)
  · have HB := Aside0.mk hb
    have H0 := Aside0.mk h0
    clear hb h0
    go_wp2_with fail
    go_ret3
    exact .inl ⟨H0.out, _, _, _, rfl, HB.out⟩
  · have HB := Aside0.mk hb
    have HC := Aside0.mk hC
    have H1 := Aside0.mk h1
    have HL := Aside0.mk hl
    clear hb hC h1 hl
    go_wp2_with fail
    go_ret3
    exact .inr ⟨H1.out, A, c, l, rfl, HC.out, HL.out, HB.out⟩
theorem mapSql_46 (names : List ByteArray) (vals : List S24) (hcr : CR names vals) (r : List Int) (hgood : Good names r names.length) (gs : List Value) (b : Nat) (w : World) (hm : MapOk names vals b gs w) :
    Calls Try.prog 46 #[.map (some b)] w (MapPost (colsN (cmpV 7) (ordG names vals r) names.length) w) := by
  have H := Aside0.mk (ltSql_7 names vals hcr r hgood gs b w hm)
  obtain ⟨p, hp⟩ : ∃ p, p = colsN (cmpV 7) (ordG names vals r) names.length := ⟨_, rfl⟩
  rw [← hp] at H ⊢
  clear hm hcr hgood hp
  go_enter Try.func46, Try.ntmps46
  go_wp2_with fail
  refine H.out.mono ?_
  rintro e w2 (⟨h0, s, v, a, rfl, hb⟩ | ⟨h1, A, c, l, rfl, hC, hl, hb⟩)
  · have HB := Aside0.mk hb
    have H0 := Aside0.mk h0
    clear hb h0
    go_wp2_with fail
    go_ret3
    exact .inl ⟨H0.out, _, _, _, rfl, HB.out⟩
  · have HB := Aside0.mk hb
    have HC := Aside0.mk hC
    have H1 := Aside0.mk h1
    have HL := Aside0.mk hl
    clear hb hC h1 hl
    go_wp2_with fail
    go_ret3
    exact .inr ⟨H1.out, A, c, l, rfl, HC.out, HL.out, HB.out⟩
theorem mapSql_47 (names : List ByteArray) (vals : List S24) (hcr : CR names vals) (r : List Int) (hgood : Good names r names.length) (gs : List Value) (b : Nat) (w : World) (hm : MapOk names vals b gs w) :
    Calls Try.prog 47 #[.map (some b)] w (MapPost (colsN (cmpV 4) (ordG names vals r) names.length) w) := by
  have H := Aside0.mk (ltSql_4 names vals hcr r hgood gs b w hm)
  obtain ⟨p, hp⟩ : ∃ p, p = colsN (cmpV 4) (ordG names vals r) names.length := ⟨_, rfl⟩
  rw [← hp] at H ⊢
  clear hm hcr hgood hp
  go_enter Try.func47, Try.ntmps47
  go_wp2_with fail
  refine H.out.mono ?_
  rintro e w2 (⟨h0, s, v, a, rfl, hb⟩ | ⟨h1, A, c, l, rfl, hC, hl, hb⟩)
  · have HB := Aside0.mk hb
    have H0 := Aside0.mk h0
    clear hb h0
    go_wp2_with fail
    go_ret3
    exact .inl ⟨H0.out, _, _, _, rfl, HB.out⟩
  · have HB := Aside0.mk hb
    have HC := Aside0.mk hC
    have H1 := Aside0.mk h1
    have HL := Aside0.mk hl
    clear hb hC h1 hl
    go_wp2_with fail
    go_ret3
    exact .inr ⟨H1.out, A, c, l, rfl, HC.out, HL.out, HB.out⟩
theorem mapSql_48 (names : List ByteArray) (vals : List S24) (hcr : CR names vals) (r : List Int) (hgood : Good names r names.length) (gs : List Value) (b : Nat) (w : World) (hm : MapOk names vals b gs w) :
    Calls Try.prog 48 #[.map (some b)] w (MapPost (colsN (cmpV 5) (ordG names vals r) names.length) w) := by
  have H := Aside0.mk (ltSql_5 names vals hcr r hgood gs b w hm)
  obtain ⟨p, hp⟩ : ∃ p, p = colsN (cmpV 5) (ordG names vals r) names.length := ⟨_, rfl⟩
  rw [← hp] at H ⊢
  clear hm hcr hgood hp
  go_enter Try.func48, Try.ntmps48
  go_wp2_with fail
  refine H.out.mono ?_
  rintro e w2 (⟨h0, s, v, a, rfl, hb⟩ | ⟨h1, A, c, l, rfl, hC, hl, hb⟩)
  · have HB := Aside0.mk hb
    have H0 := Aside0.mk h0
    clear hb h0
    go_wp2_with fail
    go_ret3
    exact .inl ⟨H0.out, _, _, _, rfl, HB.out⟩
  · have HB := Aside0.mk hb
    have HC := Aside0.mk hC
    have H1 := Aside0.mk h1
    have HL := Aside0.mk hl
    clear hb hC h1 hl
    go_wp2_with fail
    go_ret3
    exact .inr ⟨H1.out, A, c, l, rfl, HC.out, HL.out, HB.out⟩
set_option maxRecDepth 100000 in
set_option maxHeartbeats 4000000 in
theorem mapOf_23 (names : List ByteArray) (vals : List S24) (hcr : CR names vals) (r : List Int) (hgood : Good names r names.length) (NA VA : Option Addr) (nc vc : Nat) (w : World) (hN : Kd.string.C w NA names.length names) (hV : k24.C w VA vals.length vals) (p : Pc) (hp : p = colsN (cmpV 6) (ordG names vals r) names.length) :
    Calls Try.prog 23 #[.slice NA names.length nc, .slice VA vals.length vc] w (OfPost p w) := by
  have HT := Aside0.mk (tableOf_any names vals hcr NA VA nc vc w hN hV)
  have HR := Aside0.mk hcr
  have HG := Aside0.mk hgood
  have HP := Aside0.mk hp
  clear hN hV hcr hgood hp
  go_enter Try.func23, Try.ntmps23
  go_wp2_with fail
  refine HT.out.mono ?_
  rintro e w1 ⟨b, gs, rfl, hgl, hown, hK, hbb, hb⟩
  have HB := Aside0.mk hb
  have HM := Aside0.mk (show MapOk names vals b gs w1 from ⟨hgl, hown, fun i h1 h2 => ⟨w1, hK i h1 h2⟩⟩)
  clear hgl hown hK hbb hb
  go_wp2_with fail
  refine (mapSql_45 names vals HR.out r HG.out gs b _ HM.out).mono ?_
  rw [← HP.out]
  rintro e w2 (⟨h0, s, v, a, rfl, hb⟩ | ⟨h1, A1, c1, l, rfl, hC1, hl, hb⟩)
  · have HB2 := Aside0.mk (below_step HB.out hb)
    have H0 := Aside0.mk h0
    clear hb h0
    go_wp2_with fail
    refine (answer_err s v a _).mono ?_
    rintro e w3 ⟨rfl, rfl⟩
    go_wp2_with fail
    go_ret3
    exact ⟨.inl ⟨H0.out, rfl⟩, HB2.out⟩
  · have HB2 := Aside0.mk (below_step HB.out hb)
    have HC1 := Aside0.mk hC1
    have H1 := Aside0.mk h1
    have HL := Aside0.mk hl
    have hlen : l.length ≤ 1000 := by
      have h2 := congrArg List.length hl
      rw [List.length_map, HP.out] at h2
      have h3 := (colsN_fair (cmpV 6) (ordG names vals r) names.length (fun i hi => by
            obtain ⟨a0, a1⟩ := (good_ok HG.out).rng i (by have := (good_ok HG.out).len; omega)
            exact cmpV_fair 6 _ (HR.out.pos _ (ord_name HR.out a0 a1)).2 _) names.length (Nat.le_refl _)).2.1
      have h4 := colsN_len 6 (ordG names vals r) names.length
      have := HR.out.n8
      omega
    have HLEN := Aside0.mk hlen
    clear hb hC1 h1 hl hlen
    go_wp2_with fail
    refine (answer_ok p.1 (.slice A1 l.length c1) (l.map toS0) _ (valuesOf_flat l HLEN.out A1 c1 _ HC1.out)).mono ?_
    rintro e w3 ⟨v, rfl, hr, hb⟩
    rw [HL.out] at hr
    have HR3 := Aside0.mk hr
    have HB3 := Aside0.mk (below_step HB2.out hb)
    have HS3 := Aside0.mk HB2.out.size
    clear hr hb
    go_wp2_with fail
    go_ret3
    exact ⟨.inr ⟨H1.out, v, rfl, Kd.R_lower HR3.out HS3.out⟩, HB3.out⟩
set_option maxRecDepth 100000 in
set_option maxHeartbeats 4000000 in
theorem mapOf_24 (names : List ByteArray) (vals : List S24) (hcr : CR names vals) (r : List Int) (hgood : Good names r names.length) (NA VA : Option Addr) (nc vc : Nat) (w : World) (hN : Kd.string.C w NA names.length names) (hV : k24.C w VA vals.length vals) (p : Pc) (hp : p = colsN (cmpV 7) (ordG names vals r) names.length) :
    Calls Try.prog 24 #[.slice NA names.length nc, .slice VA vals.length vc] w (OfPost p w) := by
  have HT := Aside0.mk (tableOf_any names vals hcr NA VA nc vc w hN hV)
  have HR := Aside0.mk hcr
  have HG := Aside0.mk hgood
  have HP := Aside0.mk hp
  clear hN hV hcr hgood hp
  go_enter Try.func24, Try.ntmps24
  go_wp2_with fail
  refine HT.out.mono ?_
  rintro e w1 ⟨b, gs, rfl, hgl, hown, hK, hbb, hb⟩
  have HB := Aside0.mk hb
  have HM := Aside0.mk (show MapOk names vals b gs w1 from ⟨hgl, hown, fun i h1 h2 => ⟨w1, hK i h1 h2⟩⟩)
  clear hgl hown hK hbb hb
  go_wp2_with fail
  refine (mapSql_46 names vals HR.out r HG.out gs b _ HM.out).mono ?_
  rw [← HP.out]
  rintro e w2 (⟨h0, s, v, a, rfl, hb⟩ | ⟨h1, A1, c1, l, rfl, hC1, hl, hb⟩)
  · have HB2 := Aside0.mk (below_step HB.out hb)
    have H0 := Aside0.mk h0
    clear hb h0
    go_wp2_with fail
    refine (answer_err s v a _).mono ?_
    rintro e w3 ⟨rfl, rfl⟩
    go_wp2_with fail
    go_ret3
    exact ⟨.inl ⟨H0.out, rfl⟩, HB2.out⟩
  · have HB2 := Aside0.mk (below_step HB.out hb)
    have HC1 := Aside0.mk hC1
    have H1 := Aside0.mk h1
    have HL := Aside0.mk hl
    have hlen : l.length ≤ 1000 := by
      have h2 := congrArg List.length hl
      rw [List.length_map, HP.out] at h2
      have h3 := (colsN_fair (cmpV 7) (ordG names vals r) names.length (fun i hi => by
            obtain ⟨a0, a1⟩ := (good_ok HG.out).rng i (by have := (good_ok HG.out).len; omega)
            exact cmpV_fair 7 _ (HR.out.pos _ (ord_name HR.out a0 a1)).2 _) names.length (Nat.le_refl _)).2.1
      have h4 := colsN_len 7 (ordG names vals r) names.length
      have := HR.out.n8
      omega
    have HLEN := Aside0.mk hlen
    clear hb hC1 h1 hl hlen
    go_wp2_with fail
    refine (answer_ok p.1 (.slice A1 l.length c1) (l.map toS0) _ (valuesOf_flat l HLEN.out A1 c1 _ HC1.out)).mono ?_
    rintro e w3 ⟨v, rfl, hr, hb⟩
    rw [HL.out] at hr
    have HR3 := Aside0.mk hr
    have HB3 := Aside0.mk (below_step HB2.out hb)
    have HS3 := Aside0.mk HB2.out.size
    clear hr hb
    go_wp2_with fail
    go_ret3
    exact ⟨.inr ⟨H1.out, v, rfl, Kd.R_lower HR3.out HS3.out⟩, HB3.out⟩
set_option maxRecDepth 100000 in
set_option maxHeartbeats 4000000 in
theorem mapOf_25 (names : List ByteArray) (vals : List S24) (hcr : CR names vals) (r : List Int) (hgood : Good names r names.length) (NA VA : Option Addr) (nc vc : Nat) (w : World) (hN : Kd.string.C w NA names.length names) (hV : k24.C w VA vals.length vals) (p : Pc) (hp : p = colsN (cmpV 4) (ordG names vals r) names.length) :
    Calls Try.prog 25 #[.slice NA names.length nc, .slice VA vals.length vc] w (OfPost p w) := by
  have HT := Aside0.mk (tableOf_any names vals hcr NA VA nc vc w hN hV)
  have HR := Aside0.mk hcr
  have HG := Aside0.mk hgood
  have HP := Aside0.mk hp
  clear hN hV hcr hgood hp
  go_enter Try.func25, Try.ntmps25
  go_wp2_with fail
  refine HT.out.mono ?_
  rintro e w1 ⟨b, gs, rfl, hgl, hown, hK, hbb, hb⟩
  have HB := Aside0.mk hb
  have HM := Aside0.mk (show MapOk names vals b gs w1 from ⟨hgl, hown, fun i h1 h2 => ⟨w1, hK i h1 h2⟩⟩)
  clear hgl hown hK hbb hb
  go_wp2_with fail
  refine (mapSql_47 names vals HR.out r HG.out gs b _ HM.out).mono ?_
  rw [← HP.out]
  rintro e w2 (⟨h0, s, v, a, rfl, hb⟩ | ⟨h1, A1, c1, l, rfl, hC1, hl, hb⟩)
  · have HB2 := Aside0.mk (below_step HB.out hb)
    have H0 := Aside0.mk h0
    clear hb h0
    go_wp2_with fail
    refine (answer_err s v a _).mono ?_
    rintro e w3 ⟨rfl, rfl⟩
    go_wp2_with fail
    go_ret3
    exact ⟨.inl ⟨H0.out, rfl⟩, HB2.out⟩
  · have HB2 := Aside0.mk (below_step HB.out hb)
    have HC1 := Aside0.mk hC1
    have H1 := Aside0.mk h1
    have HL := Aside0.mk hl
    have hlen : l.length ≤ 1000 := by
      have h2 := congrArg List.length hl
      rw [List.length_map, HP.out] at h2
      have h3 := (colsN_fair (cmpV 4) (ordG names vals r) names.length (fun i hi => by
            obtain ⟨a0, a1⟩ := (good_ok HG.out).rng i (by have := (good_ok HG.out).len; omega)
            exact cmpV_fair 4 _ (HR.out.pos _ (ord_name HR.out a0 a1)).2 _) names.length (Nat.le_refl _)).2.1
      have h4 := colsN_len 4 (ordG names vals r) names.length
      have := HR.out.n8
      omega
    have HLEN := Aside0.mk hlen
    clear hb hC1 h1 hl hlen
    go_wp2_with fail
    refine (answer_ok p.1 (.slice A1 l.length c1) (l.map toS0) _ (valuesOf_flat l HLEN.out A1 c1 _ HC1.out)).mono ?_
    rintro e w3 ⟨v, rfl, hr, hb⟩
    rw [HL.out] at hr
    have HR3 := Aside0.mk hr
    have HB3 := Aside0.mk (below_step HB2.out hb)
    have HS3 := Aside0.mk HB2.out.size
    clear hr hb
    go_wp2_with fail
    go_ret3
    exact ⟨.inr ⟨H1.out, v, rfl, Kd.R_lower HR3.out HS3.out⟩, HB3.out⟩
set_option maxRecDepth 100000 in
set_option maxHeartbeats 4000000 in
theorem mapOf_26 (names : List ByteArray) (vals : List S24) (hcr : CR names vals) (r : List Int) (hgood : Good names r names.length) (NA VA : Option Addr) (nc vc : Nat) (w : World) (hN : Kd.string.C w NA names.length names) (hV : k24.C w VA vals.length vals) (p : Pc) (hp : p = colsN (cmpV 5) (ordG names vals r) names.length) :
    Calls Try.prog 26 #[.slice NA names.length nc, .slice VA vals.length vc] w (OfPost p w) := by
  have HT := Aside0.mk (tableOf_any names vals hcr NA VA nc vc w hN hV)
  have HR := Aside0.mk hcr
  have HG := Aside0.mk hgood
  have HP := Aside0.mk hp
  clear hN hV hcr hgood hp
  go_enter Try.func26, Try.ntmps26
  go_wp2_with fail
  refine HT.out.mono ?_
  rintro e w1 ⟨b, gs, rfl, hgl, hown, hK, hbb, hb⟩
  have HB := Aside0.mk hb
  have HM := Aside0.mk (show MapOk names vals b gs w1 from ⟨hgl, hown, fun i h1 h2 => ⟨w1, hK i h1 h2⟩⟩)
  clear hgl hown hK hbb hb
  go_wp2_with fail
  refine (mapSql_48 names vals HR.out r HG.out gs b _ HM.out).mono ?_
  rw [← HP.out]
  rintro e w2 (⟨h0, s, v, a, rfl, hb⟩ | ⟨h1, A1, c1, l, rfl, hC1, hl, hb⟩)
  · have HB2 := Aside0.mk (below_step HB.out hb)
    have H0 := Aside0.mk h0
    clear hb h0
    go_wp2_with fail
    refine (answer_err s v a _).mono ?_
    rintro e w3 ⟨rfl, rfl⟩
    go_wp2_with fail
    go_ret3
    exact ⟨.inl ⟨H0.out, rfl⟩, HB2.out⟩
  · have HB2 := Aside0.mk (below_step HB.out hb)
    have HC1 := Aside0.mk hC1
    have H1 := Aside0.mk h1
    have HL := Aside0.mk hl
    have hlen : l.length ≤ 1000 := by
      have h2 := congrArg List.length hl
      rw [List.length_map, HP.out] at h2
      have h3 := (colsN_fair (cmpV 5) (ordG names vals r) names.length (fun i hi => by
            obtain ⟨a0, a1⟩ := (good_ok HG.out).rng i (by have := (good_ok HG.out).len; omega)
            exact cmpV_fair 5 _ (HR.out.pos _ (ord_name HR.out a0 a1)).2 _) names.length (Nat.le_refl _)).2.1
      have h4 := colsN_len 5 (ordG names vals r) names.length
      have := HR.out.n8
      omega
    have HLEN := Aside0.mk hlen
    clear hb hC1 h1 hl hlen
    go_wp2_with fail
    refine (answer_ok p.1 (.slice A1 l.length c1) (l.map toS0) _ (valuesOf_flat l HLEN.out A1 c1 _ HC1.out)).mono ?_
    rintro e w3 ⟨v, rfl, hr, hb⟩
    rw [HL.out] at hr
    have HR3 := Aside0.mk hr
    have HB3 := Aside0.mk (below_step HB2.out hb)
    have HS3 := Aside0.mk HB2.out.size
    clear hr hb
    go_wp2_with fail
    go_ret3
    exact ⟨.inr ⟨H1.out, v, rfl, Kd.R_lower HR3.out HS3.out⟩, HB3.out⟩
theorem colsN_vr {k : Int} {names : List ByteArray} {vals : List S24} {r : List Int} (hcr : CR names vals) (ho : OrdOk names r) : ∀ n, n ≤ names.length → ∀ y, y ∈ (colsN (cmpV k) (ordG names vals r) n).2.1 → VR y
  | 0, _, y, hy => by simp [colsN] at hy
  | n + 1, h, y, hy => by
    simp only [colsN, List.mem_append] at hy
    rcases hy with hy | hy
    · exact colsN_vr hcr ho n (by omega) y hy
    · unfold cmpV at hy
      split at hy
      · simp at hy
      · obtain rfl : y = (ordG names vals r n).2 := by simpa using hy
        obtain ⟨a0, a1⟩ := ho.rng n (by have := ho.len; omega)
        exact hcr.vr _ (ord_val hcr a0 a1)
theorem made24 (w : World) (base : Nat) (hb : base ≤ w.heap.size) : k24.R 24 (w.alloc (Obj.cells #[] 24)) base (fun _ => True) (.slice (some ⟨w.heap.size, 0, none⟩) 0 0) [] :=
  ⟨fun _ _ => trivial, [], World.ownsRow_made w #[] 0 hb (by decide) rfl, rfl, fun j p hj => by simp at hj⟩
set_option maxRecDepth 100000 in
set_option maxHeartbeats 4000000 in
theorem law_9 (names : List ByteArray) (vals : List S24) (NA VA : Option Addr) (nc vc : Nat) (hnc : names.length ≤ nc) (w : World) (hN : Kd.string.C w NA names.length names) (hV : k24.C w VA vals.length vals) :
    Calls Try.prog 9 #[.slice NA names.length nc, .slice VA vals.length vc] w (SamePost w) := by
  have HN := Aside0.mk hN
  have HV := Aside0.mk hV
  have hvl := hV.2.1
  clear hN hV
  go_enter Try.func9, Try.ntmps9
  go_wp2_with fail
  refine (fits1_any names NA nc _ HN.out).mono ?_
  rintro e w1 ⟨b1, rfl, hb⟩
  have HB1 := Aside0.mk hb
  clear hb
  by_cases hv2 : (2147483647 : Int) < vals.length
  · cases b1 <;>
    · go_wp2_with fail
      go_ret
      exact ⟨rfl, HB1.out⟩
  cases b1 with
  | false =>
    go_wp2_with fail
    go_ret
    exact ⟨rfl, HB1.out⟩
  | true =>
    go_wp2_with fail
    refine (columns7_any NA VA nc vc names vals _ (Kd.C_below HN.out HB1.out) (Kd.C_below HV.out HB1.out)).mono ?_
    rintro e w2 ⟨b2, rfl, hr, hb⟩
    have HB2 := Aside0.mk (below_step HB1.out hb)
    clear hb
    cases b2 with
    | false =>
      go_wp2_with fail
      go_ret
      exact ⟨rfl, HB2.out⟩
    | true =>
      have HCR := Aside0.mk (hr rfl)
      clear hr
      obtain ⟨fu, r, hfr, hgd⟩ := byName_any names HCR.out.n8
      have HGD := Aside0.mk hgd
      have HFR := Aside0.mk hfr
      clear hgd hfr
      go_wp2_with fail
      refine (columns_any 4 (by decide) (by decide) names vals HCR.out (fun h => absurd h (by decide)) fu r HFR.out (good_ok HGD.out) NA VA nc vc hnc _ (Kd.C_below HN.out HB2.out) (Kd.C_below HV.out HB2.out)).mono ?_
      obtain ⟨p, hp⟩ : ∃ p, p = colsN (cmpV 4) (ordG names vals r) names.length := ⟨_, rfl⟩
      rw [← hp]
      have HP := Aside0.mk hp
      clear hp
      rintro e w3 ⟨A1, d1, rfl, hV3, hb⟩
      have HB3 := Aside0.mk (below_step HB2.out hb)
      have HV3 := Aside0.mk (Kd.V_reads' hV3).2.2
      clear hb hV3
      have hn8 : names.length ≤ 8 := HCR.out.n8
      have hv8 : vals.length ≤ 8 := by rw [HCR.out.vn]; exact hn8
      have HB4 := Aside0.mk (show Below w3.heap.size w3 ((w3.alloc (Obj.cells #[Value.string p.1, Value.slice A1 p.2.1.length d1, Value.int IntKind.i64 p.2.2] 30)).alloc (Obj.cells #[] 9)) from ((Below.refl _ _).alloc (Nat.le_refl _) _).alloc (by simp) _)
      have HR4 := Aside0.mk (show Kd.string.R 9 ((w3.alloc (Obj.cells #[Value.string p.1, Value.slice A1 p.2.1.length d1, Value.int IntKind.i64 p.2.2] 30)).alloc (Obj.cells #[] 9)) w3.heap.size (fun _ => True) (.slice (some ⟨w3.heap.size + 1, 0, none⟩) 0 0) [] from ⟨fun _ _ => trivial, [], by
        have h1 := World.ownsRow_made (base := w3.heap.size) (e := 9) (size := 1) (w3.alloc (Obj.cells #[Value.string p.1, Value.slice A1 p.2.1.length d1, Value.int IntKind.i64 p.2.2] 30)) #[] 0 (by simp) (by decide) rfl
        have h2 : ((w3.alloc (Obj.cells #[Value.string p.1, Value.slice A1 p.2.1.length d1, Value.int IntKind.i64 p.2.2] 30)).alloc (Obj.cells #[] 9)).ownsRow w3.heap.size 9 1 (.slice (some ⟨w3.heap.size + 1, 0, none⟩) 0 0) 0 [] := by simpa using h1
        exact h2, rfl, fun j p hj => by simp at hj⟩)
      have HO4 := Aside0.mk (show ((w3.alloc (Obj.cells #[Value.string p.1, Value.slice A1 p.2.1.length d1, Value.int IntKind.i64 p.2.2] 30)).alloc (Obj.cells #[] 9)).heap[w3.heap.size]? = some (Obj.cells #[Value.string p.1, Value.slice A1 p.2.1.length d1, Value.int IntKind.i64 p.2.2] 30 (0, 0)) from blk_alloc (blk_new _ _) _)
      go_wp2_with (first | ((with_reducible refine gate_builtin (b := .append) (xs := #[.tmp 25, .tmp 26]) rfl ?_); at_builtin; go_loud (refine Kd.R_append_row Value.string ByteArray.empty (h1 := fun _ => rfl) (w0 := w3) w3.heap.size rfl (.tmp 25) (.tmp 26) 27 9 (.string ⟨#[]⟩) 16 rfl Try.underlying27 info9 rfl (by decide) (.slice (some ⟨w3.heap.size + 1, 0, none⟩) 0 0) [] names NA names.length nc (fun _ => True) rfl rfl (fun _ _ => trivial) HR4.out (Kd.C_below HN.out (below_step HB3.out HB4.out)) HB4.out HB4.out.size (by simp; omega) ?_; intro v1 w4 ho hb hg hat; have HO5 := Aside0.mk (blk_grown HO4.out hg (by simp [Value.ownBlock])); have HR5 := Aside0.mk ho; have HB5 := Aside0.mk hb; clear ho hb hg hat; have HB6 := Aside0.mk (HB5.out.alloc HB5.out.size (Obj.cells #[] 24)); have HR6 := Aside0.mk (made24 w4 w3.heap.size HB5.out.size); have HO6 := Aside0.mk (blk_alloc HO5.out (Obj.cells #[] 24)); have HR7 := Aside0.mk (Kd.R_below HR5.out ((Below.refl w4.heap.size w4).alloc (Nat.le_refl _) (Obj.cells #[] 24))); have HZ4 := Aside0.mk HB5.out.size; have HZ5 := Aside0.mk (blk_lt HO5.out))) | ((with_reducible refine gate_builtin (b := .append) (xs := #[.tmp 28, .tmp 29]) rfl ?_); at_builtin; go_loud (refine Kd.N_append_rows k24 (w0 := w3) w3.heap.size rfl (.tmp 28) (.tmp 29) 22 24 (.agg #[(.int .i64 0), (.int .i64 0), (.string ⟨#[]⟩), (.slice none 0 0)]) 56 rfl Try.underlying22 info24 rfl (by decide) (by decide) (.slice (some ⟨w4.heap.size, 0, none⟩) 0 0) [] vals VA vals.length vc (fun _ => True) (fun k => k < w.heap.size) rfl rfl (Kd.R_N HR6.out) (Kd.F_below (Kd.C_F k24_heap HV.out) (below_step HB3.out HB6.out)) (fun k hk => ⟨trivial, by have := HZ4.out; have := HB3.out.size; simp [Value.ownBlock]; omega⟩) (fun _ _ => trivial) HB6.out HB6.out.size (by simp; omega) ?_; intro v2 w5 ho hb hg hat; have HN7 := Aside0.mk ho; have HB7 := Aside0.mk hb; have HO7 := Aside0.mk (blk_grown HO6.out hg (by have := HZ5.out; simp [Value.ownBlock]; omega)); have HR8 := Aside0.mk (Kd.R_grown2 HR7.out rfl hg (apart_of HR6.out HR7.out (by decide))); clear ho hb hg hat)))
      obtain ⟨A8, c8, rfl, _, hC8⟩ := Kd.R_reads HR8.out
      have hV8 := Kd.N_V (base' := 0) HN7.out
      obtain ⟨A9, c9, rfl⟩ := Kd.V_slice hV8
      have hC9 := (Kd.V_reads' hV8).2.2
      rw [List.nil_append] at hC8 hC9
      simp only [List.nil_append]
      refine (mapOf_25 names vals HCR.out r HGD.out A8 A9 c8 c9 _ hC8 hC9 p HP.out).mono ?_
      clear hV8 hC8 hC9
      rintro e w6 ⟨hor, hb⟩
      have B6 := blk_below HO7.out hb
      have b0 : w6.cell? ⟨w3.heap.size, 0, none⟩ = some (.string p.1) := (blk_cell B6 0).trans rfl
      have b1 : w6.cell? ⟨w3.heap.size, 1, none⟩ = some (.slice A1 p.2.1.length d1) := (blk_cell B6 1).trans rfl
      have b2 : w6.cell? ⟨w3.heap.size, 2, none⟩ = some (.int .i64 p.2.2) := (blk_cell B6 2).trans rfl
      have HB8 := Aside0.mk (below_step HB3.out (below_step HB7.out hb))
      have HV8 := Aside0.mk (Kd.C_below HV3.out (below_step HB7.out hb))
      clear hb B6
      rcases hor with ⟨hz, rfl⟩ | ⟨hz, v, rfl, hr⟩
      · go_wp2_with fail
        refine (told7_no _ _ _ _ _ _ _).mono ?_
        rintro e w7 ⟨rfl, hb⟩
        have HB9 := Aside0.mk (below_step HB8.out hb)
        clear hb hz b0 b1 b2
        go_wp2_with fail
        go_ret
        exact ⟨rfl, HB9.out⟩
      · obtain ⟨A10, d10, rfl, _, hC2⟩ := Kd.R_reads hr
        have HC2 := Aside0.mk hC2
        clear hr hC2
        go_wp2_with fail
        refine (told7_yes _ _ _ _ _ _ _ _ (fun w1 hb => sameValues_any p.2.1 (fun y hy => ?_) ?_ _ _ _ _ w1 (Kd.C_below HC2.out hb) (Kd.C_below HV8.out hb))).mono ?_
        · rw [HP.out] at hy
          exact colsN_vr HCR.out (good_ok HGD.out) names.length (Nat.le_refl _) y hy
        · rw [HP.out]
          have := colsN_len 4 (ordG names vals r) names.length
          omega
        rintro e w7 ⟨rfl, hb⟩
        have HB9 := Aside0.mk (below_step HB8.out hb)
        clear hb hz b0 b1 b2
        go_wp2_with fail
        go_ret
        exact ⟨rfl, HB9.out⟩
set_option maxRecDepth 100000 in
set_option maxHeartbeats 4000000 in
theorem law_7 (names : List ByteArray) (vals : List S24) (NA VA : Option Addr) (nc vc : Nat) (hnc : names.length ≤ nc) (w : World) (hN : Kd.string.C w NA names.length names) (hV : k24.C w VA vals.length vals) :
    Calls Try.prog 7 #[.slice NA names.length nc, .slice VA vals.length vc] w (SamePost w) := by
  have HN := Aside0.mk hN
  have HV := Aside0.mk hV
  have hvl := hV.2.1
  clear hN hV
  go_enter Try.func7, Try.ntmps7
  go_wp2_with fail
  refine (fits1_any names NA nc _ HN.out).mono ?_
  rintro e w1 ⟨b1, rfl, hb⟩
  have HB1 := Aside0.mk hb
  clear hb
  by_cases hv2 : (2147483647 : Int) < vals.length
  · cases b1 <;>
    · go_wp2_with fail
      go_ret
      exact ⟨rfl, HB1.out⟩
  cases b1 with
  | false =>
    go_wp2_with fail
    go_ret
    exact ⟨rfl, HB1.out⟩
  | true =>
    go_wp2_with fail
    refine (columns7_any NA VA nc vc names vals _ (Kd.C_below HN.out HB1.out) (Kd.C_below HV.out HB1.out)).mono ?_
    rintro e w2 ⟨b2, rfl, hr, hb⟩
    have HB2 := Aside0.mk (below_step HB1.out hb)
    clear hb
    cases b2 with
    | false =>
      go_wp2_with fail
      go_ret
      exact ⟨rfl, HB2.out⟩
    | true =>
      have HCR := Aside0.mk (hr rfl)
      clear hr
      obtain ⟨fu, r, hfr, hgd⟩ := byName_any names HCR.out.n8
      have HGD := Aside0.mk hgd
      have HFR := Aside0.mk hfr
      clear hgd hfr
      go_wp2_with fail
      refine (columns_any 6 (by decide) (by decide) names vals HCR.out (fun h => absurd h (by decide)) fu r HFR.out (good_ok HGD.out) NA VA nc vc hnc _ (Kd.C_below HN.out HB2.out) (Kd.C_below HV.out HB2.out)).mono ?_
      obtain ⟨p, hp⟩ : ∃ p, p = colsN (cmpV 6) (ordG names vals r) names.length := ⟨_, rfl⟩
      rw [← hp]
      have HP := Aside0.mk hp
      clear hp
      rintro e w3 ⟨A1, d1, rfl, hV3, hb⟩
      have HB3 := Aside0.mk (below_step HB2.out hb)
      have HV3 := Aside0.mk (Kd.V_reads' hV3).2.2
      clear hb hV3
      have hn8 : names.length ≤ 8 := HCR.out.n8
      have hv8 : vals.length ≤ 8 := by rw [HCR.out.vn]; exact hn8
      have HB4 := Aside0.mk (show Below w3.heap.size w3 ((w3.alloc (Obj.cells #[Value.string p.1, Value.slice A1 p.2.1.length d1, Value.int IntKind.i64 p.2.2] 30)).alloc (Obj.cells #[] 9)) from ((Below.refl _ _).alloc (Nat.le_refl _) _).alloc (by simp) _)
      have HR4 := Aside0.mk (show Kd.string.R 9 ((w3.alloc (Obj.cells #[Value.string p.1, Value.slice A1 p.2.1.length d1, Value.int IntKind.i64 p.2.2] 30)).alloc (Obj.cells #[] 9)) w3.heap.size (fun _ => True) (.slice (some ⟨w3.heap.size + 1, 0, none⟩) 0 0) [] from ⟨fun _ _ => trivial, [], by
        have h1 := World.ownsRow_made (base := w3.heap.size) (e := 9) (size := 1) (w3.alloc (Obj.cells #[Value.string p.1, Value.slice A1 p.2.1.length d1, Value.int IntKind.i64 p.2.2] 30)) #[] 0 (by simp) (by decide) rfl
        have h2 : ((w3.alloc (Obj.cells #[Value.string p.1, Value.slice A1 p.2.1.length d1, Value.int IntKind.i64 p.2.2] 30)).alloc (Obj.cells #[] 9)).ownsRow w3.heap.size 9 1 (.slice (some ⟨w3.heap.size + 1, 0, none⟩) 0 0) 0 [] := by simpa using h1
        exact h2, rfl, fun j p hj => by simp at hj⟩)
      have HO4 := Aside0.mk (show ((w3.alloc (Obj.cells #[Value.string p.1, Value.slice A1 p.2.1.length d1, Value.int IntKind.i64 p.2.2] 30)).alloc (Obj.cells #[] 9)).heap[w3.heap.size]? = some (Obj.cells #[Value.string p.1, Value.slice A1 p.2.1.length d1, Value.int IntKind.i64 p.2.2] 30 (0, 0)) from blk_alloc (blk_new _ _) _)
      go_wp2_with (first | ((with_reducible refine gate_builtin (b := .append) (xs := #[.tmp 25, .tmp 26]) rfl ?_); at_builtin; go_loud (refine Kd.R_append_row Value.string ByteArray.empty (h1 := fun _ => rfl) (w0 := w3) w3.heap.size rfl (.tmp 25) (.tmp 26) 27 9 (.string ⟨#[]⟩) 16 rfl Try.underlying27 info9 rfl (by decide) (.slice (some ⟨w3.heap.size + 1, 0, none⟩) 0 0) [] names NA names.length nc (fun _ => True) rfl rfl (fun _ _ => trivial) HR4.out (Kd.C_below HN.out (below_step HB3.out HB4.out)) HB4.out HB4.out.size (by simp; omega) ?_; intro v1 w4 ho hb hg hat; have HO5 := Aside0.mk (blk_grown HO4.out hg (by simp [Value.ownBlock])); have HR5 := Aside0.mk ho; have HB5 := Aside0.mk hb; clear ho hb hg hat; have HB6 := Aside0.mk (HB5.out.alloc HB5.out.size (Obj.cells #[] 24)); have HR6 := Aside0.mk (made24 w4 w3.heap.size HB5.out.size); have HO6 := Aside0.mk (blk_alloc HO5.out (Obj.cells #[] 24)); have HR7 := Aside0.mk (Kd.R_below HR5.out ((Below.refl w4.heap.size w4).alloc (Nat.le_refl _) (Obj.cells #[] 24))); have HZ4 := Aside0.mk HB5.out.size; have HZ5 := Aside0.mk (blk_lt HO5.out))) | ((with_reducible refine gate_builtin (b := .append) (xs := #[.tmp 28, .tmp 29]) rfl ?_); at_builtin; go_loud (refine Kd.N_append_rows k24 (w0 := w3) w3.heap.size rfl (.tmp 28) (.tmp 29) 22 24 (.agg #[(.int .i64 0), (.int .i64 0), (.string ⟨#[]⟩), (.slice none 0 0)]) 56 rfl Try.underlying22 info24 rfl (by decide) (by decide) (.slice (some ⟨w4.heap.size, 0, none⟩) 0 0) [] vals VA vals.length vc (fun _ => True) (fun k => k < w.heap.size) rfl rfl (Kd.R_N HR6.out) (Kd.F_below (Kd.C_F k24_heap HV.out) (below_step HB3.out HB6.out)) (fun k hk => ⟨trivial, by have := HZ4.out; have := HB3.out.size; simp [Value.ownBlock]; omega⟩) (fun _ _ => trivial) HB6.out HB6.out.size (by simp; omega) ?_; intro v2 w5 ho hb hg hat; have HN7 := Aside0.mk ho; have HB7 := Aside0.mk hb; have HO7 := Aside0.mk (blk_grown HO6.out hg (by have := HZ5.out; simp [Value.ownBlock]; omega)); have HR8 := Aside0.mk (Kd.R_grown2 HR7.out rfl hg (apart_of HR6.out HR7.out (by decide))); clear ho hb hg hat)))
      obtain ⟨A8, c8, rfl, _, hC8⟩ := Kd.R_reads HR8.out
      have hV8 := Kd.N_V (base' := 0) HN7.out
      obtain ⟨A9, c9, rfl⟩ := Kd.V_slice hV8
      have hC9 := (Kd.V_reads' hV8).2.2
      rw [List.nil_append] at hC8 hC9
      simp only [List.nil_append]
      refine (mapOf_23 names vals HCR.out r HGD.out A8 A9 c8 c9 _ hC8 hC9 p HP.out).mono ?_
      clear hV8 hC8 hC9
      rintro e w6 ⟨hor, hb⟩
      have B6 := blk_below HO7.out hb
      have b0 : w6.cell? ⟨w3.heap.size, 0, none⟩ = some (.string p.1) := (blk_cell B6 0).trans rfl
      have b1 : w6.cell? ⟨w3.heap.size, 1, none⟩ = some (.slice A1 p.2.1.length d1) := (blk_cell B6 1).trans rfl
      have b2 : w6.cell? ⟨w3.heap.size, 2, none⟩ = some (.int .i64 p.2.2) := (blk_cell B6 2).trans rfl
      have HB8 := Aside0.mk (below_step HB3.out (below_step HB7.out hb))
      have HV8 := Aside0.mk (Kd.C_below HV3.out (below_step HB7.out hb))
      clear hb B6
      rcases hor with ⟨hz, rfl⟩ | ⟨hz, v, rfl, hr⟩
      · go_wp2_with fail
        refine (told7_no _ _ _ _ _ _ _).mono ?_
        rintro e w7 ⟨rfl, hb⟩
        have HB9 := Aside0.mk (below_step HB8.out hb)
        clear hb hz b0 b1 b2
        go_wp2_with fail
        go_ret
        exact ⟨rfl, HB9.out⟩
      · obtain ⟨A10, d10, rfl, _, hC2⟩ := Kd.R_reads hr
        have HC2 := Aside0.mk hC2
        clear hr hC2
        go_wp2_with fail
        refine (told7_yes _ _ _ _ _ _ _ _ (fun w1 hb => sameValues_any p.2.1 (fun y hy => ?_) ?_ _ _ _ _ w1 (Kd.C_below HC2.out hb) (Kd.C_below HV8.out hb))).mono ?_
        · rw [HP.out] at hy
          exact colsN_vr HCR.out (good_ok HGD.out) names.length (Nat.le_refl _) y hy
        · rw [HP.out]
          have := colsN_len 6 (ordG names vals r) names.length
          omega
        rintro e w7 ⟨rfl, hb⟩
        have HB9 := Aside0.mk (below_step HB8.out hb)
        clear hb hz b0 b1 b2
        go_wp2_with fail
        go_ret
        exact ⟨rfl, HB9.out⟩
set_option maxRecDepth 100000 in
set_option maxHeartbeats 4000000 in
theorem law_8 (names : List ByteArray) (vals : List S24) (NA VA : Option Addr) (nc vc : Nat) (hnc : names.length ≤ nc) (w : World) (hN : Kd.string.C w NA names.length names) (hV : k24.C w VA vals.length vals) :
    Calls Try.prog 8 #[.slice NA names.length nc, .slice VA vals.length vc] w (SamePost w) := by
  have HN := Aside0.mk hN
  have HV := Aside0.mk hV
  have hvl := hV.2.1
  clear hN hV
  go_enter Try.func8, Try.ntmps8
  go_wp2_with fail
  refine (fits1_any names NA nc _ HN.out).mono ?_
  rintro e w1 ⟨b1, rfl, hb⟩
  have HB1 := Aside0.mk hb
  clear hb
  by_cases hv2 : (2147483647 : Int) < vals.length
  · cases b1 <;>
    · go_wp2_with fail
      go_ret
      exact ⟨rfl, HB1.out⟩
  cases b1 with
  | false =>
    go_wp2_with fail
    go_ret
    exact ⟨rfl, HB1.out⟩
  | true =>
    go_wp2_with fail
    refine (columns7_any NA VA nc vc names vals _ (Kd.C_below HN.out HB1.out) (Kd.C_below HV.out HB1.out)).mono ?_
    rintro e w2 ⟨b2, rfl, hr, hb⟩
    have HB2 := Aside0.mk (below_step HB1.out hb)
    clear hb
    cases b2 with
    | false =>
      go_wp2_with fail
      go_ret
      exact ⟨rfl, HB2.out⟩
    | true =>
      have HCR := Aside0.mk (hr rfl)
      clear hr
      obtain ⟨fu, r, hfr, hgd⟩ := byName_any names HCR.out.n8
      have HGD := Aside0.mk hgd
      have HFR := Aside0.mk hfr
      clear hgd hfr
      go_wp2_with fail
      refine (columns_any 7 (by decide) (by decide) names vals HCR.out (fun h => absurd h (by decide)) fu r HFR.out (good_ok HGD.out) NA VA nc vc hnc _ (Kd.C_below HN.out HB2.out) (Kd.C_below HV.out HB2.out)).mono ?_
      obtain ⟨p, hp⟩ : ∃ p, p = colsN (cmpV 7) (ordG names vals r) names.length := ⟨_, rfl⟩
      rw [← hp]
      have HP := Aside0.mk hp
      clear hp
      rintro e w3 ⟨A1, d1, rfl, hV3, hb⟩
      have HB3 := Aside0.mk (below_step HB2.out hb)
      have HV3 := Aside0.mk (Kd.V_reads' hV3).2.2
      clear hb hV3
      have hn8 : names.length ≤ 8 := HCR.out.n8
      have hv8 : vals.length ≤ 8 := by rw [HCR.out.vn]; exact hn8
      have HB4 := Aside0.mk (show Below w3.heap.size w3 ((w3.alloc (Obj.cells #[Value.string p.1, Value.slice A1 p.2.1.length d1, Value.int IntKind.i64 p.2.2] 30)).alloc (Obj.cells #[] 9)) from ((Below.refl _ _).alloc (Nat.le_refl _) _).alloc (by simp) _)
      have HR4 := Aside0.mk (show Kd.string.R 9 ((w3.alloc (Obj.cells #[Value.string p.1, Value.slice A1 p.2.1.length d1, Value.int IntKind.i64 p.2.2] 30)).alloc (Obj.cells #[] 9)) w3.heap.size (fun _ => True) (.slice (some ⟨w3.heap.size + 1, 0, none⟩) 0 0) [] from ⟨fun _ _ => trivial, [], by
        have h1 := World.ownsRow_made (base := w3.heap.size) (e := 9) (size := 1) (w3.alloc (Obj.cells #[Value.string p.1, Value.slice A1 p.2.1.length d1, Value.int IntKind.i64 p.2.2] 30)) #[] 0 (by simp) (by decide) rfl
        have h2 : ((w3.alloc (Obj.cells #[Value.string p.1, Value.slice A1 p.2.1.length d1, Value.int IntKind.i64 p.2.2] 30)).alloc (Obj.cells #[] 9)).ownsRow w3.heap.size 9 1 (.slice (some ⟨w3.heap.size + 1, 0, none⟩) 0 0) 0 [] := by simpa using h1
        exact h2, rfl, fun j p hj => by simp at hj⟩)
      have HO4 := Aside0.mk (show ((w3.alloc (Obj.cells #[Value.string p.1, Value.slice A1 p.2.1.length d1, Value.int IntKind.i64 p.2.2] 30)).alloc (Obj.cells #[] 9)).heap[w3.heap.size]? = some (Obj.cells #[Value.string p.1, Value.slice A1 p.2.1.length d1, Value.int IntKind.i64 p.2.2] 30 (0, 0)) from blk_alloc (blk_new _ _) _)
      go_wp2_with (first | ((with_reducible refine gate_builtin (b := .append) (xs := #[.tmp 25, .tmp 26]) rfl ?_); at_builtin; go_loud (refine Kd.R_append_row Value.string ByteArray.empty (h1 := fun _ => rfl) (w0 := w3) w3.heap.size rfl (.tmp 25) (.tmp 26) 27 9 (.string ⟨#[]⟩) 16 rfl Try.underlying27 info9 rfl (by decide) (.slice (some ⟨w3.heap.size + 1, 0, none⟩) 0 0) [] names NA names.length nc (fun _ => True) rfl rfl (fun _ _ => trivial) HR4.out (Kd.C_below HN.out (below_step HB3.out HB4.out)) HB4.out HB4.out.size (by simp; omega) ?_; intro v1 w4 ho hb hg hat; have HO5 := Aside0.mk (blk_grown HO4.out hg (by simp [Value.ownBlock])); have HR5 := Aside0.mk ho; have HB5 := Aside0.mk hb; clear ho hb hg hat; have HB6 := Aside0.mk (HB5.out.alloc HB5.out.size (Obj.cells #[] 24)); have HR6 := Aside0.mk (made24 w4 w3.heap.size HB5.out.size); have HO6 := Aside0.mk (blk_alloc HO5.out (Obj.cells #[] 24)); have HR7 := Aside0.mk (Kd.R_below HR5.out ((Below.refl w4.heap.size w4).alloc (Nat.le_refl _) (Obj.cells #[] 24))); have HZ4 := Aside0.mk HB5.out.size; have HZ5 := Aside0.mk (blk_lt HO5.out))) | ((with_reducible refine gate_builtin (b := .append) (xs := #[.tmp 28, .tmp 29]) rfl ?_); at_builtin; go_loud (refine Kd.N_append_rows k24 (w0 := w3) w3.heap.size rfl (.tmp 28) (.tmp 29) 22 24 (.agg #[(.int .i64 0), (.int .i64 0), (.string ⟨#[]⟩), (.slice none 0 0)]) 56 rfl Try.underlying22 info24 rfl (by decide) (by decide) (.slice (some ⟨w4.heap.size, 0, none⟩) 0 0) [] vals VA vals.length vc (fun _ => True) (fun k => k < w.heap.size) rfl rfl (Kd.R_N HR6.out) (Kd.F_below (Kd.C_F k24_heap HV.out) (below_step HB3.out HB6.out)) (fun k hk => ⟨trivial, by have := HZ4.out; have := HB3.out.size; simp [Value.ownBlock]; omega⟩) (fun _ _ => trivial) HB6.out HB6.out.size (by simp; omega) ?_; intro v2 w5 ho hb hg hat; have HN7 := Aside0.mk ho; have HB7 := Aside0.mk hb; have HO7 := Aside0.mk (blk_grown HO6.out hg (by have := HZ5.out; simp [Value.ownBlock]; omega)); have HR8 := Aside0.mk (Kd.R_grown2 HR7.out rfl hg (apart_of HR6.out HR7.out (by decide))); clear ho hb hg hat)))
      obtain ⟨A8, c8, rfl, _, hC8⟩ := Kd.R_reads HR8.out
      have hV8 := Kd.N_V (base' := 0) HN7.out
      obtain ⟨A9, c9, rfl⟩ := Kd.V_slice hV8
      have hC9 := (Kd.V_reads' hV8).2.2
      rw [List.nil_append] at hC8 hC9
      simp only [List.nil_append]
      refine (mapOf_24 names vals HCR.out r HGD.out A8 A9 c8 c9 _ hC8 hC9 p HP.out).mono ?_
      clear hV8 hC8 hC9
      rintro e w6 ⟨hor, hb⟩
      have B6 := blk_below HO7.out hb
      have b0 : w6.cell? ⟨w3.heap.size, 0, none⟩ = some (.string p.1) := (blk_cell B6 0).trans rfl
      have b1 : w6.cell? ⟨w3.heap.size, 1, none⟩ = some (.slice A1 p.2.1.length d1) := (blk_cell B6 1).trans rfl
      have b2 : w6.cell? ⟨w3.heap.size, 2, none⟩ = some (.int .i64 p.2.2) := (blk_cell B6 2).trans rfl
      have HB8 := Aside0.mk (below_step HB3.out (below_step HB7.out hb))
      have HV8 := Aside0.mk (Kd.C_below HV3.out (below_step HB7.out hb))
      clear hb B6
      rcases hor with ⟨hz, rfl⟩ | ⟨hz, v, rfl, hr⟩
      · go_wp2_with fail
        refine (told7_no _ _ _ _ _ _ _).mono ?_
        rintro e w7 ⟨rfl, hb⟩
        have HB9 := Aside0.mk (below_step HB8.out hb)
        clear hb hz b0 b1 b2
        go_wp2_with fail
        go_ret
        exact ⟨rfl, HB9.out⟩
      · obtain ⟨A10, d10, rfl, _, hC2⟩ := Kd.R_reads hr
        have HC2 := Aside0.mk hC2
        clear hr hC2
        go_wp2_with fail
        refine (told7_yes _ _ _ _ _ _ _ _ (fun w1 hb => sameValues_any p.2.1 (fun y hy => ?_) ?_ _ _ _ _ w1 (Kd.C_below HC2.out hb) (Kd.C_below HV8.out hb))).mono ?_
        · rw [HP.out] at hy
          exact colsN_vr HCR.out (good_ok HGD.out) names.length (Nat.le_refl _) y hy
        · rw [HP.out]
          have := colsN_len 7 (ordG names vals r) names.length
          omega
        rintro e w7 ⟨rfl, hb⟩
        have HB9 := Aside0.mk (below_step HB8.out hb)
        clear hb hz b0 b1 b2
        go_wp2_with fail
        go_ret
        exact ⟨rfl, HB9.out⟩
set_option maxRecDepth 100000 in
set_option maxHeartbeats 4000000 in
theorem law_10 (names : List ByteArray) (vals : List S24) (NA VA : Option Addr) (nc vc : Nat) (hnc : names.length ≤ nc) (w : World) (hN : Kd.string.C w NA names.length names) (hV : k24.C w VA vals.length vals) :
    Calls Try.prog 10 #[.slice NA names.length nc, .slice VA vals.length vc] w (SamePost w) := by
  have HN := Aside0.mk hN
  have HV := Aside0.mk hV
  have hvl := hV.2.1
  clear hN hV
  go_enter Try.func10, Try.ntmps10
  go_wp2_with fail
  refine (fits1_any names NA nc _ HN.out).mono ?_
  rintro e w1 ⟨b1, rfl, hb⟩
  have HB1 := Aside0.mk hb
  clear hb
  by_cases hv2 : (2147483647 : Int) < vals.length
  · cases b1 <;>
    · go_wp2_with fail
      go_ret
      exact ⟨rfl, HB1.out⟩
  cases b1 with
  | false =>
    go_wp2_with fail
    go_ret
    exact ⟨rfl, HB1.out⟩
  | true =>
    go_wp2_with fail
    refine (columns7_any NA VA nc vc names vals _ (Kd.C_below HN.out HB1.out) (Kd.C_below HV.out HB1.out)).mono ?_
    rintro e w2 ⟨b2, rfl, hr, hb⟩
    have HB2 := Aside0.mk (below_step HB1.out hb)
    clear hb
    cases b2 with
    | false =>
      go_wp2_with fail
      go_ret
      exact ⟨rfl, HB2.out⟩
    | true =>
      have HCR := Aside0.mk (hr rfl)
      clear hr
      obtain ⟨fu, r, hfr, hgd⟩ := byName_any names HCR.out.n8
      have HGD := Aside0.mk hgd
      have HFR := Aside0.mk hfr
      clear hgd hfr
      go_wp2_with fail
      refine (columns_any 5 (by decide) (by decide) names vals HCR.out (fun h => absurd h (by decide)) fu r HFR.out (good_ok HGD.out) NA VA nc vc hnc _ (Kd.C_below HN.out HB2.out) (Kd.C_below HV.out HB2.out)).mono ?_
      obtain ⟨p, hp⟩ : ∃ p, p = colsN (cmpV 5) (ordG names vals r) names.length := ⟨_, rfl⟩
      rw [← hp]
      have HP := Aside0.mk hp
      clear hp
      rintro e w3 ⟨A1, d1, rfl, hV3, hb⟩
      have HB3 := Aside0.mk (below_step HB2.out hb)
      have HV3 := Aside0.mk (Kd.V_reads' hV3).2.2
      clear hb hV3
      have hn8 : names.length ≤ 8 := HCR.out.n8
      have hv8 : vals.length ≤ 8 := by rw [HCR.out.vn]; exact hn8
      have HB4 := Aside0.mk (show Below w3.heap.size w3 ((w3.alloc (Obj.cells #[Value.string p.1, Value.slice A1 p.2.1.length d1, Value.int IntKind.i64 p.2.2] 30)).alloc (Obj.cells #[] 9)) from ((Below.refl _ _).alloc (Nat.le_refl _) _).alloc (by simp) _)
      have HR4 := Aside0.mk (show Kd.string.R 9 ((w3.alloc (Obj.cells #[Value.string p.1, Value.slice A1 p.2.1.length d1, Value.int IntKind.i64 p.2.2] 30)).alloc (Obj.cells #[] 9)) w3.heap.size (fun _ => True) (.slice (some ⟨w3.heap.size + 1, 0, none⟩) 0 0) [] from ⟨fun _ _ => trivial, [], by
        have h1 := World.ownsRow_made (base := w3.heap.size) (e := 9) (size := 1) (w3.alloc (Obj.cells #[Value.string p.1, Value.slice A1 p.2.1.length d1, Value.int IntKind.i64 p.2.2] 30)) #[] 0 (by simp) (by decide) rfl
        have h2 : ((w3.alloc (Obj.cells #[Value.string p.1, Value.slice A1 p.2.1.length d1, Value.int IntKind.i64 p.2.2] 30)).alloc (Obj.cells #[] 9)).ownsRow w3.heap.size 9 1 (.slice (some ⟨w3.heap.size + 1, 0, none⟩) 0 0) 0 [] := by simpa using h1
        exact h2, rfl, fun j p hj => by simp at hj⟩)
      have HO4 := Aside0.mk (show ((w3.alloc (Obj.cells #[Value.string p.1, Value.slice A1 p.2.1.length d1, Value.int IntKind.i64 p.2.2] 30)).alloc (Obj.cells #[] 9)).heap[w3.heap.size]? = some (Obj.cells #[Value.string p.1, Value.slice A1 p.2.1.length d1, Value.int IntKind.i64 p.2.2] 30 (0, 0)) from blk_alloc (blk_new _ _) _)
      go_wp2_with (first | ((with_reducible refine gate_builtin (b := .append) (xs := #[.tmp 25, .tmp 26]) rfl ?_); at_builtin; go_loud (refine Kd.R_append_row Value.string ByteArray.empty (h1 := fun _ => rfl) (w0 := w3) w3.heap.size rfl (.tmp 25) (.tmp 26) 27 9 (.string ⟨#[]⟩) 16 rfl Try.underlying27 info9 rfl (by decide) (.slice (some ⟨w3.heap.size + 1, 0, none⟩) 0 0) [] names NA names.length nc (fun _ => True) rfl rfl (fun _ _ => trivial) HR4.out (Kd.C_below HN.out (below_step HB3.out HB4.out)) HB4.out HB4.out.size (by simp; omega) ?_; intro v1 w4 ho hb hg hat; have HO5 := Aside0.mk (blk_grown HO4.out hg (by simp [Value.ownBlock])); have HR5 := Aside0.mk ho; have HB5 := Aside0.mk hb; clear ho hb hg hat; have HB6 := Aside0.mk (HB5.out.alloc HB5.out.size (Obj.cells #[] 24)); have HR6 := Aside0.mk (made24 w4 w3.heap.size HB5.out.size); have HO6 := Aside0.mk (blk_alloc HO5.out (Obj.cells #[] 24)); have HR7 := Aside0.mk (Kd.R_below HR5.out ((Below.refl w4.heap.size w4).alloc (Nat.le_refl _) (Obj.cells #[] 24))); have HZ4 := Aside0.mk HB5.out.size; have HZ5 := Aside0.mk (blk_lt HO5.out))) | ((with_reducible refine gate_builtin (b := .append) (xs := #[.tmp 28, .tmp 29]) rfl ?_); at_builtin; go_loud (refine Kd.N_append_rows k24 (w0 := w3) w3.heap.size rfl (.tmp 28) (.tmp 29) 22 24 (.agg #[(.int .i64 0), (.int .i64 0), (.string ⟨#[]⟩), (.slice none 0 0)]) 56 rfl Try.underlying22 info24 rfl (by decide) (by decide) (.slice (some ⟨w4.heap.size, 0, none⟩) 0 0) [] vals VA vals.length vc (fun _ => True) (fun k => k < w.heap.size) rfl rfl (Kd.R_N HR6.out) (Kd.F_below (Kd.C_F k24_heap HV.out) (below_step HB3.out HB6.out)) (fun k hk => ⟨trivial, by have := HZ4.out; have := HB3.out.size; simp [Value.ownBlock]; omega⟩) (fun _ _ => trivial) HB6.out HB6.out.size (by simp; omega) ?_; intro v2 w5 ho hb hg hat; have HN7 := Aside0.mk ho; have HB7 := Aside0.mk hb; have HO7 := Aside0.mk (blk_grown HO6.out hg (by have := HZ5.out; simp [Value.ownBlock]; omega)); have HR8 := Aside0.mk (Kd.R_grown2 HR7.out rfl hg (apart_of HR6.out HR7.out (by decide))); clear ho hb hg hat)))
      obtain ⟨A8, c8, rfl, _, hC8⟩ := Kd.R_reads HR8.out
      have hV8 := Kd.N_V (base' := 0) HN7.out
      obtain ⟨A9, c9, rfl⟩ := Kd.V_slice hV8
      have hC9 := (Kd.V_reads' hV8).2.2
      rw [List.nil_append] at hC8 hC9
      simp only [List.nil_append]
      refine (mapOf_26 names vals HCR.out r HGD.out A8 A9 c8 c9 _ hC8 hC9 p HP.out).mono ?_
      clear hV8 hC8 hC9
      rintro e w6 ⟨hor, hb⟩
      have B6 := blk_below HO7.out hb
      have b0 : w6.cell? ⟨w3.heap.size, 0, none⟩ = some (.string p.1) := (blk_cell B6 0).trans rfl
      have b1 : w6.cell? ⟨w3.heap.size, 1, none⟩ = some (.slice A1 p.2.1.length d1) := (blk_cell B6 1).trans rfl
      have b2 : w6.cell? ⟨w3.heap.size, 2, none⟩ = some (.int .i64 p.2.2) := (blk_cell B6 2).trans rfl
      have HB8 := Aside0.mk (below_step HB3.out (below_step HB7.out hb))
      have HV8 := Aside0.mk (Kd.C_below HV3.out (below_step HB7.out hb))
      clear hb B6
      rcases hor with ⟨hz, rfl⟩ | ⟨hz, v, rfl, hr⟩
      · go_wp2_with fail
        refine (told7_no _ _ _ _ _ _ _).mono ?_
        rintro e w7 ⟨rfl, hb⟩
        have HB9 := Aside0.mk (below_step HB8.out hb)
        clear hb hz b0 b1 b2
        go_wp2_with fail
        go_ret
        exact ⟨rfl, HB9.out⟩
      · obtain ⟨A10, d10, rfl, _, hC2⟩ := Kd.R_reads hr
        have HC2 := Aside0.mk hC2
        clear hr hC2
        go_wp2_with fail
        refine (told7_yes _ _ _ _ _ _ _ _ (fun w1 hb => sameValues_any p.2.1 (fun y hy => ?_) ?_ _ _ _ _ w1 (Kd.C_below HC2.out hb) (Kd.C_below HV8.out hb))).mono ?_
        · rw [HP.out] at hy
          exact colsN_vr HCR.out (good_ok HGD.out) names.length (Nat.le_refl _) y hy
        · rw [HP.out]
          have := colsN_len 5 (ordG names vals r) names.length
          omega
        rintro e w7 ⟨rfl, hb⟩
        have HB9 := Aside0.mk (below_step HB8.out hb)
        clear hb hz b0 b1 b2
        go_wp2_with fail
        go_ret
        exact ⟨rfl, HB9.out⟩

end Go.Proofs.Ytagandfneflcbaa
