/- squirrel's Lt.toSql over the columns' map, and its four ToSql. Conditions: names and values are right (CR); the map is the call's own. -/
import Derived.Test.YtagandfneflcbaaV
import Derived.Test.YtagandfneflcbaaP
namespace Go.Proofs.Ytagandfneflcbaa
open Go.RowKit Go.Proofs.YtagandfneflcbaaW.PrintWords Go.Proofs.YtagandfneflcbaaW.PrintLast Go.Proofs.YtagandfneflcbaaW.PrintMore
open Go.Proofs.Ytagandfneflcbaa.PFnLt
open Go.Maps

def okv (x : S24) : Prop := ¬ (x.f0 = 0 ∨ x.f0 = 5)
theorem join_snoc (xs : List (List UInt8)) (y sep : List UInt8) : Lib.join (xs ++ [y]) sep = if xs = [] then y else Lib.join xs sep ++ sep ++ y := by
  cases xs with
  | nil => simp [Lib.join_one]
  | cons x r =>
    rw [if_neg (by simp), List.cons_append, Lib.join_cons, Lib.join_cons]
    simp [Lib.joinTail]
theorem app_bytes (a b : ByteArray) : bytesOf (a ++ b) = bytesOf a ++ bytesOf b := by simp [bytesOf]
theorem colsN_ok (k : Int) (g : Nat → ByteArray × S24) : ∀ n, (∀ i, i < n → okv (g i).2) → colsN (cmpV k) g n = (ofBytes (Lib.join (((List.range n).map fun i => cmpT k (g i).1).map bytesOf) (bytesOf and5)), (List.range n).map fun i => (g i).2, 1)
  | 0, _ => rfl
  | n + 1, h => by
    have ih := colsN_ok k g n (fun i hi => h i (by omega))
    have hc : cmpV k (g n).1 (g n).2 = (cmpT k (g n).1, [(g n).2], 1) := by unfold cmpV; exact if_neg (h n (by omega))
    simp only [colsN, hc]
    rw [ih]
    refine Prod.ext ?_ (Prod.ext ?_ rfl)
    · show (if n = 0 then _ else _ ++ and5) ++ cmpT k (g n).1 = _
      apply bytes_inj
      show bytesOf _ = bytesOf _
      rw [app_bytes, bytes_of, List.range_succ, List.map_append, List.map_append, List.map_singleton, List.map_singleton, join_snoc]
      by_cases hn : n = 0
      · subst hn
        simp [Lib.join_nil, bytesOf, ofBytes]
      · rw [if_neg hn, if_neg (by simp; omega), app_bytes, bytes_of]
    · simp [List.range_succ]
theorem colsN_no (k : Int) (g : Nat → ByteArray × S24) : ∀ n, (∃ i, i < n ∧ ¬ okv (g i).2) → (colsN (cmpV k) g n).2.2 = 0
  | 0, h => by obtain ⟨i, hi, _⟩ := h; omega
  | n + 1, h => by
    have hf : (colsN (cmpV k) g n).2.2 = 0 ∨ (colsN (cmpV k) g n).2.2 = 1 := by
      clear h
      induction n with
      | zero => exact .inr rfl
      | succ n ih => simp only [colsN, mn]; rcases ih with e | e <;> rcases cmpV_is k (g n).1 (g n).2 with e2 | e2 <;> rw [e, e2] <;> simp
    by_cases ho : okv (g n).2
    · have h0 := colsN_no k g n (by
        obtain ⟨i, hi, hno⟩ := h
        refine ⟨i, ?_, hno⟩
        rcases Nat.lt_or_ge i n with h1 | h1
        · exact h1
        · obtain rfl : i = n := by omega
          exact absurd ho hno)
      simp only [colsN, mn]
      rw [h0]
      rcases cmpV_is k (g n).1 (g n).2 with e2 | e2 <;> rw [e2] <;> simp
    · have hc : (cmpV k (g n).1 (g n).2).2.2 = 0 := by unfold cmpV; rw [if_pos (Classical.not_not.1 ho)]
      simp only [colsN, mn]
      rw [hc]
      rcases hf with e | e <;> rw [e] <;> simp

theorem rdOf_map (f : Int → ByteArray) (r : List Int) (x : Int) (h0 : 0 ≤ x) (h1 : x < r.length) : rdOf ByteArray.empty (r.map f) x = f (YtagandfneflcbaaW.PrintWords.rd r x) := by
  have : x.toNat < r.length := by omega
  simp [rdOf, YtagandfneflcbaaW.PrintWords.rd, List.getD_eq_getElem?_getD, List.getElem?_eq_getElem this]

theorem g_shape {x : S24} (hx : VR x) {g : Value} {w : World} (hg : kI.K w (ofS x) [g]) : (g = .nilIface ∧ ¬ okv x) ∨ (∃ v, g = .iface 57 v ∧ ¬ okv x) ∨ ∃ i0 : I0, g = enc0 i0 ∧ i0 ≠ .nil ∧ okv x ∧ toS0 i0 = x := by
  cases hx with
  | one h =>
    have h1 : ofS x = .sc (ofS0 x) := by cases h <;> rfl
    rw [h1] at hg
    have h2 : g = enc0 (ofS0 x) := by have h3 : [g] = [enc0 (ofS0 x)] := hg; simpa using h3
    by_cases h0 : x.f0 = 0
    · refine .inl ⟨?_, fun hh => hh (.inl h0)⟩
      rw [h2]
      cases h <;> first | rfl | simp at h0
    · refine .inr (.inr ⟨ofS0 x, h2, ?_, ?_, toS0_ofS0 h⟩)
      · cases h <;> first | (simp at h0; done) | (unfold ofS0; simp)
      · unfold okv; cases h <;> simp at h0 ⊢
  | list l hl h =>
    obtain ⟨A, c, h2, _⟩ := hg
    exact .inr (.inl ⟨_, by simpa using h2, fun hh => hh (.inr rfl)⟩)

theorem apart_of {α β : Type} {d1 : Kd α} {d2 : Kd β} {e1 e2 b1 b2 : Nat} {ok1 ok2 : Nat → Prop} {w : World} {v1 v2 : Value} {xs : List α} {ys : List β} (h1 : d1.R e1 w b1 ok1 v1 xs) (h2 : d2.R e2 w b2 ok2 v2 ys) (he : e1 ≠ e2) : ∀ k, v1.ownBlock = some k → some k ≠ v2.ownBlock := fun k hk hk2 => by
  obtain ⟨c1, t1⟩ := Kd.R_typed h1 k hk
  obtain ⟨c2, t2⟩ := Kd.R_typed h2 k hk2.symm
  rw [t1] at t2
  simp at t2
  exact he t2.2

/-- What a condition of columns tells: an error, or its text and its arguments. -/
def MapPost (p : Pc) (w : World) (e : Ending) (w' : World) : Prop := p.2.2 = 0 ∧ LikeErr w e w' ∨ p.2.2 = 1 ∧ ∃ A c, ∃ l : List I0, e = .returned (.tuple #[.string p.1, .slice A l.length c, .nilIface]) ∧ kI0.C w' A l.length l ∧ l.map toS0 = p.2.1 ∧ Below w.heap.size w w'

/-- The map that tableOf has made. -/
structure MapOk (names : List ByteArray) (vals : List S24) (b : Nat) (gs : List Value) (w : World) : Prop where
  len : gs.length = names.length
  own : w.ownsMap Try.prog 9 RH b names.length (tab names gs)
  val : ∀ (i : Nat) (hi : i < gs.length) (hi' : i < vals.length), ∃ w0, kI.K w0 (ofS vals[i]) [gs[i]]

theorem take_upR {β : Type} (f : Nat → β) (x : Int) (h0 : 0 ≤ x) : (List.range (x + 1).toNat).map f = (List.range x.toNat).map f ++ [f x.toNat] := by
  rw [show (x + 1).toNat = x.toNat + 1 from by omega, List.range_succ, List.map_append]
  rfl

theorem strings_join (s : List ByteArray) (A : Option Addr) (c : Nat) (sep : ByteArray) (w : World) (base : Nat) (ok : Nat → Prop) (hR : Kd.string.R 9 w base ok (.slice A s.length c) s) (hl : s.length ≤ 1000000) (hj : (Lib.join (s.map bytesOf) (bytesOf sep)).length ≤ 1000000) :
    Calls Try.prog 73 #[.slice A s.length c, .string sep] w fun e w' => e = .returned (.string (ofBytes (Lib.join (s.map bytesOf) (bytesOf sep)))) ∧ Below w.heap.size w w' := by
  have hown := Kd.own_of_R hR
  rcases hown.2 with ⟨hv, h0⟩ | ⟨g, cap, cur, hv, hbase, hbk, h1, h2, h3, h4⟩
  · obtain rfl : s = [] := List.eq_nil_of_length_eq_zero h0
    refine (Try.strings_Join_none A c sep w).mono ?_
    intro e w' h
    simp only [List.map_nil, Lib.join_nil] at *
    obtain ⟨rfl, h⟩ := h
    exact ⟨rfl, by first | exact h | (subst h; exact Below.refl _ _)⟩
  · obtain ⟨rfl, _, rfl⟩ := Value.slice.inj hv
    exact Try.strings_Join g 0 c s sep w (fun j x hx => by
      have := hown.cells rfl j (.string x) (by unfold encs; rw [List.getElem?_map, hx]; rfl)
      rw [add_plain] at this
      rw [Nat.zero_add]
      exact this) (Array.getElem?_eq_some_iff.1 hbk).1 (by omega) h1 (by exact Nat.le_trans hj (by decide))
theorem flat_back {x : S24} (hx : VR x) (h : okv x) : toS0 (ofS0 x) = x := by
  cases hx with
  | one h0 => exact toS0_ofS0 h0
  | list l hl hh => exact absurd (.inr rfl) h

set_option maxRecDepth 100000 in
set_option maxHeartbeats 8000000 in
theorem ltSql_4 (names : List ByteArray) (vals : List S24) (hcr : CR names vals) (r : List Int) (hgood : Good names r names.length) (gs : List Value) (b : Nat) (w : World) (hm : MapOk names vals b gs w) :
    Calls Try.prog 64 #[.map (some b), .bool false, .bool false] w (MapPost (colsN (cmpV 4) (ordG names vals r) names.length) w) := by
  have HC := Aside0.mk hcr
  have HM := Aside0.mk hm
  have HGD := Aside0.mk hgood
  have HOR := Aside0.mk (good_ok hgood)
  have hn8 : (names.length : Int) ≤ 8 := by have := hcr.n8; omega
  clear hm hgood hcr
  go_enter Try.func64, Try.ntmps64
  go_wp2_with fail
  obtain ⟨o, ho⟩ : ∃ o, o = sgn 4 := ⟨_, rfl⟩
  rw [show (⟨#[60]⟩ : ByteArray) = o from by rw [ho]; rfl]
  have HOP := Aside0.mk ho
  clear ho
  refine (keys_any names HC.out.n8 HC.out.nd gs HM.out.len b w HM.out.own).mono ?_
  rintro e w1 ⟨A, c, rfl, hCK, hb⟩
  rw [← good_sorted HGD.out] at hCK
  have HCK := Aside0.mk hCK
  have HB0 := Aside0.mk hb
  clear hb hCK
  go_wp2_with fail
  go_loopw [7, 8, 9, 24] (fun v7 v8 v9 i wr => ∃ (u7 u9 : Value) (x : Int), u7 = v7 ∧ v8 = .nilIface ∧ u9 = v9 ∧ i = .int .i64 x ∧ (0 ≤ x ∧ x ≤ names.length) ∧ Aside0 (∀ i, i < x.toNat → okv (ordG names vals r i).2) ∧ Aside0 (kI0.R 20 wr w1.heap.size (fun _ => True) u7 ((List.range x.toNat).map fun i => ofS0 (ordG names vals r i).2)) ∧ Aside0 (Kd.string.R 9 wr w1.heap.size (fun _ => True) u9 ((List.range x.toNat).map fun i => cmpT 4 (ordG names vals r i).1)) ∧ Aside0 (Below w1.heap.size w1 wr)) (fun _ _ _ i _ => names.length - (intOf i).toNat)
  case atStart => exact ⟨_, _, 0, rfl, rfl, rfl, rfl, ⟨by omega, by omega⟩, ⟨fun i hi => by simp at hi⟩, ⟨Kd.R_nil _ _ _ _ _⟩, ⟨Kd.R_nil _ _ _ _ _⟩, ⟨Below.refl _ _⟩⟩
  case round =>
    obtain ⟨u7, u9, x, rfl, rfl, rfl, rfl, ⟨hx0, hxn⟩, HOK, HR7, HR9, HB1⟩ := hrel
    by_cases hlt : x < names.length
    · have hrl := HOR.out.len
      obtain ⟨ad, e1, x0⟩ := Kd.at_string (Kd.C_below HCK.out HB1.out) x hx0 hlt
      cases e1
      rw [rdOf_map _ r x hx0 (by omega)] at x0
      obtain ⟨rj0, rj1⟩ := HOR.out.rng x.toNat (by omega)
      rw [Int.toNat_of_nonneg hx0] at rj0 rj1
      have HG := Aside0.mk (show ordG names vals r x.toNat = (rdOf ByteArray.empty names (YtagandfneflcbaaW.PrintWords.rd r x), rd_T24 vals (YtagandfneflcbaaW.PrintWords.rd r x)) by unfold ordG; rw [Int.toNat_of_nonneg hx0])
      obtain ⟨j, hj⟩ : ∃ j, j = YtagandfneflcbaaW.PrintWords.rd r x := ⟨_, rfl⟩
      rw [← hj] at x0 rj0 rj1 HG
      have hvn := HC.out.vn
      have hjt : j.toNat < names.length := by omega
      have hjv : j.toNat < vals.length := by omega
      have hjg : j.toNat < gs.length := by rw [HM.out.len]; exact hjt
      have HVR := Aside0.mk (HC.out.vr _ (ord_val HC.out rj0 rj1))
      have HNS := Aside0.mk (HC.out.pos _ (ord_name HC.out rj0 rj1)).2
      have hnmj : names[j.toNat] = rdOf ByteArray.empty names j := by simp [rdOf, List.getD_eq_getElem?_getD, List.getElem?_eq_getElem hjt]
      have hvj : vals[j.toNat] = rd_T24 vals j := by simp [rd_T24, List.getD_eq_getElem?_getD, List.getElem?_eq_getElem hjv]
      obtain ⟨w0, hK⟩ := HM.out.val j.toNat hjg hjv
      rw [hvj] at hK
      obtain ⟨nm, hnm⟩ : ∃ nm, nm = rdOf ByteArray.empty names j := ⟨_, rfl⟩
      obtain ⟨xv, hxv⟩ : ∃ xv, xv = rd_T24 vals j := ⟨_, rfl⟩
      rw [← hnm] at x0 HNS HG hnmj
      rw [← hxv] at HG HVR hK
      have hkey : keyOf Try.prog 9 (.string nm) = some (keyL nm) := WideMaps.keyOf_string_mk (P := Try.prog) Try.underlying9 (s := nm) (by have := HNS.out; unfold maxLen; omega)
      obtain ⟨v, ps, hlk, hRv⟩ := (HM.out.own.kept (grown_of_below (below_step HB0.out HB1.out) none) (by simp)).lookup law9 Try.underlying69 (zero20 wr) (zd := .held .nilIface) (zp := []) rfl hkey
      have hat := mapTo_at HM.out.len HC.out.nd (.held .nilIface) j.toNat names.length (Nat.le_refl _) hjt
      rw [hnmj] at hat
      have hv : v = gs[j.toNat] := by
        have h1 := RH_held hRv
        rw [show (tab names gs).atKey (keyL nm) (.held .nilIface) = _ from hat] at h1
        injection h1 with h1
        exact h1.symm
      have hsh := g_shape HVR.out hK
      rw [← hv] at hsh
      have h1 : ((List.range x.toNat).map fun i => ofS0 (ordG names vals r i).2).length = x.toNat := by simp
      have h2 : ((List.range x.toNat).map fun i => cmpT 4 (ordG names vals r i).1).length = x.toNat := by simp
      have HL1 := Aside0.mk h1
      have HL2 := Aside0.mk h2
      have HAP := Aside0.mk (apart_of HR7.out HR9.out (by decide))
      clear hj hnm hxv hnmj hvj hK hkey hRv hat hv h1 h2 hvn hjt hjv hjg rj0 rj1 hrl
      have s1 : (nm ++ (⟨#[32]⟩ : ByteArray)).size = nm.size + 1 := by rw [ByteArray.size_append]; rfl
      have hz : o.size ≤ 10 := by rw [HOP.out]; exact sgn_size 4
      have hn40 := HNS.out
      have s2 : (nm ++ (⟨#[32]⟩ : ByteArray) ++ o).size = nm.size + 1 + o.size := by rw [ByteArray.size_append, s1]
      have e1 := eq_false (show ¬ (9223372036854775807 < nm.size + 1) by omega)
      have e2 := eq_false (show ¬ (9223372036854775807 < (nm ++ (⟨#[32]⟩ : ByteArray)).size + o.size) by omega)
      have e3 := eq_false (show ¬ (9223372036854775807 < (nm ++ (⟨#[32]⟩ : ByteArray) ++ o).size + 2) by omega)
      have e4 := eq_false (show ¬ (9223372036854775807 < nm.size + 1 + o.size) by omega)
      have e5 := eq_false (show ¬ (9223372036854775807 < nm.size + 1 + o.size + 2) by omega)
      have HCT := Aside0.mk (show cmpT 4 nm = nm ++ ⟨#[32]⟩ ++ o ++ ⟨#[32, 63]⟩ by unfold cmpT; rw [HOP.out])
      clear s1 s2 hz hn40
      rcases hsh with ⟨rfl, hno⟩ | ⟨v57, rfl, hno⟩ | ⟨i0, rfl, hi0, hok, hts⟩
      · have HNO := Aside0.mk hno
        clear hno
        go_wp2_with fail
        refine (errorsNew_any _ _).mono ?_
        rintro e w2 ⟨rfl, rfl⟩
        go_wp2_with fail
        go_ret3
        exact .inl ⟨colsN_no 4 _ _ ⟨x.toNat, by omega, by rw [HG.out]; exact HNO.out⟩, _, _, _, rfl, (below_step HB0.out HB1.out).alloc (below_step HB0.out HB1.out).size _⟩
      · have HNO := Aside0.mk hno
        clear hno
        go_wp2_with fail
        refine (isList_lst v57 _).mono ?_
        rintro e w2 ⟨rfl, rfl⟩
        go_wp2_with fail
        refine (errorsNew_any _ _).mono ?_
        rintro e w2 ⟨rfl, rfl⟩
        go_wp2_with fail
        go_ret3
        exact .inl ⟨colsN_no 4 _ _ ⟨x.toNat, by omega, by rw [HG.out]; exact HNO.out⟩, _, _, _, rfl, (below_step HB0.out HB1.out).alloc (below_step HB0.out HB1.out).size _⟩
      · have HTS := Aside0.mk hts
        have HOKV := Aside0.mk hok
        clear hts hok
        cases i0 with
        | nil => exact absurd rfl hi0
        | int n =>
          simp only [enc0] at hlk
          go_wp2_with fail
          refine (isList_sc (.int n) _).mono ?_
          rintro e w2 ⟨rfl, rfl⟩
          go_wp2_with (first | ((with_reducible refine gate_builtin (b := .append) (xs := #[.tmp 42, .tmp 44]) rfl ?_); at_builtin; go_loud (refine Kd.R_append kI0 (w0 := w1) w1.heap.size rfl (.tmp 42) (.tmp 44) 57 20 .nilIface 16 rfl Try.underlying57 info20 rfl (by decide) (by omega) u7 ((List.range x.toNat).map fun i => ofS0 (ordG names vals r i).2) (.int n) [enc0 (.int n)] (fun _ => True) (fun k => True ∧ some k ≠ u7.ownBlock) rfl rfl ?aP (fun _ hk => hk) (fun _ _ => trivial) ?aO ?aB ?aS ?aL ?_; (case aP => exact rfl); (case aO => exact HR7.out); (case aB => exact HB1.out); (case aS => exact HB1.out.size); (case aL => rw [HL1.out]; omega); intro v1 w3 ho hb hg1 hat1; have HO3 := Aside0.mk ho; have HB3 := Aside0.mk hb; have HT3 := Aside0.mk (Kd.R_grown2 HR9.out rfl hg1 HAP.out); have HP3 := Aside0.mk (apart_of (Kd.R_grown2 HR9.out rfl hg1 HAP.out) ho (by decide)); clear ho hb hg1 hat1)) | ((with_reducible refine gate_builtin (b := .append) (xs := #[.tmp 46, .tmp 48]) rfl ?_); at_builtin; go_loud (refine Kd.R_append (W := w3) Kd.string (w0 := w1) w1.heap.size rfl (.tmp 46) (.tmp 48) 27 9 (.string ⟨#[]⟩) 16 rfl Try.underlying27 info9 rfl (by decide) (by omega) u9 ((List.range x.toNat).map fun i => cmpT 4 (ordG names vals r i).1) (nm ++ (⟨#[32]⟩ : ByteArray) ++ o ++ (⟨#[32, 63]⟩ : ByteArray)) [Value.string (nm ++ (⟨#[32]⟩ : ByteArray) ++ o ++ (⟨#[32, 63]⟩ : ByteArray))] (fun _ => True) (fun k => True ∧ some k ≠ u9.ownBlock) rfl rfl ?aP (fun _ hk => hk) (fun _ _ => trivial) ?aO ?aB ?aS ?aL ?_; (case aP => exact rfl); (case aO => exact HT3.out); (case aB => exact HB3.out); (case aS => exact HB3.out.size); (case aL => rw [HL2.out]; omega); intro v2 w4 ho hb hg1 hat1; have HO4 := Aside0.mk ho; have HB4 := Aside0.mk hb; have HA4 := Aside0.mk (Kd.R_grown2 HO3.out rfl hg1 HP3.out); clear ho hb hg1 hat1)))
          go_roundw
          case rel =>
            refine ⟨v1, v2, x + 1, rfl, rfl, rfl, rfl, ⟨by omega, by omega⟩, ⟨fun i hi => ?_⟩, ⟨?_⟩, ⟨?_⟩, HB4⟩
            · rcases Nat.lt_or_ge i x.toNat with h | h
              · exact HOK.out i h
              · obtain rfl : i = x.toNat := by omega
                rw [HG.out]; exact HOKV.out
            · rw [take_upR _ x hx0, HG.out]
              have : ofS0 xv = .int n := by rw [← HTS.out]; exact rfl
              show kI0.R 20 w4 w1.heap.size (fun _ => True) v1 (_ ++ [ofS0 xv])
              rw [this]
              exact HA4.out
            · rw [take_upR _ x hx0, HG.out]
              show Kd.string.R 9 w4 w1.heap.size (fun _ => True) v2 (_ ++ [cmpT 4 nm])
              rw [HCT.out]
              exact HO4.out
          case measure => simp [intOf]; omega
        | str n =>
          simp only [enc0] at hlk
          go_wp2_with fail
          refine (isList_sc (.str n) _).mono ?_
          rintro e w2 ⟨rfl, rfl⟩
          go_wp2_with (first | ((with_reducible refine gate_builtin (b := .append) (xs := #[.tmp 42, .tmp 44]) rfl ?_); at_builtin; go_loud (refine Kd.R_append kI0 (w0 := w1) w1.heap.size rfl (.tmp 42) (.tmp 44) 57 20 .nilIface 16 rfl Try.underlying57 info20 rfl (by decide) (by omega) u7 ((List.range x.toNat).map fun i => ofS0 (ordG names vals r i).2) (.str n) [enc0 (.str n)] (fun _ => True) (fun k => True ∧ some k ≠ u7.ownBlock) rfl rfl ?aP (fun _ hk => hk) (fun _ _ => trivial) ?aO ?aB ?aS ?aL ?_; (case aP => exact rfl); (case aO => exact HR7.out); (case aB => exact HB1.out); (case aS => exact HB1.out.size); (case aL => rw [HL1.out]; omega); intro v1 w3 ho hb hg1 hat1; have HO3 := Aside0.mk ho; have HB3 := Aside0.mk hb; have HT3 := Aside0.mk (Kd.R_grown2 HR9.out rfl hg1 HAP.out); have HP3 := Aside0.mk (apart_of (Kd.R_grown2 HR9.out rfl hg1 HAP.out) ho (by decide)); clear ho hb hg1 hat1)) | ((with_reducible refine gate_builtin (b := .append) (xs := #[.tmp 46, .tmp 48]) rfl ?_); at_builtin; go_loud (refine Kd.R_append (W := w3) Kd.string (w0 := w1) w1.heap.size rfl (.tmp 46) (.tmp 48) 27 9 (.string ⟨#[]⟩) 16 rfl Try.underlying27 info9 rfl (by decide) (by omega) u9 ((List.range x.toNat).map fun i => cmpT 4 (ordG names vals r i).1) (nm ++ (⟨#[32]⟩ : ByteArray) ++ o ++ (⟨#[32, 63]⟩ : ByteArray)) [Value.string (nm ++ (⟨#[32]⟩ : ByteArray) ++ o ++ (⟨#[32, 63]⟩ : ByteArray))] (fun _ => True) (fun k => True ∧ some k ≠ u9.ownBlock) rfl rfl ?aP (fun _ hk => hk) (fun _ _ => trivial) ?aO ?aB ?aS ?aL ?_; (case aP => exact rfl); (case aO => exact HT3.out); (case aB => exact HB3.out); (case aS => exact HB3.out.size); (case aL => rw [HL2.out]; omega); intro v2 w4 ho hb hg1 hat1; have HO4 := Aside0.mk ho; have HB4 := Aside0.mk hb; have HA4 := Aside0.mk (Kd.R_grown2 HO3.out rfl hg1 HP3.out); clear ho hb hg1 hat1)))
          go_roundw
          case rel =>
            refine ⟨v1, v2, x + 1, rfl, rfl, rfl, rfl, ⟨by omega, by omega⟩, ⟨fun i hi => ?_⟩, ⟨?_⟩, ⟨?_⟩, HB4⟩
            · rcases Nat.lt_or_ge i x.toNat with h | h
              · exact HOK.out i h
              · obtain rfl : i = x.toNat := by omega
                rw [HG.out]; exact HOKV.out
            · rw [take_upR _ x hx0, HG.out]
              have : ofS0 xv = .str n := by rw [← HTS.out]; exact rfl
              show kI0.R 20 w4 w1.heap.size (fun _ => True) v1 (_ ++ [ofS0 xv])
              rw [this]
              exact HA4.out
            · rw [take_upR _ x hx0, HG.out]
              show Kd.string.R 9 w4 w1.heap.size (fun _ => True) v2 (_ ++ [cmpT 4 nm])
              rw [HCT.out]
              exact HO4.out
          case measure => simp [intOf]; omega
        | bool n =>
          simp only [enc0] at hlk
          go_wp2_with fail
          refine (isList_sc (.bool n) _).mono ?_
          rintro e w2 ⟨rfl, rfl⟩
          go_wp2_with (first | ((with_reducible refine gate_builtin (b := .append) (xs := #[.tmp 42, .tmp 44]) rfl ?_); at_builtin; go_loud (refine Kd.R_append kI0 (w0 := w1) w1.heap.size rfl (.tmp 42) (.tmp 44) 57 20 .nilIface 16 rfl Try.underlying57 info20 rfl (by decide) (by omega) u7 ((List.range x.toNat).map fun i => ofS0 (ordG names vals r i).2) (.bool n) [enc0 (.bool n)] (fun _ => True) (fun k => True ∧ some k ≠ u7.ownBlock) rfl rfl ?aP (fun _ hk => hk) (fun _ _ => trivial) ?aO ?aB ?aS ?aL ?_; (case aP => exact rfl); (case aO => exact HR7.out); (case aB => exact HB1.out); (case aS => exact HB1.out.size); (case aL => rw [HL1.out]; omega); intro v1 w3 ho hb hg1 hat1; have HO3 := Aside0.mk ho; have HB3 := Aside0.mk hb; have HT3 := Aside0.mk (Kd.R_grown2 HR9.out rfl hg1 HAP.out); have HP3 := Aside0.mk (apart_of (Kd.R_grown2 HR9.out rfl hg1 HAP.out) ho (by decide)); clear ho hb hg1 hat1)) | ((with_reducible refine gate_builtin (b := .append) (xs := #[.tmp 46, .tmp 48]) rfl ?_); at_builtin; go_loud (refine Kd.R_append (W := w3) Kd.string (w0 := w1) w1.heap.size rfl (.tmp 46) (.tmp 48) 27 9 (.string ⟨#[]⟩) 16 rfl Try.underlying27 info9 rfl (by decide) (by omega) u9 ((List.range x.toNat).map fun i => cmpT 4 (ordG names vals r i).1) (nm ++ (⟨#[32]⟩ : ByteArray) ++ o ++ (⟨#[32, 63]⟩ : ByteArray)) [Value.string (nm ++ (⟨#[32]⟩ : ByteArray) ++ o ++ (⟨#[32, 63]⟩ : ByteArray))] (fun _ => True) (fun k => True ∧ some k ≠ u9.ownBlock) rfl rfl ?aP (fun _ hk => hk) (fun _ _ => trivial) ?aO ?aB ?aS ?aL ?_; (case aP => exact rfl); (case aO => exact HT3.out); (case aB => exact HB3.out); (case aS => exact HB3.out.size); (case aL => rw [HL2.out]; omega); intro v2 w4 ho hb hg1 hat1; have HO4 := Aside0.mk ho; have HB4 := Aside0.mk hb; have HA4 := Aside0.mk (Kd.R_grown2 HO3.out rfl hg1 HP3.out); clear ho hb hg1 hat1)))
          go_roundw
          case rel =>
            refine ⟨v1, v2, x + 1, rfl, rfl, rfl, rfl, ⟨by omega, by omega⟩, ⟨fun i hi => ?_⟩, ⟨?_⟩, ⟨?_⟩, HB4⟩
            · rcases Nat.lt_or_ge i x.toNat with h | h
              · exact HOK.out i h
              · obtain rfl : i = x.toNat := by omega
                rw [HG.out]; exact HOKV.out
            · rw [take_upR _ x hx0, HG.out]
              have : ofS0 xv = .bool n := by rw [← HTS.out]; exact by cases n <;> rfl
              show kI0.R 20 w4 w1.heap.size (fun _ => True) v1 (_ ++ [ofS0 xv])
              rw [this]
              exact HA4.out
            · rw [take_upR _ x hx0, HG.out]
              show Kd.string.R 9 w4 w1.heap.size (fun _ => True) v2 (_ ++ [cmpT 4 nm])
              rw [HCT.out]
              exact HO4.out
          case measure => simp [intOf]; omega
    · obtain rfl : x = names.length := by omega
      rw [Int.toNat_natCast] at HOK HR7 HR9
      have HCO := Aside0.mk (colsN_ok 4 (ordG names vals r) names.length HOK.out)
      have hj9 : (Lib.join (((List.range names.length).map fun i => cmpT 4 (ordG names vals r i).1).map bytesOf) (bytesOf and5)).length ≤ 1000000 := by
        have hf := (colsN_fair (cmpV 4) (ordG names vals r) names.length (fun i hi => by
            obtain ⟨a0, a1⟩ := HOR.out.rng i (by have := HOR.out.len; omega)
            exact cmpV_fair 4 _ (HC.out.pos _ (ord_name HC.out a0 a1)).2 _) names.length (Nat.le_refl _)).1
        rw [HCO.out] at hf
        have h3 : (ofBytes (Lib.join (((List.range names.length).map fun i => cmpT 4 (ordG names vals r i).1).map bytesOf) (bytesOf and5))).size = (Lib.join (((List.range names.length).map fun i => cmpT 4 (ordG names vals r i).1).map bytesOf) (bytesOf and5)).length := by simp [ofBytes, ByteArray.size]
        rw [h3] at hf
        have := HC.out.n8
        omega
      obtain ⟨t9, ht9⟩ : ∃ t9, t9 = (List.range names.length).map fun i => cmpT 4 (ordG names vals r i).1 := ⟨_, rfl⟩
      obtain ⟨t7, ht7⟩ : ∃ t7, t7 = (List.range names.length).map fun i => ofS0 (ordG names vals r i).2 := ⟨_, rfl⟩
      rw [← ht9] at HR9 hj9 HCO
      rw [← ht7] at HR7
      have HJ := Aside0.mk hj9
      have HL9 := Aside0.mk (show t9.length ≤ 1000000 by rw [ht9]; simp; omega)
      have HT7 := Aside0.mk ht7
      clear hj9 ht9 ht7
      obtain ⟨A9, c9, rfl⟩ := Kd.R_slice HR9.out
      obtain ⟨A7, c7, rfl, _, hC7⟩ := Kd.R_reads HR7.out
      have HC7 := Aside0.mk hC7
      clear hC7
      go_wp2_with fail
      refine (strings_join t9 A9 c9 and5 wr w1.heap.size (fun _ => True) HR9.out HL9.out HJ.out).mono ?_
      rintro e w5 ⟨rfl, hb⟩
      have HC8 := Aside0.mk (Kd.C_below HC7.out hb)
      have HB5 := Aside0.mk (below_step (below_step HB0.out HB1.out) hb)
      clear hb
      go_wp2_with fail
      go_ret3
      refine .inr ⟨by rw [HCO.out], A7, c7, t7, ?_, HC8.out, ?_, HB5.out⟩
      · simp [HCO.out]
      · rw [HCO.out, HT7.out, List.map_map]
        refine List.map_congr_left fun i hi => ?_
        have hi2 := List.mem_range.1 hi
        obtain ⟨a0, a1⟩ := HOR.out.rng i (by have := HOR.out.len; omega)
        have hvr := HC.out.vr _ (ord_val HC.out a0 a1)
        have hok := HOK.out i hi2
        exact flat_back hvr hok

set_option maxRecDepth 100000 in
set_option maxHeartbeats 8000000 in
theorem ltSql_5 (names : List ByteArray) (vals : List S24) (hcr : CR names vals) (r : List Int) (hgood : Good names r names.length) (gs : List Value) (b : Nat) (w : World) (hm : MapOk names vals b gs w) :
    Calls Try.prog 64 #[.map (some b), .bool false, .bool true] w (MapPost (colsN (cmpV 5) (ordG names vals r) names.length) w) := by
  have HC := Aside0.mk hcr
  have HM := Aside0.mk hm
  have HGD := Aside0.mk hgood
  have HOR := Aside0.mk (good_ok hgood)
  have hn8 : (names.length : Int) ≤ 8 := by have := hcr.n8; omega
  clear hm hgood hcr
  go_enter Try.func64, Try.ntmps64
  go_wp2_with fail
  obtain ⟨o, ho⟩ : ∃ o, o = sgn 5 := ⟨_, rfl⟩
  rw [show ((⟨#[60]⟩ : ByteArray) ++ (⟨#[61]⟩ : ByteArray) : ByteArray) = o from by rw [ho]; rfl]
  have HOP := Aside0.mk ho
  clear ho
  refine (keys_any names HC.out.n8 HC.out.nd gs HM.out.len b w HM.out.own).mono ?_
  rintro e w1 ⟨A, c, rfl, hCK, hb⟩
  rw [← good_sorted HGD.out] at hCK
  have HCK := Aside0.mk hCK
  have HB0 := Aside0.mk hb
  clear hb hCK
  go_wp2_with fail
  go_loopw [7, 8, 9, 24] (fun v7 v8 v9 i wr => ∃ (u7 u9 : Value) (x : Int), u7 = v7 ∧ v8 = .nilIface ∧ u9 = v9 ∧ i = .int .i64 x ∧ (0 ≤ x ∧ x ≤ names.length) ∧ Aside0 (∀ i, i < x.toNat → okv (ordG names vals r i).2) ∧ Aside0 (kI0.R 20 wr w1.heap.size (fun _ => True) u7 ((List.range x.toNat).map fun i => ofS0 (ordG names vals r i).2)) ∧ Aside0 (Kd.string.R 9 wr w1.heap.size (fun _ => True) u9 ((List.range x.toNat).map fun i => cmpT 5 (ordG names vals r i).1)) ∧ Aside0 (Below w1.heap.size w1 wr)) (fun _ _ _ i _ => names.length - (intOf i).toNat)
  case atStart => exact ⟨_, _, 0, rfl, rfl, rfl, rfl, ⟨by omega, by omega⟩, ⟨fun i hi => by simp at hi⟩, ⟨Kd.R_nil _ _ _ _ _⟩, ⟨Kd.R_nil _ _ _ _ _⟩, ⟨Below.refl _ _⟩⟩
  case round =>
    obtain ⟨u7, u9, x, rfl, rfl, rfl, rfl, ⟨hx0, hxn⟩, HOK, HR7, HR9, HB1⟩ := hrel
    by_cases hlt : x < names.length
    · have hrl := HOR.out.len
      obtain ⟨ad, e1, x0⟩ := Kd.at_string (Kd.C_below HCK.out HB1.out) x hx0 hlt
      cases e1
      rw [rdOf_map _ r x hx0 (by omega)] at x0
      obtain ⟨rj0, rj1⟩ := HOR.out.rng x.toNat (by omega)
      rw [Int.toNat_of_nonneg hx0] at rj0 rj1
      have HG := Aside0.mk (show ordG names vals r x.toNat = (rdOf ByteArray.empty names (YtagandfneflcbaaW.PrintWords.rd r x), rd_T24 vals (YtagandfneflcbaaW.PrintWords.rd r x)) by unfold ordG; rw [Int.toNat_of_nonneg hx0])
      obtain ⟨j, hj⟩ : ∃ j, j = YtagandfneflcbaaW.PrintWords.rd r x := ⟨_, rfl⟩
      rw [← hj] at x0 rj0 rj1 HG
      have hvn := HC.out.vn
      have hjt : j.toNat < names.length := by omega
      have hjv : j.toNat < vals.length := by omega
      have hjg : j.toNat < gs.length := by rw [HM.out.len]; exact hjt
      have HVR := Aside0.mk (HC.out.vr _ (ord_val HC.out rj0 rj1))
      have HNS := Aside0.mk (HC.out.pos _ (ord_name HC.out rj0 rj1)).2
      have hnmj : names[j.toNat] = rdOf ByteArray.empty names j := by simp [rdOf, List.getD_eq_getElem?_getD, List.getElem?_eq_getElem hjt]
      have hvj : vals[j.toNat] = rd_T24 vals j := by simp [rd_T24, List.getD_eq_getElem?_getD, List.getElem?_eq_getElem hjv]
      obtain ⟨w0, hK⟩ := HM.out.val j.toNat hjg hjv
      rw [hvj] at hK
      obtain ⟨nm, hnm⟩ : ∃ nm, nm = rdOf ByteArray.empty names j := ⟨_, rfl⟩
      obtain ⟨xv, hxv⟩ : ∃ xv, xv = rd_T24 vals j := ⟨_, rfl⟩
      rw [← hnm] at x0 HNS HG hnmj
      rw [← hxv] at HG HVR hK
      have hkey : keyOf Try.prog 9 (.string nm) = some (keyL nm) := WideMaps.keyOf_string_mk (P := Try.prog) Try.underlying9 (s := nm) (by have := HNS.out; unfold maxLen; omega)
      obtain ⟨v, ps, hlk, hRv⟩ := (HM.out.own.kept (grown_of_below (below_step HB0.out HB1.out) none) (by simp)).lookup law9 Try.underlying69 (zero20 wr) (zd := .held .nilIface) (zp := []) rfl hkey
      have hat := mapTo_at HM.out.len HC.out.nd (.held .nilIface) j.toNat names.length (Nat.le_refl _) hjt
      rw [hnmj] at hat
      have hv : v = gs[j.toNat] := by
        have h1 := RH_held hRv
        rw [show (tab names gs).atKey (keyL nm) (.held .nilIface) = _ from hat] at h1
        injection h1 with h1
        exact h1.symm
      have hsh := g_shape HVR.out hK
      rw [← hv] at hsh
      have h1 : ((List.range x.toNat).map fun i => ofS0 (ordG names vals r i).2).length = x.toNat := by simp
      have h2 : ((List.range x.toNat).map fun i => cmpT 5 (ordG names vals r i).1).length = x.toNat := by simp
      have HL1 := Aside0.mk h1
      have HL2 := Aside0.mk h2
      have HAP := Aside0.mk (apart_of HR7.out HR9.out (by decide))
      clear hj hnm hxv hnmj hvj hK hkey hRv hat hv h1 h2 hvn hjt hjv hjg rj0 rj1 hrl
      have s1 : (nm ++ (⟨#[32]⟩ : ByteArray)).size = nm.size + 1 := by rw [ByteArray.size_append]; rfl
      have hz : o.size ≤ 10 := by rw [HOP.out]; exact sgn_size 5
      have hn40 := HNS.out
      have s2 : (nm ++ (⟨#[32]⟩ : ByteArray) ++ o).size = nm.size + 1 + o.size := by rw [ByteArray.size_append, s1]
      have e1 := eq_false (show ¬ (9223372036854775807 < nm.size + 1) by omega)
      have e2 := eq_false (show ¬ (9223372036854775807 < (nm ++ (⟨#[32]⟩ : ByteArray)).size + o.size) by omega)
      have e3 := eq_false (show ¬ (9223372036854775807 < (nm ++ (⟨#[32]⟩ : ByteArray) ++ o).size + 2) by omega)
      have e4 := eq_false (show ¬ (9223372036854775807 < nm.size + 1 + o.size) by omega)
      have e5 := eq_false (show ¬ (9223372036854775807 < nm.size + 1 + o.size + 2) by omega)
      have HCT := Aside0.mk (show cmpT 5 nm = nm ++ ⟨#[32]⟩ ++ o ++ ⟨#[32, 63]⟩ by unfold cmpT; rw [HOP.out])
      clear s1 s2 hz hn40
      rcases hsh with ⟨rfl, hno⟩ | ⟨v57, rfl, hno⟩ | ⟨i0, rfl, hi0, hok, hts⟩
      · have HNO := Aside0.mk hno
        clear hno
        go_wp2_with fail
        refine (errorsNew_any _ _).mono ?_
        rintro e w2 ⟨rfl, rfl⟩
        go_wp2_with fail
        go_ret3
        exact .inl ⟨colsN_no 5 _ _ ⟨x.toNat, by omega, by rw [HG.out]; exact HNO.out⟩, _, _, _, rfl, (below_step HB0.out HB1.out).alloc (below_step HB0.out HB1.out).size _⟩
      · have HNO := Aside0.mk hno
        clear hno
        go_wp2_with fail
        refine (isList_lst v57 _).mono ?_
        rintro e w2 ⟨rfl, rfl⟩
        go_wp2_with fail
        refine (errorsNew_any _ _).mono ?_
        rintro e w2 ⟨rfl, rfl⟩
        go_wp2_with fail
        go_ret3
        exact .inl ⟨colsN_no 5 _ _ ⟨x.toNat, by omega, by rw [HG.out]; exact HNO.out⟩, _, _, _, rfl, (below_step HB0.out HB1.out).alloc (below_step HB0.out HB1.out).size _⟩
      · have HTS := Aside0.mk hts
        have HOKV := Aside0.mk hok
        clear hts hok
        cases i0 with
        | nil => exact absurd rfl hi0
        | int n =>
          simp only [enc0] at hlk
          go_wp2_with fail
          refine (isList_sc (.int n) _).mono ?_
          rintro e w2 ⟨rfl, rfl⟩
          go_wp2_with (first | ((with_reducible refine gate_builtin (b := .append) (xs := #[.tmp 42, .tmp 44]) rfl ?_); at_builtin; go_loud (refine Kd.R_append kI0 (w0 := w1) w1.heap.size rfl (.tmp 42) (.tmp 44) 57 20 .nilIface 16 rfl Try.underlying57 info20 rfl (by decide) (by omega) u7 ((List.range x.toNat).map fun i => ofS0 (ordG names vals r i).2) (.int n) [enc0 (.int n)] (fun _ => True) (fun k => True ∧ some k ≠ u7.ownBlock) rfl rfl ?aP (fun _ hk => hk) (fun _ _ => trivial) ?aO ?aB ?aS ?aL ?_; (case aP => exact rfl); (case aO => exact HR7.out); (case aB => exact HB1.out); (case aS => exact HB1.out.size); (case aL => rw [HL1.out]; omega); intro v1 w3 ho hb hg1 hat1; have HO3 := Aside0.mk ho; have HB3 := Aside0.mk hb; have HT3 := Aside0.mk (Kd.R_grown2 HR9.out rfl hg1 HAP.out); have HP3 := Aside0.mk (apart_of (Kd.R_grown2 HR9.out rfl hg1 HAP.out) ho (by decide)); clear ho hb hg1 hat1)) | ((with_reducible refine gate_builtin (b := .append) (xs := #[.tmp 46, .tmp 48]) rfl ?_); at_builtin; go_loud (refine Kd.R_append (W := w3) Kd.string (w0 := w1) w1.heap.size rfl (.tmp 46) (.tmp 48) 27 9 (.string ⟨#[]⟩) 16 rfl Try.underlying27 info9 rfl (by decide) (by omega) u9 ((List.range x.toNat).map fun i => cmpT 5 (ordG names vals r i).1) (nm ++ (⟨#[32]⟩ : ByteArray) ++ o ++ (⟨#[32, 63]⟩ : ByteArray)) [Value.string (nm ++ (⟨#[32]⟩ : ByteArray) ++ o ++ (⟨#[32, 63]⟩ : ByteArray))] (fun _ => True) (fun k => True ∧ some k ≠ u9.ownBlock) rfl rfl ?aP (fun _ hk => hk) (fun _ _ => trivial) ?aO ?aB ?aS ?aL ?_; (case aP => exact rfl); (case aO => exact HT3.out); (case aB => exact HB3.out); (case aS => exact HB3.out.size); (case aL => rw [HL2.out]; omega); intro v2 w4 ho hb hg1 hat1; have HO4 := Aside0.mk ho; have HB4 := Aside0.mk hb; have HA4 := Aside0.mk (Kd.R_grown2 HO3.out rfl hg1 HP3.out); clear ho hb hg1 hat1)))
          go_roundw
          case rel =>
            refine ⟨v1, v2, x + 1, rfl, rfl, rfl, rfl, ⟨by omega, by omega⟩, ⟨fun i hi => ?_⟩, ⟨?_⟩, ⟨?_⟩, HB4⟩
            · rcases Nat.lt_or_ge i x.toNat with h | h
              · exact HOK.out i h
              · obtain rfl : i = x.toNat := by omega
                rw [HG.out]; exact HOKV.out
            · rw [take_upR _ x hx0, HG.out]
              have : ofS0 xv = .int n := by rw [← HTS.out]; exact rfl
              show kI0.R 20 w4 w1.heap.size (fun _ => True) v1 (_ ++ [ofS0 xv])
              rw [this]
              exact HA4.out
            · rw [take_upR _ x hx0, HG.out]
              show Kd.string.R 9 w4 w1.heap.size (fun _ => True) v2 (_ ++ [cmpT 5 nm])
              rw [HCT.out]
              exact HO4.out
          case measure => simp [intOf]; omega
        | str n =>
          simp only [enc0] at hlk
          go_wp2_with fail
          refine (isList_sc (.str n) _).mono ?_
          rintro e w2 ⟨rfl, rfl⟩
          go_wp2_with (first | ((with_reducible refine gate_builtin (b := .append) (xs := #[.tmp 42, .tmp 44]) rfl ?_); at_builtin; go_loud (refine Kd.R_append kI0 (w0 := w1) w1.heap.size rfl (.tmp 42) (.tmp 44) 57 20 .nilIface 16 rfl Try.underlying57 info20 rfl (by decide) (by omega) u7 ((List.range x.toNat).map fun i => ofS0 (ordG names vals r i).2) (.str n) [enc0 (.str n)] (fun _ => True) (fun k => True ∧ some k ≠ u7.ownBlock) rfl rfl ?aP (fun _ hk => hk) (fun _ _ => trivial) ?aO ?aB ?aS ?aL ?_; (case aP => exact rfl); (case aO => exact HR7.out); (case aB => exact HB1.out); (case aS => exact HB1.out.size); (case aL => rw [HL1.out]; omega); intro v1 w3 ho hb hg1 hat1; have HO3 := Aside0.mk ho; have HB3 := Aside0.mk hb; have HT3 := Aside0.mk (Kd.R_grown2 HR9.out rfl hg1 HAP.out); have HP3 := Aside0.mk (apart_of (Kd.R_grown2 HR9.out rfl hg1 HAP.out) ho (by decide)); clear ho hb hg1 hat1)) | ((with_reducible refine gate_builtin (b := .append) (xs := #[.tmp 46, .tmp 48]) rfl ?_); at_builtin; go_loud (refine Kd.R_append (W := w3) Kd.string (w0 := w1) w1.heap.size rfl (.tmp 46) (.tmp 48) 27 9 (.string ⟨#[]⟩) 16 rfl Try.underlying27 info9 rfl (by decide) (by omega) u9 ((List.range x.toNat).map fun i => cmpT 5 (ordG names vals r i).1) (nm ++ (⟨#[32]⟩ : ByteArray) ++ o ++ (⟨#[32, 63]⟩ : ByteArray)) [Value.string (nm ++ (⟨#[32]⟩ : ByteArray) ++ o ++ (⟨#[32, 63]⟩ : ByteArray))] (fun _ => True) (fun k => True ∧ some k ≠ u9.ownBlock) rfl rfl ?aP (fun _ hk => hk) (fun _ _ => trivial) ?aO ?aB ?aS ?aL ?_; (case aP => exact rfl); (case aO => exact HT3.out); (case aB => exact HB3.out); (case aS => exact HB3.out.size); (case aL => rw [HL2.out]; omega); intro v2 w4 ho hb hg1 hat1; have HO4 := Aside0.mk ho; have HB4 := Aside0.mk hb; have HA4 := Aside0.mk (Kd.R_grown2 HO3.out rfl hg1 HP3.out); clear ho hb hg1 hat1)))
          go_roundw
          case rel =>
            refine ⟨v1, v2, x + 1, rfl, rfl, rfl, rfl, ⟨by omega, by omega⟩, ⟨fun i hi => ?_⟩, ⟨?_⟩, ⟨?_⟩, HB4⟩
            · rcases Nat.lt_or_ge i x.toNat with h | h
              · exact HOK.out i h
              · obtain rfl : i = x.toNat := by omega
                rw [HG.out]; exact HOKV.out
            · rw [take_upR _ x hx0, HG.out]
              have : ofS0 xv = .str n := by rw [← HTS.out]; exact rfl
              show kI0.R 20 w4 w1.heap.size (fun _ => True) v1 (_ ++ [ofS0 xv])
              rw [this]
              exact HA4.out
            · rw [take_upR _ x hx0, HG.out]
              show Kd.string.R 9 w4 w1.heap.size (fun _ => True) v2 (_ ++ [cmpT 5 nm])
              rw [HCT.out]
              exact HO4.out
          case measure => simp [intOf]; omega
        | bool n =>
          simp only [enc0] at hlk
          go_wp2_with fail
          refine (isList_sc (.bool n) _).mono ?_
          rintro e w2 ⟨rfl, rfl⟩
          go_wp2_with (first | ((with_reducible refine gate_builtin (b := .append) (xs := #[.tmp 42, .tmp 44]) rfl ?_); at_builtin; go_loud (refine Kd.R_append kI0 (w0 := w1) w1.heap.size rfl (.tmp 42) (.tmp 44) 57 20 .nilIface 16 rfl Try.underlying57 info20 rfl (by decide) (by omega) u7 ((List.range x.toNat).map fun i => ofS0 (ordG names vals r i).2) (.bool n) [enc0 (.bool n)] (fun _ => True) (fun k => True ∧ some k ≠ u7.ownBlock) rfl rfl ?aP (fun _ hk => hk) (fun _ _ => trivial) ?aO ?aB ?aS ?aL ?_; (case aP => exact rfl); (case aO => exact HR7.out); (case aB => exact HB1.out); (case aS => exact HB1.out.size); (case aL => rw [HL1.out]; omega); intro v1 w3 ho hb hg1 hat1; have HO3 := Aside0.mk ho; have HB3 := Aside0.mk hb; have HT3 := Aside0.mk (Kd.R_grown2 HR9.out rfl hg1 HAP.out); have HP3 := Aside0.mk (apart_of (Kd.R_grown2 HR9.out rfl hg1 HAP.out) ho (by decide)); clear ho hb hg1 hat1)) | ((with_reducible refine gate_builtin (b := .append) (xs := #[.tmp 46, .tmp 48]) rfl ?_); at_builtin; go_loud (refine Kd.R_append (W := w3) Kd.string (w0 := w1) w1.heap.size rfl (.tmp 46) (.tmp 48) 27 9 (.string ⟨#[]⟩) 16 rfl Try.underlying27 info9 rfl (by decide) (by omega) u9 ((List.range x.toNat).map fun i => cmpT 5 (ordG names vals r i).1) (nm ++ (⟨#[32]⟩ : ByteArray) ++ o ++ (⟨#[32, 63]⟩ : ByteArray)) [Value.string (nm ++ (⟨#[32]⟩ : ByteArray) ++ o ++ (⟨#[32, 63]⟩ : ByteArray))] (fun _ => True) (fun k => True ∧ some k ≠ u9.ownBlock) rfl rfl ?aP (fun _ hk => hk) (fun _ _ => trivial) ?aO ?aB ?aS ?aL ?_; (case aP => exact rfl); (case aO => exact HT3.out); (case aB => exact HB3.out); (case aS => exact HB3.out.size); (case aL => rw [HL2.out]; omega); intro v2 w4 ho hb hg1 hat1; have HO4 := Aside0.mk ho; have HB4 := Aside0.mk hb; have HA4 := Aside0.mk (Kd.R_grown2 HO3.out rfl hg1 HP3.out); clear ho hb hg1 hat1)))
          go_roundw
          case rel =>
            refine ⟨v1, v2, x + 1, rfl, rfl, rfl, rfl, ⟨by omega, by omega⟩, ⟨fun i hi => ?_⟩, ⟨?_⟩, ⟨?_⟩, HB4⟩
            · rcases Nat.lt_or_ge i x.toNat with h | h
              · exact HOK.out i h
              · obtain rfl : i = x.toNat := by omega
                rw [HG.out]; exact HOKV.out
            · rw [take_upR _ x hx0, HG.out]
              have : ofS0 xv = .bool n := by rw [← HTS.out]; exact by cases n <;> rfl
              show kI0.R 20 w4 w1.heap.size (fun _ => True) v1 (_ ++ [ofS0 xv])
              rw [this]
              exact HA4.out
            · rw [take_upR _ x hx0, HG.out]
              show Kd.string.R 9 w4 w1.heap.size (fun _ => True) v2 (_ ++ [cmpT 5 nm])
              rw [HCT.out]
              exact HO4.out
          case measure => simp [intOf]; omega
    · obtain rfl : x = names.length := by omega
      rw [Int.toNat_natCast] at HOK HR7 HR9
      have HCO := Aside0.mk (colsN_ok 5 (ordG names vals r) names.length HOK.out)
      have hj9 : (Lib.join (((List.range names.length).map fun i => cmpT 5 (ordG names vals r i).1).map bytesOf) (bytesOf and5)).length ≤ 1000000 := by
        have hf := (colsN_fair (cmpV 5) (ordG names vals r) names.length (fun i hi => by
            obtain ⟨a0, a1⟩ := HOR.out.rng i (by have := HOR.out.len; omega)
            exact cmpV_fair 5 _ (HC.out.pos _ (ord_name HC.out a0 a1)).2 _) names.length (Nat.le_refl _)).1
        rw [HCO.out] at hf
        have h3 : (ofBytes (Lib.join (((List.range names.length).map fun i => cmpT 5 (ordG names vals r i).1).map bytesOf) (bytesOf and5))).size = (Lib.join (((List.range names.length).map fun i => cmpT 5 (ordG names vals r i).1).map bytesOf) (bytesOf and5)).length := by simp [ofBytes, ByteArray.size]
        rw [h3] at hf
        have := HC.out.n8
        omega
      obtain ⟨t9, ht9⟩ : ∃ t9, t9 = (List.range names.length).map fun i => cmpT 5 (ordG names vals r i).1 := ⟨_, rfl⟩
      obtain ⟨t7, ht7⟩ : ∃ t7, t7 = (List.range names.length).map fun i => ofS0 (ordG names vals r i).2 := ⟨_, rfl⟩
      rw [← ht9] at HR9 hj9 HCO
      rw [← ht7] at HR7
      have HJ := Aside0.mk hj9
      have HL9 := Aside0.mk (show t9.length ≤ 1000000 by rw [ht9]; simp; omega)
      have HT7 := Aside0.mk ht7
      clear hj9 ht9 ht7
      obtain ⟨A9, c9, rfl⟩ := Kd.R_slice HR9.out
      obtain ⟨A7, c7, rfl, _, hC7⟩ := Kd.R_reads HR7.out
      have HC7 := Aside0.mk hC7
      clear hC7
      go_wp2_with fail
      refine (strings_join t9 A9 c9 and5 wr w1.heap.size (fun _ => True) HR9.out HL9.out HJ.out).mono ?_
      rintro e w5 ⟨rfl, hb⟩
      have HC8 := Aside0.mk (Kd.C_below HC7.out hb)
      have HB5 := Aside0.mk (below_step (below_step HB0.out HB1.out) hb)
      clear hb
      go_wp2_with fail
      go_ret3
      refine .inr ⟨by rw [HCO.out], A7, c7, t7, ?_, HC8.out, ?_, HB5.out⟩
      · simp [HCO.out]
      · rw [HCO.out, HT7.out, List.map_map]
        refine List.map_congr_left fun i hi => ?_
        have hi2 := List.mem_range.1 hi
        obtain ⟨a0, a1⟩ := HOR.out.rng i (by have := HOR.out.len; omega)
        have hvr := HC.out.vr _ (ord_val HC.out a0 a1)
        have hok := HOK.out i hi2
        exact flat_back hvr hok

set_option maxRecDepth 100000 in
set_option maxHeartbeats 8000000 in
theorem ltSql_6 (names : List ByteArray) (vals : List S24) (hcr : CR names vals) (r : List Int) (hgood : Good names r names.length) (gs : List Value) (b : Nat) (w : World) (hm : MapOk names vals b gs w) :
    Calls Try.prog 64 #[.map (some b), .bool true, .bool false] w (MapPost (colsN (cmpV 6) (ordG names vals r) names.length) w) := by
  have HC := Aside0.mk hcr
  have HM := Aside0.mk hm
  have HGD := Aside0.mk hgood
  have HOR := Aside0.mk (good_ok hgood)
  have hn8 : (names.length : Int) ≤ 8 := by have := hcr.n8; omega
  clear hm hgood hcr
  go_enter Try.func64, Try.ntmps64
  go_wp2_with fail
  obtain ⟨o, ho⟩ : ∃ o, o = sgn 6 := ⟨_, rfl⟩
  rw [show (⟨#[62]⟩ : ByteArray) = o from by rw [ho]; rfl]
  have HOP := Aside0.mk ho
  clear ho
  refine (keys_any names HC.out.n8 HC.out.nd gs HM.out.len b w HM.out.own).mono ?_
  rintro e w1 ⟨A, c, rfl, hCK, hb⟩
  rw [← good_sorted HGD.out] at hCK
  have HCK := Aside0.mk hCK
  have HB0 := Aside0.mk hb
  clear hb hCK
  go_wp2_with fail
  go_loopw [7, 8, 9, 24] (fun v7 v8 v9 i wr => ∃ (u7 u9 : Value) (x : Int), u7 = v7 ∧ v8 = .nilIface ∧ u9 = v9 ∧ i = .int .i64 x ∧ (0 ≤ x ∧ x ≤ names.length) ∧ Aside0 (∀ i, i < x.toNat → okv (ordG names vals r i).2) ∧ Aside0 (kI0.R 20 wr w1.heap.size (fun _ => True) u7 ((List.range x.toNat).map fun i => ofS0 (ordG names vals r i).2)) ∧ Aside0 (Kd.string.R 9 wr w1.heap.size (fun _ => True) u9 ((List.range x.toNat).map fun i => cmpT 6 (ordG names vals r i).1)) ∧ Aside0 (Below w1.heap.size w1 wr)) (fun _ _ _ i _ => names.length - (intOf i).toNat)
  case atStart => exact ⟨_, _, 0, rfl, rfl, rfl, rfl, ⟨by omega, by omega⟩, ⟨fun i hi => by simp at hi⟩, ⟨Kd.R_nil _ _ _ _ _⟩, ⟨Kd.R_nil _ _ _ _ _⟩, ⟨Below.refl _ _⟩⟩
  case round =>
    obtain ⟨u7, u9, x, rfl, rfl, rfl, rfl, ⟨hx0, hxn⟩, HOK, HR7, HR9, HB1⟩ := hrel
    by_cases hlt : x < names.length
    · have hrl := HOR.out.len
      obtain ⟨ad, e1, x0⟩ := Kd.at_string (Kd.C_below HCK.out HB1.out) x hx0 hlt
      cases e1
      rw [rdOf_map _ r x hx0 (by omega)] at x0
      obtain ⟨rj0, rj1⟩ := HOR.out.rng x.toNat (by omega)
      rw [Int.toNat_of_nonneg hx0] at rj0 rj1
      have HG := Aside0.mk (show ordG names vals r x.toNat = (rdOf ByteArray.empty names (YtagandfneflcbaaW.PrintWords.rd r x), rd_T24 vals (YtagandfneflcbaaW.PrintWords.rd r x)) by unfold ordG; rw [Int.toNat_of_nonneg hx0])
      obtain ⟨j, hj⟩ : ∃ j, j = YtagandfneflcbaaW.PrintWords.rd r x := ⟨_, rfl⟩
      rw [← hj] at x0 rj0 rj1 HG
      have hvn := HC.out.vn
      have hjt : j.toNat < names.length := by omega
      have hjv : j.toNat < vals.length := by omega
      have hjg : j.toNat < gs.length := by rw [HM.out.len]; exact hjt
      have HVR := Aside0.mk (HC.out.vr _ (ord_val HC.out rj0 rj1))
      have HNS := Aside0.mk (HC.out.pos _ (ord_name HC.out rj0 rj1)).2
      have hnmj : names[j.toNat] = rdOf ByteArray.empty names j := by simp [rdOf, List.getD_eq_getElem?_getD, List.getElem?_eq_getElem hjt]
      have hvj : vals[j.toNat] = rd_T24 vals j := by simp [rd_T24, List.getD_eq_getElem?_getD, List.getElem?_eq_getElem hjv]
      obtain ⟨w0, hK⟩ := HM.out.val j.toNat hjg hjv
      rw [hvj] at hK
      obtain ⟨nm, hnm⟩ : ∃ nm, nm = rdOf ByteArray.empty names j := ⟨_, rfl⟩
      obtain ⟨xv, hxv⟩ : ∃ xv, xv = rd_T24 vals j := ⟨_, rfl⟩
      rw [← hnm] at x0 HNS HG hnmj
      rw [← hxv] at HG HVR hK
      have hkey : keyOf Try.prog 9 (.string nm) = some (keyL nm) := WideMaps.keyOf_string_mk (P := Try.prog) Try.underlying9 (s := nm) (by have := HNS.out; unfold maxLen; omega)
      obtain ⟨v, ps, hlk, hRv⟩ := (HM.out.own.kept (grown_of_below (below_step HB0.out HB1.out) none) (by simp)).lookup law9 Try.underlying69 (zero20 wr) (zd := .held .nilIface) (zp := []) rfl hkey
      have hat := mapTo_at HM.out.len HC.out.nd (.held .nilIface) j.toNat names.length (Nat.le_refl _) hjt
      rw [hnmj] at hat
      have hv : v = gs[j.toNat] := by
        have h1 := RH_held hRv
        rw [show (tab names gs).atKey (keyL nm) (.held .nilIface) = _ from hat] at h1
        injection h1 with h1
        exact h1.symm
      have hsh := g_shape HVR.out hK
      rw [← hv] at hsh
      have h1 : ((List.range x.toNat).map fun i => ofS0 (ordG names vals r i).2).length = x.toNat := by simp
      have h2 : ((List.range x.toNat).map fun i => cmpT 6 (ordG names vals r i).1).length = x.toNat := by simp
      have HL1 := Aside0.mk h1
      have HL2 := Aside0.mk h2
      have HAP := Aside0.mk (apart_of HR7.out HR9.out (by decide))
      clear hj hnm hxv hnmj hvj hK hkey hRv hat hv h1 h2 hvn hjt hjv hjg rj0 rj1 hrl
      have s1 : (nm ++ (⟨#[32]⟩ : ByteArray)).size = nm.size + 1 := by rw [ByteArray.size_append]; rfl
      have hz : o.size ≤ 10 := by rw [HOP.out]; exact sgn_size 6
      have hn40 := HNS.out
      have s2 : (nm ++ (⟨#[32]⟩ : ByteArray) ++ o).size = nm.size + 1 + o.size := by rw [ByteArray.size_append, s1]
      have e1 := eq_false (show ¬ (9223372036854775807 < nm.size + 1) by omega)
      have e2 := eq_false (show ¬ (9223372036854775807 < (nm ++ (⟨#[32]⟩ : ByteArray)).size + o.size) by omega)
      have e3 := eq_false (show ¬ (9223372036854775807 < (nm ++ (⟨#[32]⟩ : ByteArray) ++ o).size + 2) by omega)
      have e4 := eq_false (show ¬ (9223372036854775807 < nm.size + 1 + o.size) by omega)
      have e5 := eq_false (show ¬ (9223372036854775807 < nm.size + 1 + o.size + 2) by omega)
      have HCT := Aside0.mk (show cmpT 6 nm = nm ++ ⟨#[32]⟩ ++ o ++ ⟨#[32, 63]⟩ by unfold cmpT; rw [HOP.out])
      clear s1 s2 hz hn40
      rcases hsh with ⟨rfl, hno⟩ | ⟨v57, rfl, hno⟩ | ⟨i0, rfl, hi0, hok, hts⟩
      · have HNO := Aside0.mk hno
        clear hno
        go_wp2_with fail
        refine (errorsNew_any _ _).mono ?_
        rintro e w2 ⟨rfl, rfl⟩
        go_wp2_with fail
        go_ret3
        exact .inl ⟨colsN_no 6 _ _ ⟨x.toNat, by omega, by rw [HG.out]; exact HNO.out⟩, _, _, _, rfl, (below_step HB0.out HB1.out).alloc (below_step HB0.out HB1.out).size _⟩
      · have HNO := Aside0.mk hno
        clear hno
        go_wp2_with fail
        refine (isList_lst v57 _).mono ?_
        rintro e w2 ⟨rfl, rfl⟩
        go_wp2_with fail
        refine (errorsNew_any _ _).mono ?_
        rintro e w2 ⟨rfl, rfl⟩
        go_wp2_with fail
        go_ret3
        exact .inl ⟨colsN_no 6 _ _ ⟨x.toNat, by omega, by rw [HG.out]; exact HNO.out⟩, _, _, _, rfl, (below_step HB0.out HB1.out).alloc (below_step HB0.out HB1.out).size _⟩
      · have HTS := Aside0.mk hts
        have HOKV := Aside0.mk hok
        clear hts hok
        cases i0 with
        | nil => exact absurd rfl hi0
        | int n =>
          simp only [enc0] at hlk
          go_wp2_with fail
          refine (isList_sc (.int n) _).mono ?_
          rintro e w2 ⟨rfl, rfl⟩
          go_wp2_with (first | ((with_reducible refine gate_builtin (b := .append) (xs := #[.tmp 42, .tmp 44]) rfl ?_); at_builtin; go_loud (refine Kd.R_append kI0 (w0 := w1) w1.heap.size rfl (.tmp 42) (.tmp 44) 57 20 .nilIface 16 rfl Try.underlying57 info20 rfl (by decide) (by omega) u7 ((List.range x.toNat).map fun i => ofS0 (ordG names vals r i).2) (.int n) [enc0 (.int n)] (fun _ => True) (fun k => True ∧ some k ≠ u7.ownBlock) rfl rfl ?aP (fun _ hk => hk) (fun _ _ => trivial) ?aO ?aB ?aS ?aL ?_; (case aP => exact rfl); (case aO => exact HR7.out); (case aB => exact HB1.out); (case aS => exact HB1.out.size); (case aL => rw [HL1.out]; omega); intro v1 w3 ho hb hg1 hat1; have HO3 := Aside0.mk ho; have HB3 := Aside0.mk hb; have HT3 := Aside0.mk (Kd.R_grown2 HR9.out rfl hg1 HAP.out); have HP3 := Aside0.mk (apart_of (Kd.R_grown2 HR9.out rfl hg1 HAP.out) ho (by decide)); clear ho hb hg1 hat1)) | ((with_reducible refine gate_builtin (b := .append) (xs := #[.tmp 46, .tmp 48]) rfl ?_); at_builtin; go_loud (refine Kd.R_append (W := w3) Kd.string (w0 := w1) w1.heap.size rfl (.tmp 46) (.tmp 48) 27 9 (.string ⟨#[]⟩) 16 rfl Try.underlying27 info9 rfl (by decide) (by omega) u9 ((List.range x.toNat).map fun i => cmpT 6 (ordG names vals r i).1) (nm ++ (⟨#[32]⟩ : ByteArray) ++ o ++ (⟨#[32, 63]⟩ : ByteArray)) [Value.string (nm ++ (⟨#[32]⟩ : ByteArray) ++ o ++ (⟨#[32, 63]⟩ : ByteArray))] (fun _ => True) (fun k => True ∧ some k ≠ u9.ownBlock) rfl rfl ?aP (fun _ hk => hk) (fun _ _ => trivial) ?aO ?aB ?aS ?aL ?_; (case aP => exact rfl); (case aO => exact HT3.out); (case aB => exact HB3.out); (case aS => exact HB3.out.size); (case aL => rw [HL2.out]; omega); intro v2 w4 ho hb hg1 hat1; have HO4 := Aside0.mk ho; have HB4 := Aside0.mk hb; have HA4 := Aside0.mk (Kd.R_grown2 HO3.out rfl hg1 HP3.out); clear ho hb hg1 hat1)))
          go_roundw
          case rel =>
            refine ⟨v1, v2, x + 1, rfl, rfl, rfl, rfl, ⟨by omega, by omega⟩, ⟨fun i hi => ?_⟩, ⟨?_⟩, ⟨?_⟩, HB4⟩
            · rcases Nat.lt_or_ge i x.toNat with h | h
              · exact HOK.out i h
              · obtain rfl : i = x.toNat := by omega
                rw [HG.out]; exact HOKV.out
            · rw [take_upR _ x hx0, HG.out]
              have : ofS0 xv = .int n := by rw [← HTS.out]; exact rfl
              show kI0.R 20 w4 w1.heap.size (fun _ => True) v1 (_ ++ [ofS0 xv])
              rw [this]
              exact HA4.out
            · rw [take_upR _ x hx0, HG.out]
              show Kd.string.R 9 w4 w1.heap.size (fun _ => True) v2 (_ ++ [cmpT 6 nm])
              rw [HCT.out]
              exact HO4.out
          case measure => simp [intOf]; omega
        | str n =>
          simp only [enc0] at hlk
          go_wp2_with fail
          refine (isList_sc (.str n) _).mono ?_
          rintro e w2 ⟨rfl, rfl⟩
          go_wp2_with (first | ((with_reducible refine gate_builtin (b := .append) (xs := #[.tmp 42, .tmp 44]) rfl ?_); at_builtin; go_loud (refine Kd.R_append kI0 (w0 := w1) w1.heap.size rfl (.tmp 42) (.tmp 44) 57 20 .nilIface 16 rfl Try.underlying57 info20 rfl (by decide) (by omega) u7 ((List.range x.toNat).map fun i => ofS0 (ordG names vals r i).2) (.str n) [enc0 (.str n)] (fun _ => True) (fun k => True ∧ some k ≠ u7.ownBlock) rfl rfl ?aP (fun _ hk => hk) (fun _ _ => trivial) ?aO ?aB ?aS ?aL ?_; (case aP => exact rfl); (case aO => exact HR7.out); (case aB => exact HB1.out); (case aS => exact HB1.out.size); (case aL => rw [HL1.out]; omega); intro v1 w3 ho hb hg1 hat1; have HO3 := Aside0.mk ho; have HB3 := Aside0.mk hb; have HT3 := Aside0.mk (Kd.R_grown2 HR9.out rfl hg1 HAP.out); have HP3 := Aside0.mk (apart_of (Kd.R_grown2 HR9.out rfl hg1 HAP.out) ho (by decide)); clear ho hb hg1 hat1)) | ((with_reducible refine gate_builtin (b := .append) (xs := #[.tmp 46, .tmp 48]) rfl ?_); at_builtin; go_loud (refine Kd.R_append (W := w3) Kd.string (w0 := w1) w1.heap.size rfl (.tmp 46) (.tmp 48) 27 9 (.string ⟨#[]⟩) 16 rfl Try.underlying27 info9 rfl (by decide) (by omega) u9 ((List.range x.toNat).map fun i => cmpT 6 (ordG names vals r i).1) (nm ++ (⟨#[32]⟩ : ByteArray) ++ o ++ (⟨#[32, 63]⟩ : ByteArray)) [Value.string (nm ++ (⟨#[32]⟩ : ByteArray) ++ o ++ (⟨#[32, 63]⟩ : ByteArray))] (fun _ => True) (fun k => True ∧ some k ≠ u9.ownBlock) rfl rfl ?aP (fun _ hk => hk) (fun _ _ => trivial) ?aO ?aB ?aS ?aL ?_; (case aP => exact rfl); (case aO => exact HT3.out); (case aB => exact HB3.out); (case aS => exact HB3.out.size); (case aL => rw [HL2.out]; omega); intro v2 w4 ho hb hg1 hat1; have HO4 := Aside0.mk ho; have HB4 := Aside0.mk hb; have HA4 := Aside0.mk (Kd.R_grown2 HO3.out rfl hg1 HP3.out); clear ho hb hg1 hat1)))
          go_roundw
          case rel =>
            refine ⟨v1, v2, x + 1, rfl, rfl, rfl, rfl, ⟨by omega, by omega⟩, ⟨fun i hi => ?_⟩, ⟨?_⟩, ⟨?_⟩, HB4⟩
            · rcases Nat.lt_or_ge i x.toNat with h | h
              · exact HOK.out i h
              · obtain rfl : i = x.toNat := by omega
                rw [HG.out]; exact HOKV.out
            · rw [take_upR _ x hx0, HG.out]
              have : ofS0 xv = .str n := by rw [← HTS.out]; exact rfl
              show kI0.R 20 w4 w1.heap.size (fun _ => True) v1 (_ ++ [ofS0 xv])
              rw [this]
              exact HA4.out
            · rw [take_upR _ x hx0, HG.out]
              show Kd.string.R 9 w4 w1.heap.size (fun _ => True) v2 (_ ++ [cmpT 6 nm])
              rw [HCT.out]
              exact HO4.out
          case measure => simp [intOf]; omega
        | bool n =>
          simp only [enc0] at hlk
          go_wp2_with fail
          refine (isList_sc (.bool n) _).mono ?_
          rintro e w2 ⟨rfl, rfl⟩
          go_wp2_with (first | ((with_reducible refine gate_builtin (b := .append) (xs := #[.tmp 42, .tmp 44]) rfl ?_); at_builtin; go_loud (refine Kd.R_append kI0 (w0 := w1) w1.heap.size rfl (.tmp 42) (.tmp 44) 57 20 .nilIface 16 rfl Try.underlying57 info20 rfl (by decide) (by omega) u7 ((List.range x.toNat).map fun i => ofS0 (ordG names vals r i).2) (.bool n) [enc0 (.bool n)] (fun _ => True) (fun k => True ∧ some k ≠ u7.ownBlock) rfl rfl ?aP (fun _ hk => hk) (fun _ _ => trivial) ?aO ?aB ?aS ?aL ?_; (case aP => exact rfl); (case aO => exact HR7.out); (case aB => exact HB1.out); (case aS => exact HB1.out.size); (case aL => rw [HL1.out]; omega); intro v1 w3 ho hb hg1 hat1; have HO3 := Aside0.mk ho; have HB3 := Aside0.mk hb; have HT3 := Aside0.mk (Kd.R_grown2 HR9.out rfl hg1 HAP.out); have HP3 := Aside0.mk (apart_of (Kd.R_grown2 HR9.out rfl hg1 HAP.out) ho (by decide)); clear ho hb hg1 hat1)) | ((with_reducible refine gate_builtin (b := .append) (xs := #[.tmp 46, .tmp 48]) rfl ?_); at_builtin; go_loud (refine Kd.R_append (W := w3) Kd.string (w0 := w1) w1.heap.size rfl (.tmp 46) (.tmp 48) 27 9 (.string ⟨#[]⟩) 16 rfl Try.underlying27 info9 rfl (by decide) (by omega) u9 ((List.range x.toNat).map fun i => cmpT 6 (ordG names vals r i).1) (nm ++ (⟨#[32]⟩ : ByteArray) ++ o ++ (⟨#[32, 63]⟩ : ByteArray)) [Value.string (nm ++ (⟨#[32]⟩ : ByteArray) ++ o ++ (⟨#[32, 63]⟩ : ByteArray))] (fun _ => True) (fun k => True ∧ some k ≠ u9.ownBlock) rfl rfl ?aP (fun _ hk => hk) (fun _ _ => trivial) ?aO ?aB ?aS ?aL ?_; (case aP => exact rfl); (case aO => exact HT3.out); (case aB => exact HB3.out); (case aS => exact HB3.out.size); (case aL => rw [HL2.out]; omega); intro v2 w4 ho hb hg1 hat1; have HO4 := Aside0.mk ho; have HB4 := Aside0.mk hb; have HA4 := Aside0.mk (Kd.R_grown2 HO3.out rfl hg1 HP3.out); clear ho hb hg1 hat1)))
          go_roundw
          case rel =>
            refine ⟨v1, v2, x + 1, rfl, rfl, rfl, rfl, ⟨by omega, by omega⟩, ⟨fun i hi => ?_⟩, ⟨?_⟩, ⟨?_⟩, HB4⟩
            · rcases Nat.lt_or_ge i x.toNat with h | h
              · exact HOK.out i h
              · obtain rfl : i = x.toNat := by omega
                rw [HG.out]; exact HOKV.out
            · rw [take_upR _ x hx0, HG.out]
              have : ofS0 xv = .bool n := by rw [← HTS.out]; exact by cases n <;> rfl
              show kI0.R 20 w4 w1.heap.size (fun _ => True) v1 (_ ++ [ofS0 xv])
              rw [this]
              exact HA4.out
            · rw [take_upR _ x hx0, HG.out]
              show Kd.string.R 9 w4 w1.heap.size (fun _ => True) v2 (_ ++ [cmpT 6 nm])
              rw [HCT.out]
              exact HO4.out
          case measure => simp [intOf]; omega
    · obtain rfl : x = names.length := by omega
      rw [Int.toNat_natCast] at HOK HR7 HR9
      have HCO := Aside0.mk (colsN_ok 6 (ordG names vals r) names.length HOK.out)
      have hj9 : (Lib.join (((List.range names.length).map fun i => cmpT 6 (ordG names vals r i).1).map bytesOf) (bytesOf and5)).length ≤ 1000000 := by
        have hf := (colsN_fair (cmpV 6) (ordG names vals r) names.length (fun i hi => by
            obtain ⟨a0, a1⟩ := HOR.out.rng i (by have := HOR.out.len; omega)
            exact cmpV_fair 6 _ (HC.out.pos _ (ord_name HC.out a0 a1)).2 _) names.length (Nat.le_refl _)).1
        rw [HCO.out] at hf
        have h3 : (ofBytes (Lib.join (((List.range names.length).map fun i => cmpT 6 (ordG names vals r i).1).map bytesOf) (bytesOf and5))).size = (Lib.join (((List.range names.length).map fun i => cmpT 6 (ordG names vals r i).1).map bytesOf) (bytesOf and5)).length := by simp [ofBytes, ByteArray.size]
        rw [h3] at hf
        have := HC.out.n8
        omega
      obtain ⟨t9, ht9⟩ : ∃ t9, t9 = (List.range names.length).map fun i => cmpT 6 (ordG names vals r i).1 := ⟨_, rfl⟩
      obtain ⟨t7, ht7⟩ : ∃ t7, t7 = (List.range names.length).map fun i => ofS0 (ordG names vals r i).2 := ⟨_, rfl⟩
      rw [← ht9] at HR9 hj9 HCO
      rw [← ht7] at HR7
      have HJ := Aside0.mk hj9
      have HL9 := Aside0.mk (show t9.length ≤ 1000000 by rw [ht9]; simp; omega)
      have HT7 := Aside0.mk ht7
      clear hj9 ht9 ht7
      obtain ⟨A9, c9, rfl⟩ := Kd.R_slice HR9.out
      obtain ⟨A7, c7, rfl, _, hC7⟩ := Kd.R_reads HR7.out
      have HC7 := Aside0.mk hC7
      clear hC7
      go_wp2_with fail
      refine (strings_join t9 A9 c9 and5 wr w1.heap.size (fun _ => True) HR9.out HL9.out HJ.out).mono ?_
      rintro e w5 ⟨rfl, hb⟩
      have HC8 := Aside0.mk (Kd.C_below HC7.out hb)
      have HB5 := Aside0.mk (below_step (below_step HB0.out HB1.out) hb)
      clear hb
      go_wp2_with fail
      go_ret3
      refine .inr ⟨by rw [HCO.out], A7, c7, t7, ?_, HC8.out, ?_, HB5.out⟩
      · simp [HCO.out]
      · rw [HCO.out, HT7.out, List.map_map]
        refine List.map_congr_left fun i hi => ?_
        have hi2 := List.mem_range.1 hi
        obtain ⟨a0, a1⟩ := HOR.out.rng i (by have := HOR.out.len; omega)
        have hvr := HC.out.vr _ (ord_val HC.out a0 a1)
        have hok := HOK.out i hi2
        exact flat_back hvr hok

set_option maxRecDepth 100000 in
set_option maxHeartbeats 8000000 in
theorem ltSql_7 (names : List ByteArray) (vals : List S24) (hcr : CR names vals) (r : List Int) (hgood : Good names r names.length) (gs : List Value) (b : Nat) (w : World) (hm : MapOk names vals b gs w) :
    Calls Try.prog 64 #[.map (some b), .bool true, .bool true] w (MapPost (colsN (cmpV 7) (ordG names vals r) names.length) w) := by
  have HC := Aside0.mk hcr
  have HM := Aside0.mk hm
  have HGD := Aside0.mk hgood
  have HOR := Aside0.mk (good_ok hgood)
  have hn8 : (names.length : Int) ≤ 8 := by have := hcr.n8; omega
  clear hm hgood hcr
  go_enter Try.func64, Try.ntmps64
  go_wp2_with fail
  obtain ⟨o, ho⟩ : ∃ o, o = sgn 7 := ⟨_, rfl⟩
  rw [show ((⟨#[62]⟩ : ByteArray) ++ (⟨#[61]⟩ : ByteArray) : ByteArray) = o from by rw [ho]; rfl]
  have HOP := Aside0.mk ho
  clear ho
  refine (keys_any names HC.out.n8 HC.out.nd gs HM.out.len b w HM.out.own).mono ?_
  rintro e w1 ⟨A, c, rfl, hCK, hb⟩
  rw [← good_sorted HGD.out] at hCK
  have HCK := Aside0.mk hCK
  have HB0 := Aside0.mk hb
  clear hb hCK
  go_wp2_with fail
  go_loopw [7, 8, 9, 24] (fun v7 v8 v9 i wr => ∃ (u7 u9 : Value) (x : Int), u7 = v7 ∧ v8 = .nilIface ∧ u9 = v9 ∧ i = .int .i64 x ∧ (0 ≤ x ∧ x ≤ names.length) ∧ Aside0 (∀ i, i < x.toNat → okv (ordG names vals r i).2) ∧ Aside0 (kI0.R 20 wr w1.heap.size (fun _ => True) u7 ((List.range x.toNat).map fun i => ofS0 (ordG names vals r i).2)) ∧ Aside0 (Kd.string.R 9 wr w1.heap.size (fun _ => True) u9 ((List.range x.toNat).map fun i => cmpT 7 (ordG names vals r i).1)) ∧ Aside0 (Below w1.heap.size w1 wr)) (fun _ _ _ i _ => names.length - (intOf i).toNat)
  case atStart => exact ⟨_, _, 0, rfl, rfl, rfl, rfl, ⟨by omega, by omega⟩, ⟨fun i hi => by simp at hi⟩, ⟨Kd.R_nil _ _ _ _ _⟩, ⟨Kd.R_nil _ _ _ _ _⟩, ⟨Below.refl _ _⟩⟩
  case round =>
    obtain ⟨u7, u9, x, rfl, rfl, rfl, rfl, ⟨hx0, hxn⟩, HOK, HR7, HR9, HB1⟩ := hrel
    by_cases hlt : x < names.length
    · have hrl := HOR.out.len
      obtain ⟨ad, e1, x0⟩ := Kd.at_string (Kd.C_below HCK.out HB1.out) x hx0 hlt
      cases e1
      rw [rdOf_map _ r x hx0 (by omega)] at x0
      obtain ⟨rj0, rj1⟩ := HOR.out.rng x.toNat (by omega)
      rw [Int.toNat_of_nonneg hx0] at rj0 rj1
      have HG := Aside0.mk (show ordG names vals r x.toNat = (rdOf ByteArray.empty names (YtagandfneflcbaaW.PrintWords.rd r x), rd_T24 vals (YtagandfneflcbaaW.PrintWords.rd r x)) by unfold ordG; rw [Int.toNat_of_nonneg hx0])
      obtain ⟨j, hj⟩ : ∃ j, j = YtagandfneflcbaaW.PrintWords.rd r x := ⟨_, rfl⟩
      rw [← hj] at x0 rj0 rj1 HG
      have hvn := HC.out.vn
      have hjt : j.toNat < names.length := by omega
      have hjv : j.toNat < vals.length := by omega
      have hjg : j.toNat < gs.length := by rw [HM.out.len]; exact hjt
      have HVR := Aside0.mk (HC.out.vr _ (ord_val HC.out rj0 rj1))
      have HNS := Aside0.mk (HC.out.pos _ (ord_name HC.out rj0 rj1)).2
      have hnmj : names[j.toNat] = rdOf ByteArray.empty names j := by simp [rdOf, List.getD_eq_getElem?_getD, List.getElem?_eq_getElem hjt]
      have hvj : vals[j.toNat] = rd_T24 vals j := by simp [rd_T24, List.getD_eq_getElem?_getD, List.getElem?_eq_getElem hjv]
      obtain ⟨w0, hK⟩ := HM.out.val j.toNat hjg hjv
      rw [hvj] at hK
      obtain ⟨nm, hnm⟩ : ∃ nm, nm = rdOf ByteArray.empty names j := ⟨_, rfl⟩
      obtain ⟨xv, hxv⟩ : ∃ xv, xv = rd_T24 vals j := ⟨_, rfl⟩
      rw [← hnm] at x0 HNS HG hnmj
      rw [← hxv] at HG HVR hK
      have hkey : keyOf Try.prog 9 (.string nm) = some (keyL nm) := WideMaps.keyOf_string_mk (P := Try.prog) Try.underlying9 (s := nm) (by have := HNS.out; unfold maxLen; omega)
      obtain ⟨v, ps, hlk, hRv⟩ := (HM.out.own.kept (grown_of_below (below_step HB0.out HB1.out) none) (by simp)).lookup law9 Try.underlying69 (zero20 wr) (zd := .held .nilIface) (zp := []) rfl hkey
      have hat := mapTo_at HM.out.len HC.out.nd (.held .nilIface) j.toNat names.length (Nat.le_refl _) hjt
      rw [hnmj] at hat
      have hv : v = gs[j.toNat] := by
        have h1 := RH_held hRv
        rw [show (tab names gs).atKey (keyL nm) (.held .nilIface) = _ from hat] at h1
        injection h1 with h1
        exact h1.symm
      have hsh := g_shape HVR.out hK
      rw [← hv] at hsh
      have h1 : ((List.range x.toNat).map fun i => ofS0 (ordG names vals r i).2).length = x.toNat := by simp
      have h2 : ((List.range x.toNat).map fun i => cmpT 7 (ordG names vals r i).1).length = x.toNat := by simp
      have HL1 := Aside0.mk h1
      have HL2 := Aside0.mk h2
      have HAP := Aside0.mk (apart_of HR7.out HR9.out (by decide))
      clear hj hnm hxv hnmj hvj hK hkey hRv hat hv h1 h2 hvn hjt hjv hjg rj0 rj1 hrl
      have s1 : (nm ++ (⟨#[32]⟩ : ByteArray)).size = nm.size + 1 := by rw [ByteArray.size_append]; rfl
      have hz : o.size ≤ 10 := by rw [HOP.out]; exact sgn_size 7
      have hn40 := HNS.out
      have s2 : (nm ++ (⟨#[32]⟩ : ByteArray) ++ o).size = nm.size + 1 + o.size := by rw [ByteArray.size_append, s1]
      have e1 := eq_false (show ¬ (9223372036854775807 < nm.size + 1) by omega)
      have e2 := eq_false (show ¬ (9223372036854775807 < (nm ++ (⟨#[32]⟩ : ByteArray)).size + o.size) by omega)
      have e3 := eq_false (show ¬ (9223372036854775807 < (nm ++ (⟨#[32]⟩ : ByteArray) ++ o).size + 2) by omega)
      have e4 := eq_false (show ¬ (9223372036854775807 < nm.size + 1 + o.size) by omega)
      have e5 := eq_false (show ¬ (9223372036854775807 < nm.size + 1 + o.size + 2) by omega)
      have HCT := Aside0.mk (show cmpT 7 nm = nm ++ ⟨#[32]⟩ ++ o ++ ⟨#[32, 63]⟩ by unfold cmpT; rw [HOP.out])
      clear s1 s2 hz hn40
      rcases hsh with ⟨rfl, hno⟩ | ⟨v57, rfl, hno⟩ | ⟨i0, rfl, hi0, hok, hts⟩
      · have HNO := Aside0.mk hno
        clear hno
        go_wp2_with fail
        refine (errorsNew_any _ _).mono ?_
        rintro e w2 ⟨rfl, rfl⟩
        go_wp2_with fail
        go_ret3
        exact .inl ⟨colsN_no 7 _ _ ⟨x.toNat, by omega, by rw [HG.out]; exact HNO.out⟩, _, _, _, rfl, (below_step HB0.out HB1.out).alloc (below_step HB0.out HB1.out).size _⟩
      · have HNO := Aside0.mk hno
        clear hno
        go_wp2_with fail
        refine (isList_lst v57 _).mono ?_
        rintro e w2 ⟨rfl, rfl⟩
        go_wp2_with fail
        refine (errorsNew_any _ _).mono ?_
        rintro e w2 ⟨rfl, rfl⟩
        go_wp2_with fail
        go_ret3
        exact .inl ⟨colsN_no 7 _ _ ⟨x.toNat, by omega, by rw [HG.out]; exact HNO.out⟩, _, _, _, rfl, (below_step HB0.out HB1.out).alloc (below_step HB0.out HB1.out).size _⟩
      · have HTS := Aside0.mk hts
        have HOKV := Aside0.mk hok
        clear hts hok
        cases i0 with
        | nil => exact absurd rfl hi0
        | int n =>
          simp only [enc0] at hlk
          go_wp2_with fail
          refine (isList_sc (.int n) _).mono ?_
          rintro e w2 ⟨rfl, rfl⟩
          go_wp2_with (first | ((with_reducible refine gate_builtin (b := .append) (xs := #[.tmp 42, .tmp 44]) rfl ?_); at_builtin; go_loud (refine Kd.R_append kI0 (w0 := w1) w1.heap.size rfl (.tmp 42) (.tmp 44) 57 20 .nilIface 16 rfl Try.underlying57 info20 rfl (by decide) (by omega) u7 ((List.range x.toNat).map fun i => ofS0 (ordG names vals r i).2) (.int n) [enc0 (.int n)] (fun _ => True) (fun k => True ∧ some k ≠ u7.ownBlock) rfl rfl ?aP (fun _ hk => hk) (fun _ _ => trivial) ?aO ?aB ?aS ?aL ?_; (case aP => exact rfl); (case aO => exact HR7.out); (case aB => exact HB1.out); (case aS => exact HB1.out.size); (case aL => rw [HL1.out]; omega); intro v1 w3 ho hb hg1 hat1; have HO3 := Aside0.mk ho; have HB3 := Aside0.mk hb; have HT3 := Aside0.mk (Kd.R_grown2 HR9.out rfl hg1 HAP.out); have HP3 := Aside0.mk (apart_of (Kd.R_grown2 HR9.out rfl hg1 HAP.out) ho (by decide)); clear ho hb hg1 hat1)) | ((with_reducible refine gate_builtin (b := .append) (xs := #[.tmp 46, .tmp 48]) rfl ?_); at_builtin; go_loud (refine Kd.R_append (W := w3) Kd.string (w0 := w1) w1.heap.size rfl (.tmp 46) (.tmp 48) 27 9 (.string ⟨#[]⟩) 16 rfl Try.underlying27 info9 rfl (by decide) (by omega) u9 ((List.range x.toNat).map fun i => cmpT 7 (ordG names vals r i).1) (nm ++ (⟨#[32]⟩ : ByteArray) ++ o ++ (⟨#[32, 63]⟩ : ByteArray)) [Value.string (nm ++ (⟨#[32]⟩ : ByteArray) ++ o ++ (⟨#[32, 63]⟩ : ByteArray))] (fun _ => True) (fun k => True ∧ some k ≠ u9.ownBlock) rfl rfl ?aP (fun _ hk => hk) (fun _ _ => trivial) ?aO ?aB ?aS ?aL ?_; (case aP => exact rfl); (case aO => exact HT3.out); (case aB => exact HB3.out); (case aS => exact HB3.out.size); (case aL => rw [HL2.out]; omega); intro v2 w4 ho hb hg1 hat1; have HO4 := Aside0.mk ho; have HB4 := Aside0.mk hb; have HA4 := Aside0.mk (Kd.R_grown2 HO3.out rfl hg1 HP3.out); clear ho hb hg1 hat1)))
          go_roundw
          case rel =>
            refine ⟨v1, v2, x + 1, rfl, rfl, rfl, rfl, ⟨by omega, by omega⟩, ⟨fun i hi => ?_⟩, ⟨?_⟩, ⟨?_⟩, HB4⟩
            · rcases Nat.lt_or_ge i x.toNat with h | h
              · exact HOK.out i h
              · obtain rfl : i = x.toNat := by omega
                rw [HG.out]; exact HOKV.out
            · rw [take_upR _ x hx0, HG.out]
              have : ofS0 xv = .int n := by rw [← HTS.out]; exact rfl
              show kI0.R 20 w4 w1.heap.size (fun _ => True) v1 (_ ++ [ofS0 xv])
              rw [this]
              exact HA4.out
            · rw [take_upR _ x hx0, HG.out]
              show Kd.string.R 9 w4 w1.heap.size (fun _ => True) v2 (_ ++ [cmpT 7 nm])
              rw [HCT.out]
              exact HO4.out
          case measure => simp [intOf]; omega
        | str n =>
          simp only [enc0] at hlk
          go_wp2_with fail
          refine (isList_sc (.str n) _).mono ?_
          rintro e w2 ⟨rfl, rfl⟩
          go_wp2_with (first | ((with_reducible refine gate_builtin (b := .append) (xs := #[.tmp 42, .tmp 44]) rfl ?_); at_builtin; go_loud (refine Kd.R_append kI0 (w0 := w1) w1.heap.size rfl (.tmp 42) (.tmp 44) 57 20 .nilIface 16 rfl Try.underlying57 info20 rfl (by decide) (by omega) u7 ((List.range x.toNat).map fun i => ofS0 (ordG names vals r i).2) (.str n) [enc0 (.str n)] (fun _ => True) (fun k => True ∧ some k ≠ u7.ownBlock) rfl rfl ?aP (fun _ hk => hk) (fun _ _ => trivial) ?aO ?aB ?aS ?aL ?_; (case aP => exact rfl); (case aO => exact HR7.out); (case aB => exact HB1.out); (case aS => exact HB1.out.size); (case aL => rw [HL1.out]; omega); intro v1 w3 ho hb hg1 hat1; have HO3 := Aside0.mk ho; have HB3 := Aside0.mk hb; have HT3 := Aside0.mk (Kd.R_grown2 HR9.out rfl hg1 HAP.out); have HP3 := Aside0.mk (apart_of (Kd.R_grown2 HR9.out rfl hg1 HAP.out) ho (by decide)); clear ho hb hg1 hat1)) | ((with_reducible refine gate_builtin (b := .append) (xs := #[.tmp 46, .tmp 48]) rfl ?_); at_builtin; go_loud (refine Kd.R_append (W := w3) Kd.string (w0 := w1) w1.heap.size rfl (.tmp 46) (.tmp 48) 27 9 (.string ⟨#[]⟩) 16 rfl Try.underlying27 info9 rfl (by decide) (by omega) u9 ((List.range x.toNat).map fun i => cmpT 7 (ordG names vals r i).1) (nm ++ (⟨#[32]⟩ : ByteArray) ++ o ++ (⟨#[32, 63]⟩ : ByteArray)) [Value.string (nm ++ (⟨#[32]⟩ : ByteArray) ++ o ++ (⟨#[32, 63]⟩ : ByteArray))] (fun _ => True) (fun k => True ∧ some k ≠ u9.ownBlock) rfl rfl ?aP (fun _ hk => hk) (fun _ _ => trivial) ?aO ?aB ?aS ?aL ?_; (case aP => exact rfl); (case aO => exact HT3.out); (case aB => exact HB3.out); (case aS => exact HB3.out.size); (case aL => rw [HL2.out]; omega); intro v2 w4 ho hb hg1 hat1; have HO4 := Aside0.mk ho; have HB4 := Aside0.mk hb; have HA4 := Aside0.mk (Kd.R_grown2 HO3.out rfl hg1 HP3.out); clear ho hb hg1 hat1)))
          go_roundw
          case rel =>
            refine ⟨v1, v2, x + 1, rfl, rfl, rfl, rfl, ⟨by omega, by omega⟩, ⟨fun i hi => ?_⟩, ⟨?_⟩, ⟨?_⟩, HB4⟩
            · rcases Nat.lt_or_ge i x.toNat with h | h
              · exact HOK.out i h
              · obtain rfl : i = x.toNat := by omega
                rw [HG.out]; exact HOKV.out
            · rw [take_upR _ x hx0, HG.out]
              have : ofS0 xv = .str n := by rw [← HTS.out]; exact rfl
              show kI0.R 20 w4 w1.heap.size (fun _ => True) v1 (_ ++ [ofS0 xv])
              rw [this]
              exact HA4.out
            · rw [take_upR _ x hx0, HG.out]
              show Kd.string.R 9 w4 w1.heap.size (fun _ => True) v2 (_ ++ [cmpT 7 nm])
              rw [HCT.out]
              exact HO4.out
          case measure => simp [intOf]; omega
        | bool n =>
          simp only [enc0] at hlk
          go_wp2_with fail
          refine (isList_sc (.bool n) _).mono ?_
          rintro e w2 ⟨rfl, rfl⟩
          go_wp2_with (first | ((with_reducible refine gate_builtin (b := .append) (xs := #[.tmp 42, .tmp 44]) rfl ?_); at_builtin; go_loud (refine Kd.R_append kI0 (w0 := w1) w1.heap.size rfl (.tmp 42) (.tmp 44) 57 20 .nilIface 16 rfl Try.underlying57 info20 rfl (by decide) (by omega) u7 ((List.range x.toNat).map fun i => ofS0 (ordG names vals r i).2) (.bool n) [enc0 (.bool n)] (fun _ => True) (fun k => True ∧ some k ≠ u7.ownBlock) rfl rfl ?aP (fun _ hk => hk) (fun _ _ => trivial) ?aO ?aB ?aS ?aL ?_; (case aP => exact rfl); (case aO => exact HR7.out); (case aB => exact HB1.out); (case aS => exact HB1.out.size); (case aL => rw [HL1.out]; omega); intro v1 w3 ho hb hg1 hat1; have HO3 := Aside0.mk ho; have HB3 := Aside0.mk hb; have HT3 := Aside0.mk (Kd.R_grown2 HR9.out rfl hg1 HAP.out); have HP3 := Aside0.mk (apart_of (Kd.R_grown2 HR9.out rfl hg1 HAP.out) ho (by decide)); clear ho hb hg1 hat1)) | ((with_reducible refine gate_builtin (b := .append) (xs := #[.tmp 46, .tmp 48]) rfl ?_); at_builtin; go_loud (refine Kd.R_append (W := w3) Kd.string (w0 := w1) w1.heap.size rfl (.tmp 46) (.tmp 48) 27 9 (.string ⟨#[]⟩) 16 rfl Try.underlying27 info9 rfl (by decide) (by omega) u9 ((List.range x.toNat).map fun i => cmpT 7 (ordG names vals r i).1) (nm ++ (⟨#[32]⟩ : ByteArray) ++ o ++ (⟨#[32, 63]⟩ : ByteArray)) [Value.string (nm ++ (⟨#[32]⟩ : ByteArray) ++ o ++ (⟨#[32, 63]⟩ : ByteArray))] (fun _ => True) (fun k => True ∧ some k ≠ u9.ownBlock) rfl rfl ?aP (fun _ hk => hk) (fun _ _ => trivial) ?aO ?aB ?aS ?aL ?_; (case aP => exact rfl); (case aO => exact HT3.out); (case aB => exact HB3.out); (case aS => exact HB3.out.size); (case aL => rw [HL2.out]; omega); intro v2 w4 ho hb hg1 hat1; have HO4 := Aside0.mk ho; have HB4 := Aside0.mk hb; have HA4 := Aside0.mk (Kd.R_grown2 HO3.out rfl hg1 HP3.out); clear ho hb hg1 hat1)))
          go_roundw
          case rel =>
            refine ⟨v1, v2, x + 1, rfl, rfl, rfl, rfl, ⟨by omega, by omega⟩, ⟨fun i hi => ?_⟩, ⟨?_⟩, ⟨?_⟩, HB4⟩
            · rcases Nat.lt_or_ge i x.toNat with h | h
              · exact HOK.out i h
              · obtain rfl : i = x.toNat := by omega
                rw [HG.out]; exact HOKV.out
            · rw [take_upR _ x hx0, HG.out]
              have : ofS0 xv = .bool n := by rw [← HTS.out]; exact by cases n <;> rfl
              show kI0.R 20 w4 w1.heap.size (fun _ => True) v1 (_ ++ [ofS0 xv])
              rw [this]
              exact HA4.out
            · rw [take_upR _ x hx0, HG.out]
              show Kd.string.R 9 w4 w1.heap.size (fun _ => True) v2 (_ ++ [cmpT 7 nm])
              rw [HCT.out]
              exact HO4.out
          case measure => simp [intOf]; omega
    · obtain rfl : x = names.length := by omega
      rw [Int.toNat_natCast] at HOK HR7 HR9
      have HCO := Aside0.mk (colsN_ok 7 (ordG names vals r) names.length HOK.out)
      have hj9 : (Lib.join (((List.range names.length).map fun i => cmpT 7 (ordG names vals r i).1).map bytesOf) (bytesOf and5)).length ≤ 1000000 := by
        have hf := (colsN_fair (cmpV 7) (ordG names vals r) names.length (fun i hi => by
            obtain ⟨a0, a1⟩ := HOR.out.rng i (by have := HOR.out.len; omega)
            exact cmpV_fair 7 _ (HC.out.pos _ (ord_name HC.out a0 a1)).2 _) names.length (Nat.le_refl _)).1
        rw [HCO.out] at hf
        have h3 : (ofBytes (Lib.join (((List.range names.length).map fun i => cmpT 7 (ordG names vals r i).1).map bytesOf) (bytesOf and5))).size = (Lib.join (((List.range names.length).map fun i => cmpT 7 (ordG names vals r i).1).map bytesOf) (bytesOf and5)).length := by simp [ofBytes, ByteArray.size]
        rw [h3] at hf
        have := HC.out.n8
        omega
      obtain ⟨t9, ht9⟩ : ∃ t9, t9 = (List.range names.length).map fun i => cmpT 7 (ordG names vals r i).1 := ⟨_, rfl⟩
      obtain ⟨t7, ht7⟩ : ∃ t7, t7 = (List.range names.length).map fun i => ofS0 (ordG names vals r i).2 := ⟨_, rfl⟩
      rw [← ht9] at HR9 hj9 HCO
      rw [← ht7] at HR7
      have HJ := Aside0.mk hj9
      have HL9 := Aside0.mk (show t9.length ≤ 1000000 by rw [ht9]; simp; omega)
      have HT7 := Aside0.mk ht7
      clear hj9 ht9 ht7
      obtain ⟨A9, c9, rfl⟩ := Kd.R_slice HR9.out
      obtain ⟨A7, c7, rfl, _, hC7⟩ := Kd.R_reads HR7.out
      have HC7 := Aside0.mk hC7
      clear hC7
      go_wp2_with fail
      refine (strings_join t9 A9 c9 and5 wr w1.heap.size (fun _ => True) HR9.out HL9.out HJ.out).mono ?_
      rintro e w5 ⟨rfl, hb⟩
      have HC8 := Aside0.mk (Kd.C_below HC7.out hb)
      have HB5 := Aside0.mk (below_step (below_step HB0.out HB1.out) hb)
      clear hb
      go_wp2_with fail
      go_ret3
      refine .inr ⟨by rw [HCO.out], A7, c7, t7, ?_, HC8.out, ?_, HB5.out⟩
      · simp [HCO.out]
      · rw [HCO.out, HT7.out, List.map_map]
        refine List.map_congr_left fun i hi => ?_
        have hi2 := List.mem_range.1 hi
        obtain ⟨a0, a1⟩ := HOR.out.rng i (by have := HOR.out.len; omega)
        have hvr := HC.out.vr _ (ord_val HC.out a0 a1)
        have hok := HOK.out i hi2
        exact flat_back hvr hok

end Go.Proofs.Ytagandfneflcbaa
