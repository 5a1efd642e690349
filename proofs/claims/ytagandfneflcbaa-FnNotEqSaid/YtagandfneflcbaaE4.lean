/- squirrel's Eq.toSQL over the columns' map. Conditions: names and values are right (CR); the map is the call's own, its lists lie in memory. -/
import Derived.Test.YtagandfneflcbaaE3
import Derived.Test.YtagandfneflcbaaY
namespace Go.Proofs.Ytagandfneflcbaa
open Go.RowKit Go.Proofs.YtagandfneflcbaaW.PrintWords Go.Proofs.YtagandfneflcbaaW.PrintLast Go.Proofs.YtagandfneflcbaaW.PrintMore
open Go.Proofs.Ytagandfneflcbaa.PFnLt
open Go.Maps

def eqArgs (x : S24) : List I0 := if x.f0 = 0 then [] else if x.f0 = 5 then x.f3.map ofS0 else [ofS0 x]
theorem eqArgs_back (neg : Bool) (name : ByteArray) {x : S24} (hx : VR x) : (eqArgs x).map toS0 = (eqV neg name x).2.1 := by
  unfold eqArgs eqV
  cases hx with
  | one h =>
    have hb := toS0_ofS0 h
    split
    · rfl
    · rw [if_neg (by cases h <;> simp), if_neg (by cases h <;> simp)]
      simp [hb]
  | list l hl h =>
    simp only [show ¬ ((5 : Int) = 0) by decide, if_false, if_true]
    exact map_toS0 h
theorem eqArgs_len {x : S24} (hx : VR x) : (eqArgs x).length ≤ 12 := by
  unfold eqArgs
  cases hx with
  | one h =>
    split
    · simp
    · rw [if_neg (by cases h <;> simp)]; simp
  | list l hl h =>
    simp only [show ¬ ((5 : Int) = 0) by decide, if_false, if_true, List.length_map]
    exact hl

theorem colsE_ok (neg : Bool) (g : Nat → ByteArray × S24) : ∀ n, colsN (eqV neg) g n = (ofBytes (Lib.join (((List.range n).map fun i => (eqV neg (g i).1 (g i).2).1).map bytesOf) (bytesOf and5)), (List.range n).flatMap fun i => (eqV neg (g i).1 (g i).2).2.1, 1)
  | 0 => rfl
  | n + 1 => by
    have ih := colsE_ok neg g n
    have hc : (eqV neg (g n).1 (g n).2).2.2 = 1 := by
      unfold eqV
      split
      · rfl
      · split <;> rfl
    simp only [colsN, hc]
    rw [ih]
    refine Prod.ext ?_ (Prod.ext ?_ rfl)
    · show (if n = 0 then _ else _ ++ and5) ++ (eqV neg (g n).1 (g n).2).1 = _
      apply bytes_inj
      show bytesOf _ = bytesOf _
      rw [app_bytes, bytes_of, List.range_succ, List.map_append, List.map_append, List.map_singleton, List.map_singleton, join_snoc]
      by_cases hn : n = 0
      · subst hn
        simp [Lib.join_nil, bytesOf, ofBytes]
      · rw [if_neg hn, if_neg (by simp; omega), app_bytes, bytes_of]
    · simp [List.range_succ]

structure EqOk (names : List ByteArray) (vals : List S24) (b : Nat) (gs : List Value) (w : World) : Prop where
  len : gs.length = names.length
  own : w.ownsMap Try.prog 9 RH b names.length (tab names gs)
  val : ∀ (i : Nat) (hi : i < gs.length) (hi' : i < vals.length), kI.K w (ofS vals[i]) [gs[i]]

theorem e_shape {x : S24} (hx : VR x) {g : Value} {w : World} (hg : kI.K w (ofS x) [g]) : (g = .nilIface ∧ x.f0 = 0) ∨ (∃ A c, ∃ l : List I0, g = .iface 57 (.slice A l.length c) ∧ x.f0 = 5 ∧ kI0.C w A l.length l ∧ l = x.f3.map ofS0 ∧ l.length ≤ 12) ∨ ∃ i0 : I0, g = enc0 i0 ∧ i0 ≠ .nil ∧ x.f0 ≠ 0 ∧ x.f0 ≠ 5 ∧ ofS0 x = i0 := by
  cases hx with
  | one h =>
    have h1 : ofS x = .sc (ofS0 x) := by cases h <;> rfl
    rw [h1] at hg
    have h2 : g = enc0 (ofS0 x) := by have h3 : [g] = [enc0 (ofS0 x)] := hg; simpa using h3
    by_cases h0 : x.f0 = 0
    · refine .inl ⟨?_, h0⟩
      rw [h2]
      cases h <;> first | rfl | simp at h0
    · refine .inr (.inr ⟨ofS0 x, h2, ?_, h0, ?_, rfl⟩)
      · cases h <;> first | (simp at h0; done) | (unfold ofS0; simp)
      · cases h <;> simp at h0 ⊢
  | list l hl h =>
    obtain ⟨A, c, h2, hlc, hC⟩ := hg
    exact .inr (.inl ⟨A, c, l.map ofS0, by simpa using h2, rfl, hC, rfl, by simpa using hl⟩)

theorem tab_size {names : List ByteArray} {gs : List Value} (hg : gs.length = names.length) (hd : names.Nodup) {w : World} {b n : Nat} (hown : w.ownsMap Try.prog 9 RH b n (tab names gs)) : Maps.size (tab names gs) = names.length := by
  have hp := (tab_perm hg hd hown).length_eq
  obtain ⟨es, he⟩ := hown.isMap
  rw [he] at hp ⊢
  simpa [strKeys, Maps.size] using hp.symm

theorem take_up0 {β : Type} (z : β) (l : List β) (x : Int) (h0 : 0 ≤ x) (h1 : x < l.length) : l.take (x + 1).toNat = l.take x.toNat ++ [rdOf z l x] := by
  have := take_upI id z l x h0 h1
  simpa using this
theorem take_upF {β : Type} (f : Nat → List β) (x : Int) (h0 : 0 ≤ x) : (List.range (x + 1).toNat).flatMap f = (List.range x.toNat).flatMap f ++ f x.toNat := by
  rw [show (x + 1).toNat = x.toNat + 1 from by omega, List.range_succ, List.flatMap_append]
  simp
theorem flat_len {f : Nat → List I0} {n : Nat} (hf : ∀ i, i < n → (f i).length ≤ 12) : ∀ m, m ≤ n → ((List.range m).flatMap f).length ≤ 12 * m
  | 0, _ => by simp
  | m + 1, h => by
    have := flat_len hf m (by omega)
    have := hf m (by omega)
    rw [List.range_succ, List.flatMap_append, List.length_append, List.flatMap_singleton]
    omega
theorem made20 (w : World) (base : Nat) (hb : base ≤ w.heap.size) : kI0.R 20 (w.alloc (Obj.cells #[] 20)) base (fun _ => True) (.slice (some ⟨w.heap.size, 0, none⟩) 0 0) [] :=
  ⟨fun _ _ => trivial, [], World.ownsRow_made w #[] 0 hb (by decide) rfl, rfl, fun j p hj => by simp at hj⟩

theorem flatMap_same {β γ : Type} {l : List β} {f g : β → List γ} (h : ∀ i, i ∈ l → f i = g i) : l.flatMap f = l.flatMap g := by
  induction l with
  | nil => rfl
  | cons a l ih => rw [List.flatMap_cons, List.flatMap_cons, h a (by simp), ih (fun i hi => h i (by simp [hi]))]

def EqPost (p : Pc) (w : World) (e : Ending) (w' : World) : Prop := ∃ A c, ∃ l : List I0, e = .returned (.tuple #[.string p.1, .slice A l.length c, .nilIface]) ∧ kI0.C w' A l.length l ∧ l.map toS0 = p.2.1 ∧ Below w.heap.size w w'

set_option maxRecDepth 100000 in
set_option maxHeartbeats 8000000 in
theorem eqSql_false (names : List ByteArray) (vals : List S24) (hcr : CR names vals) (hpos : 0 < names.length) (r : List Int) (hgood : Good names r names.length) (gs : List Value) (b : Nat) (w : World) (hm : EqOk names vals b gs w) :
    Calls Try.prog 65 #[.map (some b), .bool false] w (EqPost (colsN (eqV false) (ordG names vals r) names.length) w) := by
  have HC := Aside0.mk hcr
  have HM := Aside0.mk hm
  have HGD := Aside0.mk hgood
  have HOR := Aside0.mk (good_ok hgood)
  have hn8 : (names.length : Int) ≤ 8 := by have := hcr.n8; omega
  have HSZ := Aside0.mk (tab_size hm.len hcr.nd hm.own)
  have hnz : ((names.length : Int) == 0) = false := by simp; intro h; rw [h] at hpos; simp at hpos
  clear hm hgood hcr hpos
  go_enter Try.func65, Try.ntmps65
  go_wp2_with (first | (at_len; refine wpList_len_own _ rfl _ 71 rfl 9 20 Try.underlying71 RH b names.length (tab names gs) rfl HM.out.own ?_; rw [HSZ.out]))
  refine (keys_any names HC.out.n8 HC.out.nd gs HM.out.len b w HM.out.own).mono ?_
  rintro e w1 ⟨A, c, rfl, hCK, hb⟩
  rw [← good_sorted HGD.out] at hCK
  have HCK := Aside0.mk hCK
  have HB0 := Aside0.mk hb
  clear hb hCK hnz
  go_wp2_with fail
  go_loopw [5, 7, 27] (fun v5 v7 i wr => ∃ (u5 u7 : Value) (x : Int), u5 = v5 ∧ u7 = v7 ∧ i = .int .i64 x ∧ (0 ≤ x ∧ x ≤ names.length) ∧ Aside0 (kI0.R 20 wr w1.heap.size (fun _ => True) u5 ((List.range x.toNat).flatMap fun i => eqArgs (ordG names vals r i).2)) ∧ Aside0 (Kd.string.R 9 wr w1.heap.size (fun _ => True) u7 ((List.range x.toNat).map fun i => (eqV false (ordG names vals r i).1 (ordG names vals r i).2).1)) ∧ Aside0 (Below w1.heap.size w1 wr)) (fun _ _ i _ => names.length - (intOf i).toNat)
  case atStart => exact ⟨_, _, 0, rfl, rfl, rfl, ⟨by omega, by omega⟩, ⟨Kd.R_nil _ _ _ _ _⟩, ⟨Kd.R_nil _ _ _ _ _⟩, ⟨Below.refl _ _⟩⟩
  case round =>
    obtain ⟨u5, u7, x, rfl, rfl, rfl, ⟨hx0, hxn⟩, HR5, HR7, HB1⟩ := hrel
    by_cases hlt : x < names.length
    · have hrl := HOR.out.len
      obtain ⟨ad, e1, x0⟩ := Kd.at_string (Kd.C_below HCK.out HB1.out) x hx0 hlt
      cases e1
      rw [rdOf_map _ r x hx0 (by omega)] at x0
      obtain ⟨rj0, rj1⟩ := HOR.out.rng x.toNat (by omega)
      rw [Int.toNat_of_nonneg hx0] at rj0 rj1
      have HG := Aside0.mk (show ordG names vals r x.toNat = (rdOf ByteArray.empty names (YtagandfneflcbaaW.PrintWords.rd r x), rd_T24 vals (YtagandfneflcbaaW.PrintWords.rd r x)) by unfold ordG; rw [Int.toNat_of_nonneg hx0])
      obtain ⟨j, hj⟩ : ∃ j, j = YtagandfneflcbaaW.PrintWords.rd r x := ⟨_, rfl⟩
      rw [← hj] at x0 rj0 rj1 HG
      have hvn := HC.out.vn
      have hjt : j.toNat < names.length := by omega
      have hjv : j.toNat < vals.length := by omega
      have hjg : j.toNat < gs.length := by rw [HM.out.len]; exact hjt
      have HVR := Aside0.mk (HC.out.vr _ (ord_val HC.out rj0 rj1))
      have HNS := Aside0.mk (HC.out.pos _ (ord_name HC.out rj0 rj1)).2
      have hnmj : names[j.toNat] = rdOf ByteArray.empty names j := by simp [rdOf, List.getD_eq_getElem?_getD, List.getElem?_eq_getElem hjt]
      have hvj : vals[j.toNat] = rd_T24 vals j := by simp [rd_T24, List.getD_eq_getElem?_getD, List.getElem?_eq_getElem hjv]
      have hK := HM.out.val j.toNat hjg hjv
      rw [hvj] at hK
      obtain ⟨nm, hnm⟩ : ∃ nm, nm = rdOf ByteArray.empty names j := ⟨_, rfl⟩
      obtain ⟨xv, hxv⟩ : ∃ xv, xv = rd_T24 vals j := ⟨_, rfl⟩
      rw [← hnm] at x0 HNS HG hnmj
      rw [← hxv] at HG HVR hK
      have hkey : keyOf Try.prog 9 (.string nm) = some (keyL nm) := WideMaps.keyOf_string_mk (P := Try.prog) Try.underlying9 (s := nm) (by have := HNS.out; unfold maxLen; omega)
      obtain ⟨v, ps, hlk, hRv⟩ := (HM.out.own.kept (grown_of_below (below_step HB0.out HB1.out) none) (by simp)).lookup law9 Try.underlying71 (zero20 wr) (zd := .held .nilIface) (zp := []) rfl hkey
      have hat := mapTo_at HM.out.len HC.out.nd (.held .nilIface) j.toNat names.length (Nat.le_refl _) hjt
      rw [hnmj] at hat
      have hv : v = gs[j.toNat] := by
        have h1 := RH_held hRv
        rw [show (tab names gs).atKey (keyL nm) (.held .nilIface) = _ from hat] at h1
        injection h1 with h1
        exact h1.symm
      have hsh := e_shape HVR.out hK
      rw [← hv] at hsh
      have h1 : (((List.range x.toNat).flatMap fun i => eqArgs (ordG names vals r i).2) : List I0).length ≤ 12 * x.toNat := flat_len (n := names.length) (fun i hi => by
        obtain ⟨a0, a1⟩ := HOR.out.rng i (by omega)
        exact eqArgs_len (HC.out.vr _ (ord_val HC.out a0 a1))) x.toNat (by omega)
      have h2 : ((List.range x.toNat).map fun i => (eqV false (ordG names vals r i).1 (ordG names vals r i).2).1).length = x.toNat := by simp
      obtain ⟨L5, hL5⟩ : ∃ L5 : List I0, L5 = (List.range x.toNat).flatMap fun i => eqArgs (ordG names vals r i).2 := ⟨_, rfl⟩
      rw [← hL5] at h1 HR5
      have HL5 := Aside0.mk hL5
      clear hL5
      have HL1 := Aside0.mk h1
      have HL2 := Aside0.mk h2
      have HAP := Aside0.mk (apart_of HR5.out HR7.out (by decide))
      have HAQ := Aside0.mk (apart_of HR7.out HR5.out (by decide))
      clear hj hnm hxv hnmj hvj hK hkey hRv hat hv h1 h2 hvn hjt hjv hjg rj0 rj1 hrl
      rcases hsh with ⟨rfl, h0⟩ | ⟨A57, c57, l, rfl, h5, hC57, hl, h12⟩ | ⟨i0, rfl, hi0, hn0, hn5, hts⟩
      · have HTX := Aside0.mk (show (eqV false nm xv).1 = nm ++ (⟨#[32]⟩ : ByteArray) ++ (⟨#[73, 83]⟩ : ByteArray) ++ (⟨#[32, 78, 85, 76, 76]⟩ : ByteArray) by unfold eqV; rw [if_pos h0]; exact bytes_inj (by simp))
        have HAR := Aside0.mk (show eqArgs xv = [] by unfold eqArgs; rw [if_pos h0])
        clear h0
        have z0 : nm.size ≤ 40 := HNS.out
        have y0 := eq_false (show ¬ (9223372036854775807 < nm.size + 1) by omega)
        have t0 : (nm ++ (⟨#[32]⟩ : ByteArray)).size = nm.size + 1 := by rw [ByteArray.size_append]; rfl
        have y1 := eq_false (show ¬ (9223372036854775807 < nm.size + 1 + 2) by omega)
        have x1_ := eq_false (show ¬ (9223372036854775807 < (nm ++ (⟨#[32]⟩ : ByteArray)).size + 2) by rw [t0]; omega)
        have t1 : (nm ++ (⟨#[32]⟩ : ByteArray) ++ (⟨#[73, 83]⟩ : ByteArray)).size = nm.size + 1 + 2 := by rw [ByteArray.size_append, t0]; rfl
        have y2 := eq_false (show ¬ (9223372036854775807 < nm.size + 1 + 2 + 5) by omega)
        have x2_ := eq_false (show ¬ (9223372036854775807 < (nm ++ (⟨#[32]⟩ : ByteArray) ++ (⟨#[73, 83]⟩ : ByteArray)).size + 5) by rw [t1]; omega)
        have t2 : (nm ++ (⟨#[32]⟩ : ByteArray) ++ (⟨#[73, 83]⟩ : ByteArray) ++ (⟨#[32, 78, 85, 76, 76]⟩ : ByteArray)).size = nm.size + 1 + 2 + 5 := by rw [ByteArray.size_append, t1]; rfl
        clear z0 t0 t1 t2
        go_wp2_with (first | ((with_reducible refine gate_builtin (b := .append) (xs := #[.tmp 84, .tmp 86]) rfl ?_); at_builtin; go_loud (refine Kd.R_append Kd.string (w0 := w1) w1.heap.size rfl (.tmp 84) (.tmp 86) 27 9 (.string ⟨#[]⟩) 16 rfl Try.underlying27 info9 rfl (by decide) (by omega) u7 ((List.range x.toNat).map fun i => (eqV false (ordG names vals r i).1 (ordG names vals r i).2).1) (nm ++ (⟨#[32]⟩ : ByteArray) ++ (⟨#[73, 83]⟩ : ByteArray) ++ (⟨#[32, 78, 85, 76, 76]⟩ : ByteArray)) [Value.string (nm ++ (⟨#[32]⟩ : ByteArray) ++ (⟨#[73, 83]⟩ : ByteArray) ++ (⟨#[32, 78, 85, 76, 76]⟩ : ByteArray))] (fun _ => True) (fun k => True ∧ some k ≠ u7.ownBlock) rfl rfl ?aP (fun _ hk => hk) (fun _ _ => trivial) ?aO ?aB ?aS ?aL ?_; (case aP => exact rfl); (case aO => exact HR7.out); (case aB => exact HB1.out); (case aS => exact HB1.out.size); (case aL => rw [HL2.out]; omega); intro v2 w4 ho hb hg1 hat1; have HO4 := Aside0.mk ho; have HB4 := Aside0.mk hb; have HG4 := Aside0.mk hg1; clear ho hb hg1 hat1)))
        go_roundw
        case rel =>
          refine ⟨u5, v2, x + 1, rfl, rfl, rfl, ⟨by omega, by omega⟩, ⟨?_⟩, ⟨?_⟩, HB4⟩
          · rw [take_upF _ x hx0, HG.out, ← HL5.out]
            show kI0.R 20 w4 w1.heap.size (fun _ => True) (u5) (_ ++ eqArgs xv)
            rw [HAR.out, List.append_nil]
            exact Kd.R_grown2 HR5.out rfl HG4.out HAQ.out
          · rw [take_upR _ x hx0, HG.out]
            show Kd.string.R 9 w4 w1.heap.size (fun _ => True) v2 (_ ++ [(eqV false nm xv).1])
            rw [HTX.out]
            exact HO4.out
        case measure => simp [intOf]; omega
      · have h0 : ¬ xv.f0 = 0 := by rw [h5]; decide
        have HAR := Aside0.mk (show eqArgs xv = l by unfold eqArgs; rw [if_neg h0, if_pos h5, hl])
        have hlen : l.length = xv.f3.length := by rw [hl, List.length_map]
        by_cases hne : l.length = 0
        · have HTX := Aside0.mk (show (eqV false nm xv).1 = (⟨#[40, 49, 61, 48, 41]⟩ : ByteArray) by unfold eqV; rw [if_neg h0, if_pos h5, if_pos (List.eq_nil_of_length_eq_zero (by omega))]; rfl)
          obtain rfl := List.eq_nil_of_length_eq_zero hne
          simp only [List.length_nil] at hlk
          clear h0 h5 hl hlen hne hC57 h12
          rcases (Kd.own_of_R HR5.out).2 with ⟨rfl, hz⟩ | ⟨g5, cap5, cur5, hu5, _⟩
          · obtain rfl := List.eq_nil_of_length_eq_zero hz
            have HR5a := Aside0.mk (made20 wr w1.heap.size HB1.out.size)
            have HR7a := Aside0.mk (Kd.R_below HR7.out ((Below.refl wr.heap.size wr).alloc (Nat.le_refl _) (Obj.cells #[] 20)))
            have HB1a := Aside0.mk (HB1.out.alloc HB1.out.size (Obj.cells #[] 20))
            have HAQa := Aside0.mk (apart_of HR7a.out HR5a.out (by decide))
            clear hz
            have heqn : ∀ w : World, _ := fun w => run_eql_nil_slice (P := Try.prog) w 57 20 none 0 0 0 0 Try.underlying57
            simp only [Option.isNone_none] at heqn
            go_wp2_with fail
            refine (isList_lst _ _).mono ?_
            rintro e w2 ⟨rfl, rfl⟩
            go_wp2_with (first | ((with_reducible refine gate_builtin (b := .append) (xs := #[.tmp 84, .tmp 86]) rfl ?_); at_builtin; go_loud (refine Kd.R_append Kd.string (w0 := w1) w1.heap.size rfl (.tmp 84) (.tmp 86) 27 9 (.string ⟨#[]⟩) 16 rfl Try.underlying27 info9 rfl (by decide) (by omega) u7 ((List.range x.toNat).map fun i => (eqV false (ordG names vals r i).1 (ordG names vals r i).2).1) ((⟨#[40, 49, 61, 48, 41]⟩ : ByteArray)) [Value.string ((⟨#[40, 49, 61, 48, 41]⟩ : ByteArray))] (fun _ => True) (fun k => True ∧ some k ≠ u7.ownBlock) rfl (by show Value.slice (some ⟨w2.heap.size + 1, 0, none⟩) 1 1 = _; simp) ?aP (fun _ hk => hk) (fun _ _ => trivial) ?aO ?aB ?aS ?aL ?_; (case aP => exact rfl); (case aO => exact HR7a.out); (case aB => exact HB1a.out); (case aS => exact HB1a.out.size); (case aL => rw [HL2.out]; omega); intro v2 w4 ho hb hg1 hat1; have HO4 := Aside0.mk ho; have HB4 := Aside0.mk hb; have HG4 := Aside0.mk hg1; clear ho hb hg1 hat1)))
            go_roundw
            case rel =>
              refine ⟨_, v2, x + 1, rfl, rfl, rfl, ⟨by omega, by omega⟩, ⟨?_⟩, ⟨?_⟩, HB4⟩
              · rw [take_upF _ x hx0, HG.out, ← HL5.out]
                show kI0.R 20 w4 w1.heap.size (fun _ => True) (.slice (some ⟨w2.heap.size, 0, none⟩) 0 0) (_ ++ eqArgs xv)
                rw [HAR.out, List.append_nil]
                exact Kd.R_grown2 HR5a.out rfl HG4.out HAQa.out
              · rw [take_upR _ x hx0, HG.out]
                show Kd.string.R 9 w4 w1.heap.size (fun _ => True) v2 (_ ++ [(eqV false nm xv).1])
                rw [HTX.out]
                exact HO4.out
            case measure => simp [intOf]; omega
          · have HU5 := Aside0.mk hu5
            obtain ⟨n5, hn5⟩ : ∃ n5, n5 = L5.length := ⟨_, rfl⟩
            rw [← hn5] at hu5
            subst hu5
            clear hn5
            have heqn : ∀ w : World, _ := fun w => Lib.run_eql_slice_nil (P := Try.prog) w 57 20 (some ⟨g5, 0, none⟩) n5 cap5 0 0 Try.underlying57
            simp only [Option.isNone_some] at heqn
            go_wp2_with fail
            refine (isList_lst _ _).mono ?_
            rintro e w2 ⟨rfl, rfl⟩
            go_wp2_with (first | ((with_reducible refine gate_builtin (b := .append) (xs := #[.tmp 84, .tmp 86]) rfl ?_); at_builtin; go_loud (refine Kd.R_append Kd.string (w0 := w1) w1.heap.size rfl (.tmp 84) (.tmp 86) 27 9 (.string ⟨#[]⟩) 16 rfl Try.underlying27 info9 rfl (by decide) (by omega) u7 ((List.range x.toNat).map fun i => (eqV false (ordG names vals r i).1 (ordG names vals r i).2).1) ((⟨#[40, 49, 61, 48, 41]⟩ : ByteArray)) [Value.string ((⟨#[40, 49, 61, 48, 41]⟩ : ByteArray))] (fun _ => True) (fun k => True ∧ some k ≠ u7.ownBlock) rfl rfl ?aP (fun _ hk => hk) (fun _ _ => trivial) ?aO ?aB ?aS ?aL ?_; (case aP => exact rfl); (case aO => exact HR7.out); (case aB => exact HB1.out); (case aS => exact HB1.out.size); (case aL => rw [HL2.out]; omega); intro v2 w4 ho hb hg1 hat1; have HO4 := Aside0.mk ho; have HB4 := Aside0.mk hb; have HG4 := Aside0.mk hg1; clear ho hb hg1 hat1)))
            go_roundw
            case rel =>
              refine ⟨_, v2, x + 1, rfl, rfl, rfl, ⟨by omega, by omega⟩, ⟨?_⟩, ⟨?_⟩, HB4⟩
              · rw [take_upF _ x hx0, HG.out, ← HL5.out]
                show kI0.R 20 w4 w1.heap.size (fun _ => True) (.slice (some ⟨g5, 0, none⟩) n5 cap5) (_ ++ eqArgs xv)
                rw [HAR.out, List.append_nil]
                exact Kd.R_grown2 HR5.out rfl HG4.out HAQ.out
              · rw [take_upR _ x hx0, HG.out]
                show Kd.string.R 9 w4 w1.heap.size (fun _ => True) v2 (_ ++ [(eqV false nm xv).1])
                rw [HTX.out]
                exact HO4.out
            case measure => simp [intOf]; omega
        · have HTX := Aside0.mk (show (eqV false nm xv).1 = nm ++ (⟨#[32]⟩ : ByteArray) ++ (⟨#[73, 78]⟩ : ByteArray) ++ (⟨#[32, 40]⟩ : ByteArray) ++ marksB l.length ++ (⟨#[41]⟩ : ByteArray) by
            unfold eqV
            rw [if_neg h0, if_pos h5, if_neg (by intro h; rw [h] at hlen; exact hne hlen), hlen]
            exact bytes_inj (by simp))
          have hnz : ((l.length : Int) == 0) = false := by simpa using hne
          have HC57 := Aside0.mk hC57
          clear h0 h5 hl hlen hC57
          have HNE := Aside0.mk hne
          have H12 := Aside0.mk h12
          have hl12 : (l.length : Int) ≤ 12 := by omega
          have HMS := Aside0.mk (marksB_size l.length)
          clear hne h12
          go_wp2_with fail
          refine (isList_lst _ _).mono ?_
          rintro e w2 ⟨rfl, rfl⟩
          go_wp2_with fail
          go_loopw [5, 18] (fun v5 i wi => ∃ (ui : Value) (y : Int), ui = v5 ∧ i = .int .i64 y ∧ (0 ≤ y ∧ y ≤ l.length) ∧ Aside0 (kI0.R 20 wi w1.heap.size (fun _ => True) ui (L5 ++ l.take y.toNat)) ∧ Aside0 (Kd.string.R 9 wi w1.heap.size (fun _ => True) u7 ((List.range x.toNat).map fun i => (eqV false (ordG names vals r i).1 (ordG names vals r i).2).1)) ∧ Aside0 (Below w1.heap.size w1 wi)) (fun _ i _ => l.length - (intOf i).toNat)
          case atStart => exact ⟨_, 0, rfl, rfl, ⟨by omega, by omega⟩, ⟨by simpa using HR5.out⟩, HR7, HB1⟩
          case round =>
            obtain ⟨ui, y, rfl, rfl, ⟨hy0, hyn⟩, HRi, HR7i, HBi⟩ := hrel
            by_cases hylt : y < l.length
            · obtain ⟨ae, e, y0⟩ := ReadsOf.at_ (Kd.reads_of_C (d := I0.nil) (Kd.C_below HC57.out (below_step HB0.out HBi.out))) y hy0 hylt
              cases e
              obtain ⟨z, hz⟩ : ∃ z, z = rdOf I0.nil l y := ⟨_, rfl⟩
              rw [← hz] at y0
              have HZ := Aside0.mk hz
              clear hz
              have hLi : (L5 ++ l.take y.toNat).length ≤ 1000 := by
                rw [List.length_append, List.length_take]
                have := HL1.out
                omega
              have HLi := Aside0.mk hLi
              have HAPi := Aside0.mk (apart_of HRi.out HR7i.out (by decide))
              clear hLi
              go_wp2_with (first | ((with_reducible refine gate_builtin (b := .append) (xs := #[.tmp 58, .tmp 63]) rfl ?_); at_builtin; go_loud (refine Kd.R_append kI0 (w0 := w1) w1.heap.size rfl (.tmp 58) (.tmp 63) 57 20 .nilIface 16 rfl Try.underlying57 info20 rfl (by decide) (by omega) ui (L5 ++ l.take y.toNat) (z) [enc0 (z)] (fun _ => True) (fun k => True ∧ some k ≠ (ui : Value).ownBlock) rfl rfl ?aP (fun _ hk => hk) (fun _ _ => trivial) ?aO ?aB ?aS ?aL ?_; (case aP => exact rfl); (case aO => exact HRi.out); (case aB => exact HBi.out); (case aS => exact HBi.out.size); (case aL => have := HLi.out; omega); intro v1 w3 ho hb hg1 hat1; have HO3 := Aside0.mk ho; have HB3 := Aside0.mk hb; have HT3 := Aside0.mk (Kd.R_grown2 HR7i.out rfl hg1 HAPi.out); clear ho hb hg1 hat1)))
              go_roundw
              case rel => exact ⟨_, y + 1, rfl, rfl, ⟨by omega, by omega⟩, ⟨by rw [take_up0 I0.nil l y hy0 hylt, ← HZ.out, ← List.append_assoc]; exact HO3.out⟩, HT3, HB3⟩
              case measure => simp [intOf]; omega
            · obtain rfl : y = l.length := by omega
              rw [Int.toNat_natCast, List.take_length] at HRi
              have z0 : nm.size ≤ 40 := HNS.out; have z1 := HMS.out
              have y0 := eq_false (show ¬ (9223372036854775807 < nm.size + 1) by omega)
              have t0 : (nm ++ (⟨#[32]⟩ : ByteArray)).size = nm.size + 1 := by rw [ByteArray.size_append]; rfl
              have y1 := eq_false (show ¬ (9223372036854775807 < nm.size + 1 + 2) by omega)
              have x1_ := eq_false (show ¬ (9223372036854775807 < (nm ++ (⟨#[32]⟩ : ByteArray)).size + 2) by rw [t0]; omega)
              have t1 : (nm ++ (⟨#[32]⟩ : ByteArray) ++ (⟨#[73, 78]⟩ : ByteArray)).size = nm.size + 1 + 2 := by rw [ByteArray.size_append, t0]; rfl
              have y2 := eq_false (show ¬ (9223372036854775807 < nm.size + 1 + 2 + 2) by omega)
              have x2_ := eq_false (show ¬ (9223372036854775807 < (nm ++ (⟨#[32]⟩ : ByteArray) ++ (⟨#[73, 78]⟩ : ByteArray)).size + 2) by rw [t1]; omega)
              have t2 : (nm ++ (⟨#[32]⟩ : ByteArray) ++ (⟨#[73, 78]⟩ : ByteArray) ++ (⟨#[32, 40]⟩ : ByteArray)).size = nm.size + 1 + 2 + 2 := by rw [ByteArray.size_append, t1]; rfl
              have y3 := eq_false (show ¬ (9223372036854775807 < nm.size + 1 + 2 + 2 + (marksB l.length).size) by omega)
              have x3_ := eq_false (show ¬ (9223372036854775807 < (nm ++ (⟨#[32]⟩ : ByteArray) ++ (⟨#[73, 78]⟩ : ByteArray) ++ (⟨#[32, 40]⟩ : ByteArray)).size + (marksB l.length).size) by rw [t2]; omega)
              have t3 : (nm ++ (⟨#[32]⟩ : ByteArray) ++ (⟨#[73, 78]⟩ : ByteArray) ++ (⟨#[32, 40]⟩ : ByteArray) ++ marksB l.length).size = nm.size + 1 + 2 + 2 + (marksB l.length).size := by rw [ByteArray.size_append, t2]
              have y4 := eq_false (show ¬ (9223372036854775807 < nm.size + 1 + 2 + 2 + (marksB l.length).size + 1) by omega)
              have x4_ := eq_false (show ¬ (9223372036854775807 < (nm ++ (⟨#[32]⟩ : ByteArray) ++ (⟨#[73, 78]⟩ : ByteArray) ++ (⟨#[32, 40]⟩ : ByteArray) ++ marksB l.length).size + 1) by rw [t3]; omega)
              have t4 : (nm ++ (⟨#[32]⟩ : ByteArray) ++ (⟨#[73, 78]⟩ : ByteArray) ++ (⟨#[32, 40]⟩ : ByteArray) ++ marksB l.length ++ (⟨#[41]⟩ : ByteArray)).size = nm.size + 1 + 2 + 2 + (marksB l.length).size + 1 := by rw [ByteArray.size_append, t3]; rfl
              clear z0 z1 t0 t1 t2 t3 t4
              go_wp2_with fail
              refine (placeholders_any l.length (by have := HNE.out; omega) (by have := H12.out; omega) _).mono ?_
              rintro e w3 ⟨rfl, hb⟩
              have HR5p := Aside0.mk (Kd.R_below HRi.out hb)
              have HR7p := Aside0.mk (Kd.R_below HR7i.out hb)
              have HBp := Aside0.mk (below_step HBi.out hb)
              have HAQp := Aside0.mk (apart_of HR7p.out HR5p.out (by decide))
              clear hb
              go_wp2_with (first | ((with_reducible refine gate_builtin (b := .append) (xs := #[.tmp 84, .tmp 86]) rfl ?_); at_builtin; go_loud (refine Kd.R_append Kd.string (w0 := w1) w1.heap.size rfl (.tmp 84) (.tmp 86) 27 9 (.string ⟨#[]⟩) 16 rfl Try.underlying27 info9 rfl (by decide) (by omega) u7 ((List.range x.toNat).map fun i => (eqV false (ordG names vals r i).1 (ordG names vals r i).2).1) (nm ++ (⟨#[32]⟩ : ByteArray) ++ (⟨#[73, 78]⟩ : ByteArray) ++ (⟨#[32, 40]⟩ : ByteArray) ++ marksB l.length ++ (⟨#[41]⟩ : ByteArray)) [Value.string (nm ++ (⟨#[32]⟩ : ByteArray) ++ (⟨#[73, 78]⟩ : ByteArray) ++ (⟨#[32, 40]⟩ : ByteArray) ++ marksB l.length ++ (⟨#[41]⟩ : ByteArray))] (fun _ => True) (fun k => True ∧ some k ≠ u7.ownBlock) rfl rfl ?aP (fun _ hk => hk) (fun _ _ => trivial) ?aO ?aB ?aS ?aL ?_; (case aP => exact rfl); (case aO => exact HR7p.out); (case aB => exact HBp.out); (case aS => exact HBp.out.size); (case aL => rw [HL2.out]; omega); intro v2 w4 ho hb hg1 hat1; have HO4 := Aside0.mk ho; have HB4 := Aside0.mk hb; have HG4 := Aside0.mk hg1; clear ho hb hg1 hat1)))
              go_roundw
              case rel =>
                refine ⟨ui, v2, x + 1, rfl, rfl, rfl, ⟨by omega, by omega⟩, ⟨?_⟩, ⟨?_⟩, HB4⟩
                · rw [take_upF _ x hx0, HG.out, ← HL5.out]
                  show kI0.R 20 w4 w1.heap.size (fun _ => True) (ui) (_ ++ eqArgs xv)
                  rw [HAR.out]
                  exact Kd.R_grown2 HR5p.out rfl HG4.out HAQp.out
                · rw [take_upR _ x hx0, HG.out]
                  show Kd.string.R 9 w4 w1.heap.size (fun _ => True) v2 (_ ++ [(eqV false nm xv).1])
                  rw [HTX.out]
                  exact HO4.out
              case measure => simp [intOf]; omega
      · have HAR := Aside0.mk (show eqArgs xv = [i0] by unfold eqArgs; rw [if_neg hn0, if_neg hn5, hts])
        have HTX := Aside0.mk (show (eqV false nm xv).1 = nm ++ (⟨#[32]⟩ : ByteArray) ++ (⟨#[61]⟩ : ByteArray) ++ (⟨#[32, 63]⟩ : ByteArray) by unfold eqV; rw [if_neg hn0, if_neg hn5]; exact bytes_inj (by simp))
        clear hn0 hn5 hts
        have z0 : nm.size ≤ 40 := HNS.out
        have y0 := eq_false (show ¬ (9223372036854775807 < nm.size + 1) by omega)
        have t0 : (nm ++ (⟨#[32]⟩ : ByteArray)).size = nm.size + 1 := by rw [ByteArray.size_append]; rfl
        have y1 := eq_false (show ¬ (9223372036854775807 < nm.size + 1 + 1) by omega)
        have x1_ := eq_false (show ¬ (9223372036854775807 < (nm ++ (⟨#[32]⟩ : ByteArray)).size + 1) by rw [t0]; omega)
        have t1 : (nm ++ (⟨#[32]⟩ : ByteArray) ++ (⟨#[61]⟩ : ByteArray)).size = nm.size + 1 + 1 := by rw [ByteArray.size_append, t0]; rfl
        have y2 := eq_false (show ¬ (9223372036854775807 < nm.size + 1 + 1 + 2) by omega)
        have x2_ := eq_false (show ¬ (9223372036854775807 < (nm ++ (⟨#[32]⟩ : ByteArray) ++ (⟨#[61]⟩ : ByteArray)).size + 2) by rw [t1]; omega)
        have t2 : (nm ++ (⟨#[32]⟩ : ByteArray) ++ (⟨#[61]⟩ : ByteArray) ++ (⟨#[32, 63]⟩ : ByteArray)).size = nm.size + 1 + 1 + 2 := by rw [ByteArray.size_append, t1]; rfl
        clear z0 t0 t1 t2
        cases i0 with
        | nil => exact absurd rfl hi0
        | int n =>
          simp only [enc0] at hlk
          go_wp2_with fail
          refine (isList_sc (.int n) _).mono ?_
          rintro e w2 ⟨rfl, rfl⟩
          go_wp2_with (first | ((with_reducible refine gate_builtin (b := .append) (xs := #[.tmp 80, .tmp 82]) rfl ?_); at_builtin; go_loud (refine Kd.R_append kI0 (w0 := w1) w1.heap.size rfl (.tmp 80) (.tmp 82) 57 20 .nilIface 16 rfl Try.underlying57 info20 rfl (by decide) (by omega) u5 (L5) (.int n) [enc0 (.int n)] (fun _ => True) (fun k => True ∧ some k ≠ (u5 : Value).ownBlock) rfl rfl ?aP (fun _ hk => hk) (fun _ _ => trivial) ?aO ?aB ?aS ?aL ?_; (case aP => exact rfl); (case aO => exact HR5.out); (case aB => exact HB1.out); (case aS => exact HB1.out.size); (case aL => have := HL1.out; omega); intro v1 w3 ho hb hg1 hat1; have HO3 := Aside0.mk ho; have HB3 := Aside0.mk hb; have HT3 := Aside0.mk (Kd.R_grown2 HR7.out rfl hg1 HAP.out); have HQ3 := Aside0.mk (apart_of (Kd.R_grown2 HR7.out rfl hg1 HAP.out) ho (by decide)); clear ho hb hg1 hat1)) | ((with_reducible refine gate_builtin (b := .append) (xs := #[.tmp 84, .tmp 86]) rfl ?_); at_builtin; go_loud (refine Kd.R_append Kd.string (w0 := w1) w1.heap.size rfl (.tmp 84) (.tmp 86) 27 9 (.string ⟨#[]⟩) 16 rfl Try.underlying27 info9 rfl (by decide) (by omega) u7 ((List.range x.toNat).map fun i => (eqV false (ordG names vals r i).1 (ordG names vals r i).2).1) (nm ++ (⟨#[32]⟩ : ByteArray) ++ (⟨#[61]⟩ : ByteArray) ++ (⟨#[32, 63]⟩ : ByteArray)) [Value.string (nm ++ (⟨#[32]⟩ : ByteArray) ++ (⟨#[61]⟩ : ByteArray) ++ (⟨#[32, 63]⟩ : ByteArray))] (fun _ => True) (fun k => True ∧ some k ≠ u7.ownBlock) rfl rfl ?aP (fun _ hk => hk) (fun _ _ => trivial) ?aO ?aB ?aS ?aL ?_; (case aP => exact rfl); (case aO => exact HT3.out); (case aB => exact HB3.out); (case aS => exact HB3.out.size); (case aL => rw [HL2.out]; omega); intro v2 w4 ho hb hg1 hat1; have HO4 := Aside0.mk ho; have HB4 := Aside0.mk hb; have HG4 := Aside0.mk hg1; clear ho hb hg1 hat1)))
          go_roundw
          case rel =>
            refine ⟨v1, v2, x + 1, rfl, rfl, rfl, ⟨by omega, by omega⟩, ⟨?_⟩, ⟨?_⟩, HB4⟩
            · rw [take_upF _ x hx0, HG.out, ← HL5.out]
              show kI0.R 20 w4 w1.heap.size (fun _ => True) (v1) (_ ++ eqArgs xv)
              rw [HAR.out]
              exact Kd.R_grown2 HO3.out rfl HG4.out HQ3.out
            · rw [take_upR _ x hx0, HG.out]
              show Kd.string.R 9 w4 w1.heap.size (fun _ => True) v2 (_ ++ [(eqV false nm xv).1])
              rw [HTX.out]
              exact HO4.out
          case measure => simp [intOf]; omega
        | str n =>
          simp only [enc0] at hlk
          go_wp2_with fail
          refine (isList_sc (.str n) _).mono ?_
          rintro e w2 ⟨rfl, rfl⟩
          go_wp2_with (first | ((with_reducible refine gate_builtin (b := .append) (xs := #[.tmp 80, .tmp 82]) rfl ?_); at_builtin; go_loud (refine Kd.R_append kI0 (w0 := w1) w1.heap.size rfl (.tmp 80) (.tmp 82) 57 20 .nilIface 16 rfl Try.underlying57 info20 rfl (by decide) (by omega) u5 (L5) (.str n) [enc0 (.str n)] (fun _ => True) (fun k => True ∧ some k ≠ (u5 : Value).ownBlock) rfl rfl ?aP (fun _ hk => hk) (fun _ _ => trivial) ?aO ?aB ?aS ?aL ?_; (case aP => exact rfl); (case aO => exact HR5.out); (case aB => exact HB1.out); (case aS => exact HB1.out.size); (case aL => have := HL1.out; omega); intro v1 w3 ho hb hg1 hat1; have HO3 := Aside0.mk ho; have HB3 := Aside0.mk hb; have HT3 := Aside0.mk (Kd.R_grown2 HR7.out rfl hg1 HAP.out); have HQ3 := Aside0.mk (apart_of (Kd.R_grown2 HR7.out rfl hg1 HAP.out) ho (by decide)); clear ho hb hg1 hat1)) | ((with_reducible refine gate_builtin (b := .append) (xs := #[.tmp 84, .tmp 86]) rfl ?_); at_builtin; go_loud (refine Kd.R_append Kd.string (w0 := w1) w1.heap.size rfl (.tmp 84) (.tmp 86) 27 9 (.string ⟨#[]⟩) 16 rfl Try.underlying27 info9 rfl (by decide) (by omega) u7 ((List.range x.toNat).map fun i => (eqV false (ordG names vals r i).1 (ordG names vals r i).2).1) (nm ++ (⟨#[32]⟩ : ByteArray) ++ (⟨#[61]⟩ : ByteArray) ++ (⟨#[32, 63]⟩ : ByteArray)) [Value.string (nm ++ (⟨#[32]⟩ : ByteArray) ++ (⟨#[61]⟩ : ByteArray) ++ (⟨#[32, 63]⟩ : ByteArray))] (fun _ => True) (fun k => True ∧ some k ≠ u7.ownBlock) rfl rfl ?aP (fun _ hk => hk) (fun _ _ => trivial) ?aO ?aB ?aS ?aL ?_; (case aP => exact rfl); (case aO => exact HT3.out); (case aB => exact HB3.out); (case aS => exact HB3.out.size); (case aL => rw [HL2.out]; omega); intro v2 w4 ho hb hg1 hat1; have HO4 := Aside0.mk ho; have HB4 := Aside0.mk hb; have HG4 := Aside0.mk hg1; clear ho hb hg1 hat1)))
          go_roundw
          case rel =>
            refine ⟨v1, v2, x + 1, rfl, rfl, rfl, ⟨by omega, by omega⟩, ⟨?_⟩, ⟨?_⟩, HB4⟩
            · rw [take_upF _ x hx0, HG.out, ← HL5.out]
              show kI0.R 20 w4 w1.heap.size (fun _ => True) (v1) (_ ++ eqArgs xv)
              rw [HAR.out]
              exact Kd.R_grown2 HO3.out rfl HG4.out HQ3.out
            · rw [take_upR _ x hx0, HG.out]
              show Kd.string.R 9 w4 w1.heap.size (fun _ => True) v2 (_ ++ [(eqV false nm xv).1])
              rw [HTX.out]
              exact HO4.out
          case measure => simp [intOf]; omega
        | bool n =>
          simp only [enc0] at hlk
          go_wp2_with fail
          refine (isList_sc (.bool n) _).mono ?_
          rintro e w2 ⟨rfl, rfl⟩
          go_wp2_with (first | ((with_reducible refine gate_builtin (b := .append) (xs := #[.tmp 80, .tmp 82]) rfl ?_); at_builtin; go_loud (refine Kd.R_append kI0 (w0 := w1) w1.heap.size rfl (.tmp 80) (.tmp 82) 57 20 .nilIface 16 rfl Try.underlying57 info20 rfl (by decide) (by omega) u5 (L5) (.bool n) [enc0 (.bool n)] (fun _ => True) (fun k => True ∧ some k ≠ (u5 : Value).ownBlock) rfl rfl ?aP (fun _ hk => hk) (fun _ _ => trivial) ?aO ?aB ?aS ?aL ?_; (case aP => exact rfl); (case aO => exact HR5.out); (case aB => exact HB1.out); (case aS => exact HB1.out.size); (case aL => have := HL1.out; omega); intro v1 w3 ho hb hg1 hat1; have HO3 := Aside0.mk ho; have HB3 := Aside0.mk hb; have HT3 := Aside0.mk (Kd.R_grown2 HR7.out rfl hg1 HAP.out); have HQ3 := Aside0.mk (apart_of (Kd.R_grown2 HR7.out rfl hg1 HAP.out) ho (by decide)); clear ho hb hg1 hat1)) | ((with_reducible refine gate_builtin (b := .append) (xs := #[.tmp 84, .tmp 86]) rfl ?_); at_builtin; go_loud (refine Kd.R_append Kd.string (w0 := w1) w1.heap.size rfl (.tmp 84) (.tmp 86) 27 9 (.string ⟨#[]⟩) 16 rfl Try.underlying27 info9 rfl (by decide) (by omega) u7 ((List.range x.toNat).map fun i => (eqV false (ordG names vals r i).1 (ordG names vals r i).2).1) (nm ++ (⟨#[32]⟩ : ByteArray) ++ (⟨#[61]⟩ : ByteArray) ++ (⟨#[32, 63]⟩ : ByteArray)) [Value.string (nm ++ (⟨#[32]⟩ : ByteArray) ++ (⟨#[61]⟩ : ByteArray) ++ (⟨#[32, 63]⟩ : ByteArray))] (fun _ => True) (fun k => True ∧ some k ≠ u7.ownBlock) rfl rfl ?aP (fun _ hk => hk) (fun _ _ => trivial) ?aO ?aB ?aS ?aL ?_; (case aP => exact rfl); (case aO => exact HT3.out); (case aB => exact HB3.out); (case aS => exact HB3.out.size); (case aL => rw [HL2.out]; omega); intro v2 w4 ho hb hg1 hat1; have HO4 := Aside0.mk ho; have HB4 := Aside0.mk hb; have HG4 := Aside0.mk hg1; clear ho hb hg1 hat1)))
          go_roundw
          case rel =>
            refine ⟨v1, v2, x + 1, rfl, rfl, rfl, ⟨by omega, by omega⟩, ⟨?_⟩, ⟨?_⟩, HB4⟩
            · rw [take_upF _ x hx0, HG.out, ← HL5.out]
              show kI0.R 20 w4 w1.heap.size (fun _ => True) (v1) (_ ++ eqArgs xv)
              rw [HAR.out]
              exact Kd.R_grown2 HO3.out rfl HG4.out HQ3.out
            · rw [take_upR _ x hx0, HG.out]
              show Kd.string.R 9 w4 w1.heap.size (fun _ => True) v2 (_ ++ [(eqV false nm xv).1])
              rw [HTX.out]
              exact HO4.out
          case measure => simp [intOf]; omega
    · obtain rfl : x = names.length := by omega
      rw [Int.toNat_natCast] at HR5 HR7
      have HCO := Aside0.mk (colsE_ok false (ordG names vals r) names.length)
      have hj9 : (Lib.join (((List.range names.length).map fun i => (eqV false (ordG names vals r i).1 (ordG names vals r i).2).1).map bytesOf) (bytesOf and5)).length ≤ 1000000 := by
        have hf := (colsN_fair (eqV false) (ordG names vals r) names.length (fun i hi => by
            obtain ⟨a0, a1⟩ := HOR.out.rng i (by have := HOR.out.len; omega)
            exact eqV_fair false _ (HC.out.pos _ (ord_name HC.out a0 a1)).2 _ (HC.out.vr _ (ord_val HC.out a0 a1))) names.length (Nat.le_refl _)).1
        rw [HCO.out] at hf
        have h3 : (ofBytes (Lib.join (((List.range names.length).map fun i => (eqV false (ordG names vals r i).1 (ordG names vals r i).2).1).map bytesOf) (bytesOf and5))).size = (Lib.join (((List.range names.length).map fun i => (eqV false (ordG names vals r i).1 (ordG names vals r i).2).1).map bytesOf) (bytesOf and5)).length := by simp [ofBytes, ByteArray.size]
        rw [h3] at hf
        have := HC.out.n8
        omega
      obtain ⟨t9, ht9⟩ : ∃ t9, t9 = (List.range names.length).map fun i => (eqV false (ordG names vals r i).1 (ordG names vals r i).2).1 := ⟨_, rfl⟩
      obtain ⟨t7, ht7⟩ : ∃ t7 : List I0, t7 = (List.range names.length).flatMap fun i => eqArgs (ordG names vals r i).2 := ⟨_, rfl⟩
      rw [← ht9] at HR7 hj9 HCO
      rw [← ht7] at HR5
      have HJ := Aside0.mk hj9
      have HL9 := Aside0.mk (show t9.length ≤ 1000000 by rw [ht9]; simp; omega)
      have HT7 := Aside0.mk ht7
      clear hj9 ht9 ht7
      obtain ⟨A9, c9, rfl⟩ := Kd.R_slice HR7.out
      obtain ⟨A7, c7, rfl, _, hC7⟩ := Kd.R_reads HR5.out
      have HC7 := Aside0.mk hC7
      clear hC7
      go_wp2_with fail
      refine (strings_join t9 A9 c9 and5 wr w1.heap.size (fun _ => True) HR7.out HL9.out HJ.out).mono ?_
      rintro e w5 ⟨rfl, hb⟩
      have HC8 := Aside0.mk (Kd.C_below HC7.out hb)
      have HB5 := Aside0.mk (below_step (below_step HB0.out HB1.out) hb)
      clear hb
      go_wp2_with fail
      go_ret3
      refine ⟨A7, c7, t7, ?_, HC8.out, ?_, HB5.out⟩
      · simp [HCO.out]
      · rw [HCO.out, HT7.out]
        show List.map toS0 _ = (List.range names.length).flatMap _
        rw [List.map_flatMap]
        refine flatMap_same fun i hi => ?_
        have hi2 := List.mem_range.1 hi
        obtain ⟨a0, a1⟩ := HOR.out.rng i (by have := HOR.out.len; omega)
        exact eqArgs_back false _ (HC.out.vr _ (ord_val HC.out a0 a1))

set_option maxRecDepth 100000 in
set_option maxHeartbeats 8000000 in
theorem eqSql_true (names : List ByteArray) (vals : List S24) (hcr : CR names vals) (hpos : 0 < names.length) (r : List Int) (hgood : Good names r names.length) (gs : List Value) (b : Nat) (w : World) (hm : EqOk names vals b gs w) :
    Calls Try.prog 65 #[.map (some b), .bool true] w (EqPost (colsN (eqV true) (ordG names vals r) names.length) w) := by
  have HC := Aside0.mk hcr
  have HM := Aside0.mk hm
  have HGD := Aside0.mk hgood
  have HOR := Aside0.mk (good_ok hgood)
  have hn8 : (names.length : Int) ≤ 8 := by have := hcr.n8; omega
  have HSZ := Aside0.mk (tab_size hm.len hcr.nd hm.own)
  have hnz : ((names.length : Int) == 0) = false := by simp; intro h; rw [h] at hpos; simp at hpos
  clear hm hgood hcr hpos
  go_enter Try.func65, Try.ntmps65
  go_wp2_with (first | (at_len; refine wpList_len_own _ rfl _ 71 rfl 9 20 Try.underlying71 RH b names.length (tab names gs) rfl HM.out.own ?_; rw [HSZ.out]))
  refine (keys_any names HC.out.n8 HC.out.nd gs HM.out.len b w HM.out.own).mono ?_
  rintro e w1 ⟨A, c, rfl, hCK, hb⟩
  rw [← good_sorted HGD.out] at hCK
  have HCK := Aside0.mk hCK
  have HB0 := Aside0.mk hb
  clear hb hCK hnz
  go_wp2_with fail
  go_loopw [5, 7, 27] (fun v5 v7 i wr => ∃ (u5 u7 : Value) (x : Int), u5 = v5 ∧ u7 = v7 ∧ i = .int .i64 x ∧ (0 ≤ x ∧ x ≤ names.length) ∧ Aside0 (kI0.R 20 wr w1.heap.size (fun _ => True) u5 ((List.range x.toNat).flatMap fun i => eqArgs (ordG names vals r i).2)) ∧ Aside0 (Kd.string.R 9 wr w1.heap.size (fun _ => True) u7 ((List.range x.toNat).map fun i => (eqV true (ordG names vals r i).1 (ordG names vals r i).2).1)) ∧ Aside0 (Below w1.heap.size w1 wr)) (fun _ _ i _ => names.length - (intOf i).toNat)
  case atStart => exact ⟨_, _, 0, rfl, rfl, rfl, ⟨by omega, by omega⟩, ⟨Kd.R_nil _ _ _ _ _⟩, ⟨Kd.R_nil _ _ _ _ _⟩, ⟨Below.refl _ _⟩⟩
  case round =>
    obtain ⟨u5, u7, x, rfl, rfl, rfl, ⟨hx0, hxn⟩, HR5, HR7, HB1⟩ := hrel
    by_cases hlt : x < names.length
    · have hrl := HOR.out.len
      obtain ⟨ad, e1, x0⟩ := Kd.at_string (Kd.C_below HCK.out HB1.out) x hx0 hlt
      cases e1
      rw [rdOf_map _ r x hx0 (by omega)] at x0
      obtain ⟨rj0, rj1⟩ := HOR.out.rng x.toNat (by omega)
      rw [Int.toNat_of_nonneg hx0] at rj0 rj1
      have HG := Aside0.mk (show ordG names vals r x.toNat = (rdOf ByteArray.empty names (YtagandfneflcbaaW.PrintWords.rd r x), rd_T24 vals (YtagandfneflcbaaW.PrintWords.rd r x)) by unfold ordG; rw [Int.toNat_of_nonneg hx0])
      obtain ⟨j, hj⟩ : ∃ j, j = YtagandfneflcbaaW.PrintWords.rd r x := ⟨_, rfl⟩
      rw [← hj] at x0 rj0 rj1 HG
      have hvn := HC.out.vn
      have hjt : j.toNat < names.length := by omega
      have hjv : j.toNat < vals.length := by omega
      have hjg : j.toNat < gs.length := by rw [HM.out.len]; exact hjt
      have HVR := Aside0.mk (HC.out.vr _ (ord_val HC.out rj0 rj1))
      have HNS := Aside0.mk (HC.out.pos _ (ord_name HC.out rj0 rj1)).2
      have hnmj : names[j.toNat] = rdOf ByteArray.empty names j := by simp [rdOf, List.getD_eq_getElem?_getD, List.getElem?_eq_getElem hjt]
      have hvj : vals[j.toNat] = rd_T24 vals j := by simp [rd_T24, List.getD_eq_getElem?_getD, List.getElem?_eq_getElem hjv]
      have hK := HM.out.val j.toNat hjg hjv
      rw [hvj] at hK
      obtain ⟨nm, hnm⟩ : ∃ nm, nm = rdOf ByteArray.empty names j := ⟨_, rfl⟩
      obtain ⟨xv, hxv⟩ : ∃ xv, xv = rd_T24 vals j := ⟨_, rfl⟩
      rw [← hnm] at x0 HNS HG hnmj
      rw [← hxv] at HG HVR hK
      have hkey : keyOf Try.prog 9 (.string nm) = some (keyL nm) := WideMaps.keyOf_string_mk (P := Try.prog) Try.underlying9 (s := nm) (by have := HNS.out; unfold maxLen; omega)
      obtain ⟨v, ps, hlk, hRv⟩ := (HM.out.own.kept (grown_of_below (below_step HB0.out HB1.out) none) (by simp)).lookup law9 Try.underlying71 (zero20 wr) (zd := .held .nilIface) (zp := []) rfl hkey
      have hat := mapTo_at HM.out.len HC.out.nd (.held .nilIface) j.toNat names.length (Nat.le_refl _) hjt
      rw [hnmj] at hat
      have hv : v = gs[j.toNat] := by
        have h1 := RH_held hRv
        rw [show (tab names gs).atKey (keyL nm) (.held .nilIface) = _ from hat] at h1
        injection h1 with h1
        exact h1.symm
      have hsh := e_shape HVR.out hK
      rw [← hv] at hsh
      have h1 : (((List.range x.toNat).flatMap fun i => eqArgs (ordG names vals r i).2) : List I0).length ≤ 12 * x.toNat := flat_len (n := names.length) (fun i hi => by
        obtain ⟨a0, a1⟩ := HOR.out.rng i (by omega)
        exact eqArgs_len (HC.out.vr _ (ord_val HC.out a0 a1))) x.toNat (by omega)
      have h2 : ((List.range x.toNat).map fun i => (eqV true (ordG names vals r i).1 (ordG names vals r i).2).1).length = x.toNat := by simp
      obtain ⟨L5, hL5⟩ : ∃ L5 : List I0, L5 = (List.range x.toNat).flatMap fun i => eqArgs (ordG names vals r i).2 := ⟨_, rfl⟩
      rw [← hL5] at h1 HR5
      have HL5 := Aside0.mk hL5
      clear hL5
      have HL1 := Aside0.mk h1
      have HL2 := Aside0.mk h2
      have HAP := Aside0.mk (apart_of HR5.out HR7.out (by decide))
      have HAQ := Aside0.mk (apart_of HR7.out HR5.out (by decide))
      clear hj hnm hxv hnmj hvj hK hkey hRv hat hv h1 h2 hvn hjt hjv hjg rj0 rj1 hrl
      rcases hsh with ⟨rfl, h0⟩ | ⟨A57, c57, l, rfl, h5, hC57, hl, h12⟩ | ⟨i0, rfl, hi0, hn0, hn5, hts⟩
      · have HTX := Aside0.mk (show (eqV true nm xv).1 = nm ++ (⟨#[32]⟩ : ByteArray) ++ (⟨#[73, 83, 32, 78, 79, 84]⟩ : ByteArray) ++ (⟨#[32, 78, 85, 76, 76]⟩ : ByteArray) by unfold eqV; rw [if_pos h0]; exact bytes_inj (by simp))
        have HAR := Aside0.mk (show eqArgs xv = [] by unfold eqArgs; rw [if_pos h0])
        clear h0
        have z0 : nm.size ≤ 40 := HNS.out
        have y0 := eq_false (show ¬ (9223372036854775807 < nm.size + 1) by omega)
        have t0 : (nm ++ (⟨#[32]⟩ : ByteArray)).size = nm.size + 1 := by rw [ByteArray.size_append]; rfl
        have y1 := eq_false (show ¬ (9223372036854775807 < nm.size + 1 + 6) by omega)
        have x1_ := eq_false (show ¬ (9223372036854775807 < (nm ++ (⟨#[32]⟩ : ByteArray)).size + 6) by rw [t0]; omega)
        have t1 : (nm ++ (⟨#[32]⟩ : ByteArray) ++ (⟨#[73, 83, 32, 78, 79, 84]⟩ : ByteArray)).size = nm.size + 1 + 6 := by rw [ByteArray.size_append, t0]; rfl
        have y2 := eq_false (show ¬ (9223372036854775807 < nm.size + 1 + 6 + 5) by omega)
        have x2_ := eq_false (show ¬ (9223372036854775807 < (nm ++ (⟨#[32]⟩ : ByteArray) ++ (⟨#[73, 83, 32, 78, 79, 84]⟩ : ByteArray)).size + 5) by rw [t1]; omega)
        have t2 : (nm ++ (⟨#[32]⟩ : ByteArray) ++ (⟨#[73, 83, 32, 78, 79, 84]⟩ : ByteArray) ++ (⟨#[32, 78, 85, 76, 76]⟩ : ByteArray)).size = nm.size + 1 + 6 + 5 := by rw [ByteArray.size_append, t1]; rfl
        clear z0 t0 t1 t2
        go_wp2_with (first | ((with_reducible refine gate_builtin (b := .append) (xs := #[.tmp 84, .tmp 86]) rfl ?_); at_builtin; go_loud (refine Kd.R_append Kd.string (w0 := w1) w1.heap.size rfl (.tmp 84) (.tmp 86) 27 9 (.string ⟨#[]⟩) 16 rfl Try.underlying27 info9 rfl (by decide) (by omega) u7 ((List.range x.toNat).map fun i => (eqV true (ordG names vals r i).1 (ordG names vals r i).2).1) (nm ++ (⟨#[32]⟩ : ByteArray) ++ (⟨#[73, 83, 32, 78, 79, 84]⟩ : ByteArray) ++ (⟨#[32, 78, 85, 76, 76]⟩ : ByteArray)) [Value.string (nm ++ (⟨#[32]⟩ : ByteArray) ++ (⟨#[73, 83, 32, 78, 79, 84]⟩ : ByteArray) ++ (⟨#[32, 78, 85, 76, 76]⟩ : ByteArray))] (fun _ => True) (fun k => True ∧ some k ≠ u7.ownBlock) rfl rfl ?aP (fun _ hk => hk) (fun _ _ => trivial) ?aO ?aB ?aS ?aL ?_; (case aP => exact rfl); (case aO => exact HR7.out); (case aB => exact HB1.out); (case aS => exact HB1.out.size); (case aL => rw [HL2.out]; omega); intro v2 w4 ho hb hg1 hat1; have HO4 := Aside0.mk ho; have HB4 := Aside0.mk hb; have HG4 := Aside0.mk hg1; clear ho hb hg1 hat1)))
        go_roundw
        case rel =>
          refine ⟨u5, v2, x + 1, rfl, rfl, rfl, ⟨by omega, by omega⟩, ⟨?_⟩, ⟨?_⟩, HB4⟩
          · rw [take_upF _ x hx0, HG.out, ← HL5.out]
            show kI0.R 20 w4 w1.heap.size (fun _ => True) (u5) (_ ++ eqArgs xv)
            rw [HAR.out, List.append_nil]
            exact Kd.R_grown2 HR5.out rfl HG4.out HAQ.out
          · rw [take_upR _ x hx0, HG.out]
            show Kd.string.R 9 w4 w1.heap.size (fun _ => True) v2 (_ ++ [(eqV true nm xv).1])
            rw [HTX.out]
            exact HO4.out
        case measure => simp [intOf]; omega
      · have h0 : ¬ xv.f0 = 0 := by rw [h5]; decide
        have HAR := Aside0.mk (show eqArgs xv = l by unfold eqArgs; rw [if_neg h0, if_pos h5, hl])
        have hlen : l.length = xv.f3.length := by rw [hl, List.length_map]
        by_cases hne : l.length = 0
        · have HTX := Aside0.mk (show (eqV true nm xv).1 = (⟨#[40, 49, 61, 49, 41]⟩ : ByteArray) by unfold eqV; rw [if_neg h0, if_pos h5, if_pos (List.eq_nil_of_length_eq_zero (by omega))]; rfl)
          obtain rfl := List.eq_nil_of_length_eq_zero hne
          simp only [List.length_nil] at hlk
          clear h0 h5 hl hlen hne hC57 h12
          rcases (Kd.own_of_R HR5.out).2 with ⟨rfl, hz⟩ | ⟨g5, cap5, cur5, hu5, _⟩
          · obtain rfl := List.eq_nil_of_length_eq_zero hz
            have HR5a := Aside0.mk (made20 wr w1.heap.size HB1.out.size)
            have HR7a := Aside0.mk (Kd.R_below HR7.out ((Below.refl wr.heap.size wr).alloc (Nat.le_refl _) (Obj.cells #[] 20)))
            have HB1a := Aside0.mk (HB1.out.alloc HB1.out.size (Obj.cells #[] 20))
            have HAQa := Aside0.mk (apart_of HR7a.out HR5a.out (by decide))
            clear hz
            have heqn : ∀ w : World, _ := fun w => run_eql_nil_slice (P := Try.prog) w 57 20 none 0 0 0 0 Try.underlying57
            simp only [Option.isNone_none] at heqn
            go_wp2_with fail
            refine (isList_lst _ _).mono ?_
            rintro e w2 ⟨rfl, rfl⟩
            go_wp2_with (first | ((with_reducible refine gate_builtin (b := .append) (xs := #[.tmp 84, .tmp 86]) rfl ?_); at_builtin; go_loud (refine Kd.R_append Kd.string (w0 := w1) w1.heap.size rfl (.tmp 84) (.tmp 86) 27 9 (.string ⟨#[]⟩) 16 rfl Try.underlying27 info9 rfl (by decide) (by omega) u7 ((List.range x.toNat).map fun i => (eqV true (ordG names vals r i).1 (ordG names vals r i).2).1) ((⟨#[40, 49, 61, 49, 41]⟩ : ByteArray)) [Value.string ((⟨#[40, 49, 61, 49, 41]⟩ : ByteArray))] (fun _ => True) (fun k => True ∧ some k ≠ u7.ownBlock) rfl (by show Value.slice (some ⟨w2.heap.size + 1, 0, none⟩) 1 1 = _; simp) ?aP (fun _ hk => hk) (fun _ _ => trivial) ?aO ?aB ?aS ?aL ?_; (case aP => exact rfl); (case aO => exact HR7a.out); (case aB => exact HB1a.out); (case aS => exact HB1a.out.size); (case aL => rw [HL2.out]; omega); intro v2 w4 ho hb hg1 hat1; have HO4 := Aside0.mk ho; have HB4 := Aside0.mk hb; have HG4 := Aside0.mk hg1; clear ho hb hg1 hat1)))
            go_roundw
            case rel =>
              refine ⟨_, v2, x + 1, rfl, rfl, rfl, ⟨by omega, by omega⟩, ⟨?_⟩, ⟨?_⟩, HB4⟩
              · rw [take_upF _ x hx0, HG.out, ← HL5.out]
                show kI0.R 20 w4 w1.heap.size (fun _ => True) (.slice (some ⟨w2.heap.size, 0, none⟩) 0 0) (_ ++ eqArgs xv)
                rw [HAR.out, List.append_nil]
                exact Kd.R_grown2 HR5a.out rfl HG4.out HAQa.out
              · rw [take_upR _ x hx0, HG.out]
                show Kd.string.R 9 w4 w1.heap.size (fun _ => True) v2 (_ ++ [(eqV true nm xv).1])
                rw [HTX.out]
                exact HO4.out
            case measure => simp [intOf]; omega
          · have HU5 := Aside0.mk hu5
            obtain ⟨n5, hn5⟩ : ∃ n5, n5 = L5.length := ⟨_, rfl⟩
            rw [← hn5] at hu5
            subst hu5
            clear hn5
            have heqn : ∀ w : World, _ := fun w => Lib.run_eql_slice_nil (P := Try.prog) w 57 20 (some ⟨g5, 0, none⟩) n5 cap5 0 0 Try.underlying57
            simp only [Option.isNone_some] at heqn
            go_wp2_with fail
            refine (isList_lst _ _).mono ?_
            rintro e w2 ⟨rfl, rfl⟩
            go_wp2_with (first | ((with_reducible refine gate_builtin (b := .append) (xs := #[.tmp 84, .tmp 86]) rfl ?_); at_builtin; go_loud (refine Kd.R_append Kd.string (w0 := w1) w1.heap.size rfl (.tmp 84) (.tmp 86) 27 9 (.string ⟨#[]⟩) 16 rfl Try.underlying27 info9 rfl (by decide) (by omega) u7 ((List.range x.toNat).map fun i => (eqV true (ordG names vals r i).1 (ordG names vals r i).2).1) ((⟨#[40, 49, 61, 49, 41]⟩ : ByteArray)) [Value.string ((⟨#[40, 49, 61, 49, 41]⟩ : ByteArray))] (fun _ => True) (fun k => True ∧ some k ≠ u7.ownBlock) rfl rfl ?aP (fun _ hk => hk) (fun _ _ => trivial) ?aO ?aB ?aS ?aL ?_; (case aP => exact rfl); (case aO => exact HR7.out); (case aB => exact HB1.out); (case aS => exact HB1.out.size); (case aL => rw [HL2.out]; omega); intro v2 w4 ho hb hg1 hat1; have HO4 := Aside0.mk ho; have HB4 := Aside0.mk hb; have HG4 := Aside0.mk hg1; clear ho hb hg1 hat1)))
            go_roundw
            case rel =>
              refine ⟨_, v2, x + 1, rfl, rfl, rfl, ⟨by omega, by omega⟩, ⟨?_⟩, ⟨?_⟩, HB4⟩
              · rw [take_upF _ x hx0, HG.out, ← HL5.out]
                show kI0.R 20 w4 w1.heap.size (fun _ => True) (.slice (some ⟨g5, 0, none⟩) n5 cap5) (_ ++ eqArgs xv)
                rw [HAR.out, List.append_nil]
                exact Kd.R_grown2 HR5.out rfl HG4.out HAQ.out
              · rw [take_upR _ x hx0, HG.out]
                show Kd.string.R 9 w4 w1.heap.size (fun _ => True) v2 (_ ++ [(eqV true nm xv).1])
                rw [HTX.out]
                exact HO4.out
            case measure => simp [intOf]; omega
        · have HTX := Aside0.mk (show (eqV true nm xv).1 = nm ++ (⟨#[32]⟩ : ByteArray) ++ (⟨#[78, 79, 84, 32, 73, 78]⟩ : ByteArray) ++ (⟨#[32, 40]⟩ : ByteArray) ++ marksB l.length ++ (⟨#[41]⟩ : ByteArray) by
            unfold eqV
            rw [if_neg h0, if_pos h5, if_neg (by intro h; rw [h] at hlen; exact hne hlen), hlen]
            exact bytes_inj (by simp))
          have hnz : ((l.length : Int) == 0) = false := by simpa using hne
          have HC57 := Aside0.mk hC57
          clear h0 h5 hl hlen hC57
          have HNE := Aside0.mk hne
          have H12 := Aside0.mk h12
          have hl12 : (l.length : Int) ≤ 12 := by omega
          have HMS := Aside0.mk (marksB_size l.length)
          clear hne h12
          go_wp2_with fail
          refine (isList_lst _ _).mono ?_
          rintro e w2 ⟨rfl, rfl⟩
          go_wp2_with fail
          go_loopw [5, 18] (fun v5 i wi => ∃ (ui : Value) (y : Int), ui = v5 ∧ i = .int .i64 y ∧ (0 ≤ y ∧ y ≤ l.length) ∧ Aside0 (kI0.R 20 wi w1.heap.size (fun _ => True) ui (L5 ++ l.take y.toNat)) ∧ Aside0 (Kd.string.R 9 wi w1.heap.size (fun _ => True) u7 ((List.range x.toNat).map fun i => (eqV true (ordG names vals r i).1 (ordG names vals r i).2).1)) ∧ Aside0 (Below w1.heap.size w1 wi)) (fun _ i _ => l.length - (intOf i).toNat)
          case atStart => exact ⟨_, 0, rfl, rfl, ⟨by omega, by omega⟩, ⟨by simpa using HR5.out⟩, HR7, HB1⟩
          case round =>
            obtain ⟨ui, y, rfl, rfl, ⟨hy0, hyn⟩, HRi, HR7i, HBi⟩ := hrel
            by_cases hylt : y < l.length
            · obtain ⟨ae, e, y0⟩ := ReadsOf.at_ (Kd.reads_of_C (d := I0.nil) (Kd.C_below HC57.out (below_step HB0.out HBi.out))) y hy0 hylt
              cases e
              obtain ⟨z, hz⟩ : ∃ z, z = rdOf I0.nil l y := ⟨_, rfl⟩
              rw [← hz] at y0
              have HZ := Aside0.mk hz
              clear hz
              have hLi : (L5 ++ l.take y.toNat).length ≤ 1000 := by
                rw [List.length_append, List.length_take]
                have := HL1.out
                omega
              have HLi := Aside0.mk hLi
              have HAPi := Aside0.mk (apart_of HRi.out HR7i.out (by decide))
              clear hLi
              go_wp2_with (first | ((with_reducible refine gate_builtin (b := .append) (xs := #[.tmp 58, .tmp 63]) rfl ?_); at_builtin; go_loud (refine Kd.R_append kI0 (w0 := w1) w1.heap.size rfl (.tmp 58) (.tmp 63) 57 20 .nilIface 16 rfl Try.underlying57 info20 rfl (by decide) (by omega) ui (L5 ++ l.take y.toNat) (z) [enc0 (z)] (fun _ => True) (fun k => True ∧ some k ≠ (ui : Value).ownBlock) rfl rfl ?aP (fun _ hk => hk) (fun _ _ => trivial) ?aO ?aB ?aS ?aL ?_; (case aP => exact rfl); (case aO => exact HRi.out); (case aB => exact HBi.out); (case aS => exact HBi.out.size); (case aL => have := HLi.out; omega); intro v1 w3 ho hb hg1 hat1; have HO3 := Aside0.mk ho; have HB3 := Aside0.mk hb; have HT3 := Aside0.mk (Kd.R_grown2 HR7i.out rfl hg1 HAPi.out); clear ho hb hg1 hat1)))
              go_roundw
              case rel => exact ⟨_, y + 1, rfl, rfl, ⟨by omega, by omega⟩, ⟨by rw [take_up0 I0.nil l y hy0 hylt, ← HZ.out, ← List.append_assoc]; exact HO3.out⟩, HT3, HB3⟩
              case measure => simp [intOf]; omega
            · obtain rfl : y = l.length := by omega
              rw [Int.toNat_natCast, List.take_length] at HRi
              have z0 : nm.size ≤ 40 := HNS.out; have z1 := HMS.out
              have y0 := eq_false (show ¬ (9223372036854775807 < nm.size + 1) by omega)
              have t0 : (nm ++ (⟨#[32]⟩ : ByteArray)).size = nm.size + 1 := by rw [ByteArray.size_append]; rfl
              have y1 := eq_false (show ¬ (9223372036854775807 < nm.size + 1 + 6) by omega)
              have x1_ := eq_false (show ¬ (9223372036854775807 < (nm ++ (⟨#[32]⟩ : ByteArray)).size + 6) by rw [t0]; omega)
              have t1 : (nm ++ (⟨#[32]⟩ : ByteArray) ++ (⟨#[78, 79, 84, 32, 73, 78]⟩ : ByteArray)).size = nm.size + 1 + 6 := by rw [ByteArray.size_append, t0]; rfl
              have y2 := eq_false (show ¬ (9223372036854775807 < nm.size + 1 + 6 + 2) by omega)
              have x2_ := eq_false (show ¬ (9223372036854775807 < (nm ++ (⟨#[32]⟩ : ByteArray) ++ (⟨#[78, 79, 84, 32, 73, 78]⟩ : ByteArray)).size + 2) by rw [t1]; omega)
              have t2 : (nm ++ (⟨#[32]⟩ : ByteArray) ++ (⟨#[78, 79, 84, 32, 73, 78]⟩ : ByteArray) ++ (⟨#[32, 40]⟩ : ByteArray)).size = nm.size + 1 + 6 + 2 := by rw [ByteArray.size_append, t1]; rfl
              have y3 := eq_false (show ¬ (9223372036854775807 < nm.size + 1 + 6 + 2 + (marksB l.length).size) by omega)
              have x3_ := eq_false (show ¬ (9223372036854775807 < (nm ++ (⟨#[32]⟩ : ByteArray) ++ (⟨#[78, 79, 84, 32, 73, 78]⟩ : ByteArray) ++ (⟨#[32, 40]⟩ : ByteArray)).size + (marksB l.length).size) by rw [t2]; omega)
              have t3 : (nm ++ (⟨#[32]⟩ : ByteArray) ++ (⟨#[78, 79, 84, 32, 73, 78]⟩ : ByteArray) ++ (⟨#[32, 40]⟩ : ByteArray) ++ marksB l.length).size = nm.size + 1 + 6 + 2 + (marksB l.length).size := by rw [ByteArray.size_append, t2]
              have y4 := eq_false (show ¬ (9223372036854775807 < nm.size + 1 + 6 + 2 + (marksB l.length).size + 1) by omega)
              have x4_ := eq_false (show ¬ (9223372036854775807 < (nm ++ (⟨#[32]⟩ : ByteArray) ++ (⟨#[78, 79, 84, 32, 73, 78]⟩ : ByteArray) ++ (⟨#[32, 40]⟩ : ByteArray) ++ marksB l.length).size + 1) by rw [t3]; omega)
              have t4 : (nm ++ (⟨#[32]⟩ : ByteArray) ++ (⟨#[78, 79, 84, 32, 73, 78]⟩ : ByteArray) ++ (⟨#[32, 40]⟩ : ByteArray) ++ marksB l.length ++ (⟨#[41]⟩ : ByteArray)).size = nm.size + 1 + 6 + 2 + (marksB l.length).size + 1 := by rw [ByteArray.size_append, t3]; rfl
              clear z0 z1 t0 t1 t2 t3 t4
              go_wp2_with fail
              refine (placeholders_any l.length (by have := HNE.out; omega) (by have := H12.out; omega) _).mono ?_
              rintro e w3 ⟨rfl, hb⟩
              have HR5p := Aside0.mk (Kd.R_below HRi.out hb)
              have HR7p := Aside0.mk (Kd.R_below HR7i.out hb)
              have HBp := Aside0.mk (below_step HBi.out hb)
              have HAQp := Aside0.mk (apart_of HR7p.out HR5p.out (by decide))
              clear hb
              go_wp2_with (first | ((with_reducible refine gate_builtin (b := .append) (xs := #[.tmp 84, .tmp 86]) rfl ?_); at_builtin; go_loud (refine Kd.R_append Kd.string (w0 := w1) w1.heap.size rfl (.tmp 84) (.tmp 86) 27 9 (.string ⟨#[]⟩) 16 rfl Try.underlying27 info9 rfl (by decide) (by omega) u7 ((List.range x.toNat).map fun i => (eqV true (ordG names vals r i).1 (ordG names vals r i).2).1) (nm ++ (⟨#[32]⟩ : ByteArray) ++ (⟨#[78, 79, 84, 32, 73, 78]⟩ : ByteArray) ++ (⟨#[32, 40]⟩ : ByteArray) ++ marksB l.length ++ (⟨#[41]⟩ : ByteArray)) [Value.string (nm ++ (⟨#[32]⟩ : ByteArray) ++ (⟨#[78, 79, 84, 32, 73, 78]⟩ : ByteArray) ++ (⟨#[32, 40]⟩ : ByteArray) ++ marksB l.length ++ (⟨#[41]⟩ : ByteArray))] (fun _ => True) (fun k => True ∧ some k ≠ u7.ownBlock) rfl rfl ?aP (fun _ hk => hk) (fun _ _ => trivial) ?aO ?aB ?aS ?aL ?_; (case aP => exact rfl); (case aO => exact HR7p.out); (case aB => exact HBp.out); (case aS => exact HBp.out.size); (case aL => rw [HL2.out]; omega); intro v2 w4 ho hb hg1 hat1; have HO4 := Aside0.mk ho; have HB4 := Aside0.mk hb; have HG4 := Aside0.mk hg1; clear ho hb hg1 hat1)))
              go_roundw
              case rel =>
                refine ⟨ui, v2, x + 1, rfl, rfl, rfl, ⟨by omega, by omega⟩, ⟨?_⟩, ⟨?_⟩, HB4⟩
                · rw [take_upF _ x hx0, HG.out, ← HL5.out]
                  show kI0.R 20 w4 w1.heap.size (fun _ => True) (ui) (_ ++ eqArgs xv)
                  rw [HAR.out]
                  exact Kd.R_grown2 HR5p.out rfl HG4.out HAQp.out
                · rw [take_upR _ x hx0, HG.out]
                  show Kd.string.R 9 w4 w1.heap.size (fun _ => True) v2 (_ ++ [(eqV true nm xv).1])
                  rw [HTX.out]
                  exact HO4.out
              case measure => simp [intOf]; omega
      · have HAR := Aside0.mk (show eqArgs xv = [i0] by unfold eqArgs; rw [if_neg hn0, if_neg hn5, hts])
        have HTX := Aside0.mk (show (eqV true nm xv).1 = nm ++ (⟨#[32]⟩ : ByteArray) ++ (⟨#[60, 62]⟩ : ByteArray) ++ (⟨#[32, 63]⟩ : ByteArray) by unfold eqV; rw [if_neg hn0, if_neg hn5]; exact bytes_inj (by simp))
        clear hn0 hn5 hts
        have z0 : nm.size ≤ 40 := HNS.out
        have y0 := eq_false (show ¬ (9223372036854775807 < nm.size + 1) by omega)
        have t0 : (nm ++ (⟨#[32]⟩ : ByteArray)).size = nm.size + 1 := by rw [ByteArray.size_append]; rfl
        have y1 := eq_false (show ¬ (9223372036854775807 < nm.size + 1 + 2) by omega)
        have x1_ := eq_false (show ¬ (9223372036854775807 < (nm ++ (⟨#[32]⟩ : ByteArray)).size + 2) by rw [t0]; omega)
        have t1 : (nm ++ (⟨#[32]⟩ : ByteArray) ++ (⟨#[60, 62]⟩ : ByteArray)).size = nm.size + 1 + 2 := by rw [ByteArray.size_append, t0]; rfl
        have y2 := eq_false (show ¬ (9223372036854775807 < nm.size + 1 + 2 + 2) by omega)
        have x2_ := eq_false (show ¬ (9223372036854775807 < (nm ++ (⟨#[32]⟩ : ByteArray) ++ (⟨#[60, 62]⟩ : ByteArray)).size + 2) by rw [t1]; omega)
        have t2 : (nm ++ (⟨#[32]⟩ : ByteArray) ++ (⟨#[60, 62]⟩ : ByteArray) ++ (⟨#[32, 63]⟩ : ByteArray)).size = nm.size + 1 + 2 + 2 := by rw [ByteArray.size_append, t1]; rfl
        clear z0 t0 t1 t2
        cases i0 with
        | nil => exact absurd rfl hi0
        | int n =>
          simp only [enc0] at hlk
          go_wp2_with fail
          refine (isList_sc (.int n) _).mono ?_
          rintro e w2 ⟨rfl, rfl⟩
          go_wp2_with (first | ((with_reducible refine gate_builtin (b := .append) (xs := #[.tmp 80, .tmp 82]) rfl ?_); at_builtin; go_loud (refine Kd.R_append kI0 (w0 := w1) w1.heap.size rfl (.tmp 80) (.tmp 82) 57 20 .nilIface 16 rfl Try.underlying57 info20 rfl (by decide) (by omega) u5 (L5) (.int n) [enc0 (.int n)] (fun _ => True) (fun k => True ∧ some k ≠ (u5 : Value).ownBlock) rfl rfl ?aP (fun _ hk => hk) (fun _ _ => trivial) ?aO ?aB ?aS ?aL ?_; (case aP => exact rfl); (case aO => exact HR5.out); (case aB => exact HB1.out); (case aS => exact HB1.out.size); (case aL => have := HL1.out; omega); intro v1 w3 ho hb hg1 hat1; have HO3 := Aside0.mk ho; have HB3 := Aside0.mk hb; have HT3 := Aside0.mk (Kd.R_grown2 HR7.out rfl hg1 HAP.out); have HQ3 := Aside0.mk (apart_of (Kd.R_grown2 HR7.out rfl hg1 HAP.out) ho (by decide)); clear ho hb hg1 hat1)) | ((with_reducible refine gate_builtin (b := .append) (xs := #[.tmp 84, .tmp 86]) rfl ?_); at_builtin; go_loud (refine Kd.R_append Kd.string (w0 := w1) w1.heap.size rfl (.tmp 84) (.tmp 86) 27 9 (.string ⟨#[]⟩) 16 rfl Try.underlying27 info9 rfl (by decide) (by omega) u7 ((List.range x.toNat).map fun i => (eqV true (ordG names vals r i).1 (ordG names vals r i).2).1) (nm ++ (⟨#[32]⟩ : ByteArray) ++ (⟨#[60, 62]⟩ : ByteArray) ++ (⟨#[32, 63]⟩ : ByteArray)) [Value.string (nm ++ (⟨#[32]⟩ : ByteArray) ++ (⟨#[60, 62]⟩ : ByteArray) ++ (⟨#[32, 63]⟩ : ByteArray))] (fun _ => True) (fun k => True ∧ some k ≠ u7.ownBlock) rfl rfl ?aP (fun _ hk => hk) (fun _ _ => trivial) ?aO ?aB ?aS ?aL ?_; (case aP => exact rfl); (case aO => exact HT3.out); (case aB => exact HB3.out); (case aS => exact HB3.out.size); (case aL => rw [HL2.out]; omega); intro v2 w4 ho hb hg1 hat1; have HO4 := Aside0.mk ho; have HB4 := Aside0.mk hb; have HG4 := Aside0.mk hg1; clear ho hb hg1 hat1)))
          go_roundw
          case rel =>
            refine ⟨v1, v2, x + 1, rfl, rfl, rfl, ⟨by omega, by omega⟩, ⟨?_⟩, ⟨?_⟩, HB4⟩
            · rw [take_upF _ x hx0, HG.out, ← HL5.out]
              show kI0.R 20 w4 w1.heap.size (fun _ => True) (v1) (_ ++ eqArgs xv)
              rw [HAR.out]
              exact Kd.R_grown2 HO3.out rfl HG4.out HQ3.out
            · rw [take_upR _ x hx0, HG.out]
              show Kd.string.R 9 w4 w1.heap.size (fun _ => True) v2 (_ ++ [(eqV true nm xv).1])
              rw [HTX.out]
              exact HO4.out
          case measure => simp [intOf]; omega
        | str n =>
          simp only [enc0] at hlk
          go_wp2_with fail
          refine (isList_sc (.str n) _).mono ?_
          rintro e w2 ⟨rfl, rfl⟩
          go_wp2_with (first | ((with_reducible refine gate_builtin (b := .append) (xs := #[.tmp 80, .tmp 82]) rfl ?_); at_builtin; go_loud (refine Kd.R_append kI0 (w0 := w1) w1.heap.size rfl (.tmp 80) (.tmp 82) 57 20 .nilIface 16 rfl Try.underlying57 info20 rfl (by decide) (by omega) u5 (L5) (.str n) [enc0 (.str n)] (fun _ => True) (fun k => True ∧ some k ≠ (u5 : Value).ownBlock) rfl rfl ?aP (fun _ hk => hk) (fun _ _ => trivial) ?aO ?aB ?aS ?aL ?_; (case aP => exact rfl); (case aO => exact HR5.out); (case aB => exact HB1.out); (case aS => exact HB1.out.size); (case aL => have := HL1.out; omega); intro v1 w3 ho hb hg1 hat1; have HO3 := Aside0.mk ho; have HB3 := Aside0.mk hb; have HT3 := Aside0.mk (Kd.R_grown2 HR7.out rfl hg1 HAP.out); have HQ3 := Aside0.mk (apart_of (Kd.R_grown2 HR7.out rfl hg1 HAP.out) ho (by decide)); clear ho hb hg1 hat1)) | ((with_reducible refine gate_builtin (b := .append) (xs := #[.tmp 84, .tmp 86]) rfl ?_); at_builtin; go_loud (refine Kd.R_append Kd.string (w0 := w1) w1.heap.size rfl (.tmp 84) (.tmp 86) 27 9 (.string ⟨#[]⟩) 16 rfl Try.underlying27 info9 rfl (by decide) (by omega) u7 ((List.range x.toNat).map fun i => (eqV true (ordG names vals r i).1 (ordG names vals r i).2).1) (nm ++ (⟨#[32]⟩ : ByteArray) ++ (⟨#[60, 62]⟩ : ByteArray) ++ (⟨#[32, 63]⟩ : ByteArray)) [Value.string (nm ++ (⟨#[32]⟩ : ByteArray) ++ (⟨#[60, 62]⟩ : ByteArray) ++ (⟨#[32, 63]⟩ : ByteArray))] (fun _ => True) (fun k => True ∧ some k ≠ u7.ownBlock) rfl rfl ?aP (fun _ hk => hk) (fun _ _ => trivial) ?aO ?aB ?aS ?aL ?_; (case aP => exact rfl); (case aO => exact HT3.out); (case aB => exact HB3.out); (case aS => exact HB3.out.size); (case aL => rw [HL2.out]; omega); intro v2 w4 ho hb hg1 hat1; have HO4 := Aside0.mk ho; have HB4 := Aside0.mk hb; have HG4 := Aside0.mk hg1; clear ho hb hg1 hat1)))
          go_roundw
          case rel =>
            refine ⟨v1, v2, x + 1, rfl, rfl, rfl, ⟨by omega, by omega⟩, ⟨?_⟩, ⟨?_⟩, HB4⟩
            · rw [take_upF _ x hx0, HG.out, ← HL5.out]
              show kI0.R 20 w4 w1.heap.size (fun _ => True) (v1) (_ ++ eqArgs xv)
              rw [HAR.out]
              exact Kd.R_grown2 HO3.out rfl HG4.out HQ3.out
            · rw [take_upR _ x hx0, HG.out]
              show Kd.string.R 9 w4 w1.heap.size (fun _ => True) v2 (_ ++ [(eqV true nm xv).1])
              rw [HTX.out]
              exact HO4.out
          case measure => simp [intOf]; omega
        | bool n =>
          simp only [enc0] at hlk
          go_wp2_with fail
          refine (isList_sc (.bool n) _).mono ?_
          rintro e w2 ⟨rfl, rfl⟩
          go_wp2_with (first | ((with_reducible refine gate_builtin (b := .append) (xs := #[.tmp 80, .tmp 82]) rfl ?_); at_builtin; go_loud (refine Kd.R_append kI0 (w0 := w1) w1.heap.size rfl (.tmp 80) (.tmp 82) 57 20 .nilIface 16 rfl Try.underlying57 info20 rfl (by decide) (by omega) u5 (L5) (.bool n) [enc0 (.bool n)] (fun _ => True) (fun k => True ∧ some k ≠ (u5 : Value).ownBlock) rfl rfl ?aP (fun _ hk => hk) (fun _ _ => trivial) ?aO ?aB ?aS ?aL ?_; (case aP => exact rfl); (case aO => exact HR5.out); (case aB => exact HB1.out); (case aS => exact HB1.out.size); (case aL => have := HL1.out; omega); intro v1 w3 ho hb hg1 hat1; have HO3 := Aside0.mk ho; have HB3 := Aside0.mk hb; have HT3 := Aside0.mk (Kd.R_grown2 HR7.out rfl hg1 HAP.out); have HQ3 := Aside0.mk (apart_of (Kd.R_grown2 HR7.out rfl hg1 HAP.out) ho (by decide)); clear ho hb hg1 hat1)) | ((with_reducible refine gate_builtin (b := .append) (xs := #[.tmp 84, .tmp 86]) rfl ?_); at_builtin; go_loud (refine Kd.R_append Kd.string (w0 := w1) w1.heap.size rfl (.tmp 84) (.tmp 86) 27 9 (.string ⟨#[]⟩) 16 rfl Try.underlying27 info9 rfl (by decide) (by omega) u7 ((List.range x.toNat).map fun i => (eqV true (ordG names vals r i).1 (ordG names vals r i).2).1) (nm ++ (⟨#[32]⟩ : ByteArray) ++ (⟨#[60, 62]⟩ : ByteArray) ++ (⟨#[32, 63]⟩ : ByteArray)) [Value.string (nm ++ (⟨#[32]⟩ : ByteArray) ++ (⟨#[60, 62]⟩ : ByteArray) ++ (⟨#[32, 63]⟩ : ByteArray))] (fun _ => True) (fun k => True ∧ some k ≠ u7.ownBlock) rfl rfl ?aP (fun _ hk => hk) (fun _ _ => trivial) ?aO ?aB ?aS ?aL ?_; (case aP => exact rfl); (case aO => exact HT3.out); (case aB => exact HB3.out); (case aS => exact HB3.out.size); (case aL => rw [HL2.out]; omega); intro v2 w4 ho hb hg1 hat1; have HO4 := Aside0.mk ho; have HB4 := Aside0.mk hb; have HG4 := Aside0.mk hg1; clear ho hb hg1 hat1)))
          go_roundw
          case rel =>
            refine ⟨v1, v2, x + 1, rfl, rfl, rfl, ⟨by omega, by omega⟩, ⟨?_⟩, ⟨?_⟩, HB4⟩
            · rw [take_upF _ x hx0, HG.out, ← HL5.out]
              show kI0.R 20 w4 w1.heap.size (fun _ => True) (v1) (_ ++ eqArgs xv)
              rw [HAR.out]
              exact Kd.R_grown2 HO3.out rfl HG4.out HQ3.out
            · rw [take_upR _ x hx0, HG.out]
              show Kd.string.R 9 w4 w1.heap.size (fun _ => True) v2 (_ ++ [(eqV true nm xv).1])
              rw [HTX.out]
              exact HO4.out
          case measure => simp [intOf]; omega
    · obtain rfl : x = names.length := by omega
      rw [Int.toNat_natCast] at HR5 HR7
      have HCO := Aside0.mk (colsE_ok true (ordG names vals r) names.length)
      have hj9 : (Lib.join (((List.range names.length).map fun i => (eqV true (ordG names vals r i).1 (ordG names vals r i).2).1).map bytesOf) (bytesOf and5)).length ≤ 1000000 := by
        have hf := (colsN_fair (eqV true) (ordG names vals r) names.length (fun i hi => by
            obtain ⟨a0, a1⟩ := HOR.out.rng i (by have := HOR.out.len; omega)
            exact eqV_fair true _ (HC.out.pos _ (ord_name HC.out a0 a1)).2 _ (HC.out.vr _ (ord_val HC.out a0 a1))) names.length (Nat.le_refl _)).1
        rw [HCO.out] at hf
        have h3 : (ofBytes (Lib.join (((List.range names.length).map fun i => (eqV true (ordG names vals r i).1 (ordG names vals r i).2).1).map bytesOf) (bytesOf and5))).size = (Lib.join (((List.range names.length).map fun i => (eqV true (ordG names vals r i).1 (ordG names vals r i).2).1).map bytesOf) (bytesOf and5)).length := by simp [ofBytes, ByteArray.size]
        rw [h3] at hf
        have := HC.out.n8
        omega
      obtain ⟨t9, ht9⟩ : ∃ t9, t9 = (List.range names.length).map fun i => (eqV true (ordG names vals r i).1 (ordG names vals r i).2).1 := ⟨_, rfl⟩
      obtain ⟨t7, ht7⟩ : ∃ t7 : List I0, t7 = (List.range names.length).flatMap fun i => eqArgs (ordG names vals r i).2 := ⟨_, rfl⟩
      rw [← ht9] at HR7 hj9 HCO
      rw [← ht7] at HR5
      have HJ := Aside0.mk hj9
      have HL9 := Aside0.mk (show t9.length ≤ 1000000 by rw [ht9]; simp; omega)
      have HT7 := Aside0.mk ht7
      clear hj9 ht9 ht7
      obtain ⟨A9, c9, rfl⟩ := Kd.R_slice HR7.out
      obtain ⟨A7, c7, rfl, _, hC7⟩ := Kd.R_reads HR5.out
      have HC7 := Aside0.mk hC7
      clear hC7
      go_wp2_with fail
      refine (strings_join t9 A9 c9 and5 wr w1.heap.size (fun _ => True) HR7.out HL9.out HJ.out).mono ?_
      rintro e w5 ⟨rfl, hb⟩
      have HC8 := Aside0.mk (Kd.C_below HC7.out hb)
      have HB5 := Aside0.mk (below_step (below_step HB0.out HB1.out) hb)
      clear hb
      go_wp2_with fail
      go_ret3
      refine ⟨A7, c7, t7, ?_, HC8.out, ?_, HB5.out⟩
      · simp [HCO.out]
      · rw [HCO.out, HT7.out]
        show List.map toS0 _ = (List.range names.length).flatMap _
        rw [List.map_flatMap]
        refine flatMap_same fun i hi => ?_
        have hi2 := List.mem_range.1 hi
        obtain ⟨a0, a1⟩ := HOR.out.rng i (by have := HOR.out.len; omega)
        exact eqArgs_back true _ (HC.out.vr _ (ord_val HC.out a0 a1))

end Go.Proofs.Ytagandfneflcbaa
