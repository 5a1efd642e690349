/- squirrel's expr.ToSql without pieces, impl.told, impl.ExprOf; spec.Expr without pieces; the law of FnExpr, walked. Conditions: the values lie in memory as their data say. -/
import Derived.Test.YtagandfneflcbaaEx1
import Derived.Test.YtagandfneflcbaaP
import Derived.BigQuiet
namespace Go.Proofs.Ytagandfneflcbaa
open Go.RowKit Go.Proofs.YtagandfneflcbaaW.PrintWords Go.Proofs.YtagandfneflcbaaW.PrintLast Go.Proofs.YtagandfneflcbaaW.PrintMore
open Go.Proofs.Ytagandfneflcbaa.PFnLt

theorem zero81 (w : World) : (zeroValue 81).run Try.prog w = .ok .nilIface w := by kernel_rfl
theorem miss2 : (Instr.missingMethod #[("ToSql", 62)] Try.t2.methods).isSome = true := by
  rw [show Try.t2.methods = #[] from rfl]
  simp [Instr.missingMethod, Instr.least]
theorem miss4 : (Instr.missingMethod #[("ToSql", 62)] Try.t4.methods).isSome = true := by
  rw [show Try.t4.methods = #[] from rfl]
  simp [Instr.missingMethod, Instr.least]
theorem miss9 : (Instr.missingMethod #[("ToSql", 62)] Try.t9.methods).isSome = true := by
  rw [show Try.t9.methods = #[] from rfl]
  simp [Instr.missingMethod, Instr.least]
theorem miss57 : (Instr.missingMethod #[("ToSql", 62)] Try.t57.methods).isSome = true := by
  rw [show Try.t57.methods = #[] from rfl]
  simp [Instr.missingMethod, Instr.least]
theorem as2_81 (v : Value) (w : World) : (Instr.typeAssert (.iface 2 v) 20 81 true).run Try.prog w = .ok (.tuple #[.nilIface, .bool false]) w := by
  obtain ⟨m, hm⟩ := Option.isSome_iff_exists.1 miss2
  simp [Instr.typeAssert, go_sem, hm]
theorem as4_81 (v : Value) (w : World) : (Instr.typeAssert (.iface 4 v) 20 81 true).run Try.prog w = .ok (.tuple #[.nilIface, .bool false]) w := by
  obtain ⟨m, hm⟩ := Option.isSome_iff_exists.1 miss4
  simp [Instr.typeAssert, go_sem, hm]
theorem as9_81 (v : Value) (w : World) : (Instr.typeAssert (.iface 9 v) 20 81 true).run Try.prog w = .ok (.tuple #[.nilIface, .bool false]) w := by
  obtain ⟨m, hm⟩ := Option.isSome_iff_exists.1 miss9
  simp [Instr.typeAssert, go_sem, hm]
theorem as57_81 (v : Value) (w : World) : (Instr.typeAssert (.iface 57 v) 20 81 true).run Try.prog w = .ok (.tuple #[.nilIface, .bool false]) w := by
  obtain ⟨m, hm⟩ := Option.isSome_iff_exists.1 miss57
  simp [Instr.typeAssert, go_sem, hm]
@[go_sem] theorem asn_81 (w : World) : (Instr.typeAssert .nilIface 20 81 true).run Try.prog w = .ok (.tuple #[.nilIface, .bool false]) w := by kernel_rfl
@[go_sem] theorem mkI97 (x : Value) (w : World) : (Instr.makeInterface 97 x).run Try.prog w = .ok (.iface 97 x) w := run_makeInterface w 97 x (by kernel_rfl)

theorem iv_assert {x : IV} {g : Value} {w : World} (hK : kI.K w x [g]) : ∀ w' : World, (Instr.typeAssert g 20 81 true).run Try.prog w' = .ok (.tuple #[.nilIface, .bool false]) w' := by
  intro w'
  cases x with
  | sc y =>
    obtain rfl : g = enc0 y := by have h3 : [g] = [enc0 y] := hK; simpa using h3
    cases y with
    | nil => exact asn_81 w'
    | int n => exact as2_81 _ w'
    | str n => exact as9_81 _ w'
    | bool n => exact as4_81 _ w'
  | lst s =>
    obtain ⟨A, c, h2, _, hC⟩ := hK
    obtain rfl : g = .iface 57 (.slice A s.length c) := by simpa using h2
    exact as57_81 _ w'

set_option maxRecDepth 100000 in
set_option maxHeartbeats 4000000 in
theorem exprSql (s : ByteArray) (l : List IV) (hs : l.length ≤ 1000) (A : Option Addr) (c : Nat) (w : World) (hC : kI.C w A l.length l) :
    Calls Try.prog 137 #[.agg #[.string s, .slice A l.length c]] w fun e w' => e = .returned (.tuple #[.string s, .slice A l.length c, .nilIface]) ∧ Below w.heap.size w w' := by
  have HC := Aside0.mk hC
  have HS : (l.length : Int) ≤ 1000 := by omega
  clear hC hs
  go_enter Try.func137, Try.ntmps137
  go_wp2_with fail
  go_loopw [5, 21] (fun v i wr => ∃ x : Int, v = .bool true ∧ i = .int .i64 x ∧ (0 ≤ x ∧ x ≤ l.length) ∧ wr = w.alloc (.cells #[.string s, .slice A l.length c] 97)) (fun _ i _ => l.length - (intOf i).toNat)
  case atStart => exact ⟨0, rfl, rfl, ⟨by omega, by omega⟩, by trivial⟩
  case round =>
    obtain ⟨x, rfl, rfl, ⟨hx0, hxn⟩, rfl⟩ := hrel
    by_cases hlt : x < l.length
    · obtain ⟨ad, cs, e, hcl, hK, hcell⟩ := ReadsRow.get_ (Kd.C_alloc HC.out (.cells #[.string s, .slice A l.length c] 97)) (IV.sc .nil) x hx0 hlt
      obtain ⟨g, rfl⟩ : ∃ g, cs = [g] := by
        match cs, hcl with
        | [g], _ => exact ⟨g, rfl⟩
      cases e
      have x0 : (w.alloc (.cells #[.string s, .slice (some ad) l.length c] 97)).cell? (ad.add x.toNat) = some g := by
        have := hcell 0 g rfl
        rwa [show kI.sz = 1 from rfl, Nat.mul_one, Nat.add_zero] at this
      have has := iv_assert hK
      clear hK hcell hcl
      go_wp2_with fail
      go_roundw
      case rel => exact ⟨x + 1, rfl, rfl, ⟨by omega, by omega⟩, by trivial⟩
      case measure => simp [intOf]; omega
    · obtain rfl : x = l.length := by omega
      go_wp2_with fail
      go_quiet (fail)
      all_goals
        go_wp2_with fail
        go_ret3
        exact ⟨rfl, pw_below_drewN ((Below.refl _ _).alloc (Nat.le_refl _) _) _⟩

set_option maxRecDepth 100000 in
set_option maxHeartbeats 4000000 in
theorem exprMk (s : ByteArray) (A : Option Addr) (n c : Nat) (w : World) : Calls Try.prog 56 #[.string s, .slice A n c] w fun e w' => e = .returned (.iface 97 (.agg #[.string s, .slice A n c])) ∧ w' = w := by
  go_enter Try.func56, Try.ntmps56
  go_wp2_with fail
  go_ret
  exact ⟨rfl, rfl⟩

set_option maxRecDepth 100000 in
set_option maxHeartbeats 4000000 in
theorem told_expr (s : ByteArray) (l : List IV) (hs : l.length ≤ 1000) (hx : ∀ x, x ∈ l → ∀ t, x = .lst t → t.length ≤ 1000) (A : Option Addr) (c : Nat) (w : World) (hC : kI.C w A l.length l) :
    Calls Try.prog 55 #[.iface 97 (.agg #[.string s, .slice A l.length c])] w (AnsPost s (l.map toS) w) := by
  have HE := Aside0.mk (exprSql s l hs A c w hC)
  have HC := Aside0.mk hC
  have HS := Aside0.mk hs
  have HX := Aside0.mk hx
  clear hC hs hx
  go_enter Try.func55, Try.ntmps55
  go_wp2_with fail
  refine HE.out.mono ?_
  rintro e w2 ⟨rfl, hb⟩
  have HB := Aside0.mk hb
  clear hb
  go_wp2_with fail
  refine (answer_ok s (.slice A l.length c) (l.map toS) _ (valuesOf_any l HS.out HX.out A c _ (Kd.C_below HC.out HB.out))).mono ?_
  rintro e w3 ⟨v, rfl, hr, hb⟩
  have HR3 := Aside0.mk hr
  have HB3 := Aside0.mk (below_step HB.out hb)
  have HS3 := Aside0.mk HB.out.size
  clear hr hb
  go_wp2_with fail
  go_ret3
  exact ⟨v, rfl, Kd.R_lower HR3.out HS3.out, HB3.out⟩

set_option maxRecDepth 100000 in
set_option maxHeartbeats 4000000 in
theorem exprOf_any (s : ByteArray) (vals : List S24) (hv : ∀ x, x ∈ vals → VR x) (h8 : vals.length ≤ 8) (A : Option Addr) (c : Nat) (w : World) (hV : k24.C w A vals.length vals) :
    Calls Try.prog 30 #[.string s, .slice A vals.length c] w (AnsPost s vals w) := by
  have HG := Aside0.mk (goList_any vals hv (by omega) A c w hV)
  have HV := Aside0.mk hv
  have H8 := Aside0.mk h8
  clear hV hv h8
  go_enter Try.func30, Try.ntmps30
  go_wp2_with fail
  refine HG.out.mono ?_
  rintro e w1 ⟨v, rfl, hr, hb⟩
  obtain ⟨A1, c1, rfl, _, hC1⟩ := Kd.R_reads hr
  have HC1 := Aside0.mk hC1
  have HB := Aside0.mk hb
  clear hr hC1 hb
  go_wp2_with fail
  refine (exprMk s A1 vals.length c1 _).mono ?_
  rintro e w2 ⟨rfl, rfl⟩
  go_wp2_with fail
  have ht := told_expr s (vals.map ofS) (by rw [List.length_map]; have := H8.out; omega) (fun x hx t ht => by
    obtain ⟨y, hy, rfl⟩ := List.mem_map.1 hx
    have hvr := HV.out y hy
    cases hvr with
    | one h =>
      have h1 : ofS y = .sc (ofS0 y) := by cases h <;> rfl
      rw [h1] at ht
      cases ht
    | list l hl h =>
      have h1 : ofS ⟨5, 0, ⟨#[]⟩, l⟩ = .lst (l.map ofS0) := rfl
      rw [h1] at ht
      injection ht with ht
      rw [← ht, List.length_map]; omega) A1 c1 w2 HC1.out
  rw [map_toS HV.out, List.length_map] at ht
  refine ht.mono ?_
  rintro e w3 ⟨v, rfl, hr, hb⟩
  have HR3 := Aside0.mk hr
  have HB3 := Aside0.mk (below_step HB.out hb)
  have HS3 := Aside0.mk HB.out.size
  clear hr hb ht
  go_wp2_with fail
  go_ret3
  exact ⟨v, rfl, Kd.R_lower HR3.out HS3.out, HB3.out⟩

set_option maxRecDepth 100000 in
set_option maxHeartbeats 4000000 in
theorem specExpr (s : ByteArray) (A : Option Addr) (n c : Nat) (w : World) : Calls Try.prog 31 #[.string s, .slice A n c, .slice none 0 0] w fun e w' => e = .returned (.agg #[.string s, .slice A n c, .int .i64 1]) ∧ Below w.heap.size w w' := by
  go_enter Try.func31, Try.ntmps31
  go_wp2_with fail
  refine bodyPost_ret (v := .agg #[.string s, .slice A n c, .int .i64 1]) (by simp [results, Try.results31, go_sem]) rfl ⟨rfl, ?_⟩
  exact (Below.refl _ _).alloc (Nat.le_refl _) _

set_option maxRecDepth 100000 in
set_option maxHeartbeats 4000000 in
theorem law_13 (s : ByteArray) (vals : List S24) (VA : Option Addr) (vc : Nat) (w : World) (hV : k24.C w VA vals.length vals) :
    Calls Try.prog 13 #[.string s, .slice VA vals.length vc] w (SamePost w) := by
  have HV := Aside0.mk hV
  clear hV
  by_cases h1 : (2147483647 : Int) < s.size
  · by_cases h2 : (2147483647 : Int) < vals.length <;>
    · go_enter Try.func13, Try.ntmps13
      go_wp2_with fail
      go_ret
      exact ⟨rfl, Below.refl _ _⟩
  by_cases h2 : (2147483647 : Int) < vals.length
  · go_enter Try.func13, Try.ntmps13
    go_wp2_with fail
    go_ret
    exact ⟨rfl, Below.refl _ _⟩
  go_enter Try.func13, Try.ntmps13
  go_wp2_with fail
  refine (condRight_of w.heap.size (pieceCells 1 s none 0 0 VA vals.length vc) _ (ER s vals) (blk_new _ _) rfl ?_).mono ?_
  · intro w1 hb
    have hb0 : Below w.heap.size w w1 := below_step ((Below.refl _ _).alloc (Nat.le_refl _) _) hb
    exact cond_text_blk _ VA vc s vals w1 (blk_below (blk_new _ _) hb) (Kd.C_below HV.out hb0)
  rintro e w2 ⟨r, rfl, hr, hb2⟩
  have HB2 := Aside0.mk (below_step ((Below.refl w.heap.size w).alloc (Nat.le_refl _) _) hb2)
  clear hb2
  cases r with
  | false =>
    go_wp2_with fail
    go_ret
    exact ⟨rfl, HB2.out⟩
  | true =>
    have HER := Aside0.mk (hr rfl)
    clear hr
    go_wp2_with fail
    refine (exprOf_any s vals HER.out.vr HER.out.v8 VA vc _ (Kd.C_below HV.out HB2.out)).mono ?_
    rintro e w3 ⟨v, rfl, hrr, hb⟩
    obtain ⟨A3, c3, rfl, _, hC3⟩ := Kd.R_reads hrr
    have HC3 := Aside0.mk hC3
    have HB3 := Aside0.mk (below_step HB2.out hb)
    clear hrr hC3 hb
    go_wp2_with fail
    refine (specExpr s VA vals.length vc _).mono ?_
    rintro e w4 ⟨rfl, hb⟩
    have HB4 := Aside0.mk (below_step HB3.out hb)
    have HC4 := Aside0.mk (Kd.C_below HC3.out hb)
    clear hb
    go_wp2_with fail
    refine (told7_yes _ _ _ _ _ _ _ _ (fun w5 hb => sameValues_any vals HER.out.vr (by have := HER.out.v8; omega) _ _ _ _ w5 (Kd.C_below HC4.out hb) (Kd.C_below HV.out (below_step HB4.out hb)))).mono ?_
    rintro e w5 ⟨rfl, hb⟩
    have HB5 := Aside0.mk (below_step HB4.out hb)
    clear hb
    go_wp2_with fail
    go_ret
    exact ⟨rfl, HB5.out⟩

end Go.Proofs.Ytagandfneflcbaa
