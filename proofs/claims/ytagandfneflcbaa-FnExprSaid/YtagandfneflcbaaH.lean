/- Values as data again: impl.valueOf, impl.valuesOf; errors.New; isListType. Conditions: the interface values are of the kinds that impl.goOf makes. -/
import Derived.Test.YtagandfneflcbaaE
namespace Go.Proofs.Ytagandfneflcbaa
open Go.RowKit Go.Proofs.YtagandfneflcbaaW.PrintWords Go.Proofs.YtagandfneflcbaaW.PrintLast Go.Proofs.YtagandfneflcbaaW.PrintMore
open Go.Proofs.Ytagandfneflcbaa.PFnLt

def toS0 : I0 → S24
  | .nil => ⟨0, 0, ⟨#[]⟩, []⟩
  | .int n => ⟨1, n, ⟨#[]⟩, []⟩
  | .str s => ⟨2, 0, s, []⟩
  | .bool true => ⟨3, 0, ⟨#[]⟩, []⟩
  | .bool false => ⟨4, 0, ⟨#[]⟩, []⟩
theorem toS0_f3 (x : I0) : (toS0 x).f3 = [] := by cases x with
  | bool b => cases b <;> rfl
  | _ => rfl
def toS : IV → S24
  | .sc x => toS0 x
  | .lst l => ⟨5, 0, ⟨#[]⟩, l.map toS0⟩
theorem toS0_ofS0 {x : S24} (h : VR0 x) : toS0 (ofS0 x) = x := by cases h <;> rfl
theorem map_toS0 {l : List S24} (h : ∀ y, y ∈ l → VR0 y) : (l.map ofS0).map toS0 = l := by
  rw [List.map_map]
  conv => rhs; rw [← List.map_id l]
  exact List.map_congr_left fun y hy => toS0_ofS0 (h y hy)
theorem toS_ofS {x : S24} (h : VR x) : toS (ofS x) = x := by
  cases h with
  | one h => cases h <;> rfl
  | list l hl h =>
    show S24.mk 5 0 ⟨#[]⟩ ((l.map ofS0).map toS0) = _
    rw [map_toS0 h]
theorem map_toS {l : List S24} (h : ∀ y, y ∈ l → VR y) : (l.map ofS).map toS = l := by
  rw [List.map_map]
  conv => rhs; rw [← List.map_id l]
  exact List.map_congr_left fun y hy => toS_ofS (h y hy)

@[go_sem] theorem mkI106 (x : Value) (w : World) : (Instr.makeInterface 106 x).run Try.prog w = .ok (.iface 106 x) w := run_makeInterface w 106 x (by kernel_rfl)

theorem errorsNew_any (s : ByteArray) (w : World) : Calls Try.prog 71 #[.string s] w fun e w' => e = .returned (.iface 106 (.pointer (some ⟨w.heap.size, 0, none⟩))) ∧ w' = w.alloc (.cells #[.string s] 108) := by
  go_enter Try.func71, Try.ntmps71
  go_wp2_with fail
  go_ret
  exact ⟨rfl, rfl⟩

@[go_sem] theorem as2_57 (v : Value) (w : World) : (Instr.typeAssert (.iface 2 v) 20 57 true).run Try.prog w = .ok (.tuple #[.slice none 0 0, .bool false]) w := by kernel_rfl
@[go_sem] theorem as4_57 (v : Value) (w : World) : (Instr.typeAssert (.iface 4 v) 20 57 true).run Try.prog w = .ok (.tuple #[.slice none 0 0, .bool false]) w := by kernel_rfl
@[go_sem] theorem as9_57 (v : Value) (w : World) : (Instr.typeAssert (.iface 9 v) 20 57 true).run Try.prog w = .ok (.tuple #[.slice none 0 0, .bool false]) w := by kernel_rfl
@[go_sem] theorem as57_57 (v : Value) (w : World) : (Instr.typeAssert (.iface 57 v) 20 57 true).run Try.prog w = .ok (.tuple #[v, .bool true]) w := by kernel_rfl
@[go_sem] theorem asn_57 (w : World) : (Instr.typeAssert .nilIface 20 57 true).run Try.prog w = .ok (.tuple #[.slice none 0 0, .bool false]) w := by kernel_rfl
@[go_sem] theorem as57_57f (v : Value) (w : World) : (Instr.typeAssert (.iface 57 v) 20 57 false).run Try.prog w = .ok v w := by kernel_rfl

theorem isList_sc (x : I0) (w : World) : Calls Try.prog 72 #[enc0 x] w fun e w' => e = .returned (.bool false) ∧ w' = w := by
  cases x <;> simp only [enc0]
  all_goals
    go_enter Try.func72, Try.ntmps72
    go_wp2_with fail
    go_ret
    exact ⟨rfl, rfl⟩
theorem isList_lst (v : Value) (w : World) : Calls Try.prog 72 #[.iface 57 v] w fun e w' => e = .returned (.bool true) ∧ w' = w := by
  go_enter Try.func72, Try.ntmps72
  go_wp2_with fail
  go_ret
  exact ⟨rfl, rfl⟩

@[go_sem] theorem as2_2 (v : Value) (w : World) : (Instr.typeAssert (.iface 2 v) 20 2 true).run Try.prog w = .ok (.tuple #[v, .bool true]) w := by kernel_rfl
@[go_sem] theorem as4_2 (v : Value) (w : World) : (Instr.typeAssert (.iface 4 v) 20 2 true).run Try.prog w = .ok (.tuple #[.int .i64 0, .bool false]) w := by kernel_rfl
@[go_sem] theorem as9_2 (v : Value) (w : World) : (Instr.typeAssert (.iface 9 v) 20 2 true).run Try.prog w = .ok (.tuple #[.int .i64 0, .bool false]) w := by kernel_rfl
@[go_sem] theorem as57_2 (v : Value) (w : World) : (Instr.typeAssert (.iface 57 v) 20 2 true).run Try.prog w = .ok (.tuple #[.int .i64 0, .bool false]) w := by kernel_rfl
@[go_sem] theorem as4_9 (v : Value) (w : World) : (Instr.typeAssert (.iface 4 v) 20 9 true).run Try.prog w = .ok (.tuple #[.string ByteArray.empty, .bool false]) w := by kernel_rfl
@[go_sem] theorem as9_9 (v : Value) (w : World) : (Instr.typeAssert (.iface 9 v) 20 9 true).run Try.prog w = .ok (.tuple #[v, .bool true]) w := by kernel_rfl
@[go_sem] theorem as57_9 (v : Value) (w : World) : (Instr.typeAssert (.iface 57 v) 20 9 true).run Try.prog w = .ok (.tuple #[.string ByteArray.empty, .bool false]) w := by kernel_rfl
@[go_sem] theorem as4_4 (v : Value) (w : World) : (Instr.typeAssert (.iface 4 v) 20 4 true).run Try.prog w = .ok (.tuple #[v, .bool true]) w := by kernel_rfl
@[go_sem] theorem as57_4 (v : Value) (w : World) : (Instr.typeAssert (.iface 57 v) 20 4 true).run Try.prog w = .ok (.tuple #[.bool false, .bool false]) w := by kernel_rfl

def aggOf (x : S24) (v : Value) : Value := .agg #[.int .i64 x.f0, .int .i64 x.f1, .string x.f2, v]
def ValPost (x : S24) (w : World) (e : Ending) (w' : World) : Prop := e = .returned (aggOf x (.slice none 0 0)) ∧ Below w.heap.size w w'

theorem valueOf_sc (x : I0) (w : World) : Calls Try.prog 70 #[enc0 x] w (ValPost (toS0 x) w) := by
  cases x with
  | nil =>
    simp only [enc0, toS0]
    go_enter Try.func70, Try.ntmps70
    go_wp2_with fail
    refine bodyPost_ret (v := aggOf ⟨0, 0, ⟨#[]⟩, []⟩ (.slice none 0 0)) (by simp [results, Try.results70, go_sem]; rfl) rfl ⟨rfl, ?_⟩
    exact (Below.refl _ _).alloc (Nat.le_refl _) _
  | int n =>
    simp only [enc0, toS0]
    go_enter Try.func70, Try.ntmps70
    go_wp2_with fail
    refine bodyPost_ret (v := aggOf ⟨1, n, ⟨#[]⟩, []⟩ (.slice none 0 0)) (by simp [results, Try.results70, go_sem]; rfl) rfl ⟨rfl, ?_⟩
    exact (Below.refl _ _).alloc (Nat.le_refl _) _
  | str s =>
    simp only [enc0, toS0]
    go_enter Try.func70, Try.ntmps70
    go_wp2_with fail
    refine bodyPost_ret (v := aggOf ⟨2, 0, s, []⟩ (.slice none 0 0)) (by simp [results, Try.results70, go_sem]; rfl) rfl ⟨rfl, ?_⟩
    exact (Below.refl _ _).alloc (Nat.le_refl _) _
  | bool b =>
    cases b with
    | true =>
      simp only [enc0, toS0]
      go_enter Try.func70, Try.ntmps70
      go_wp2_with fail
      refine bodyPost_ret (v := aggOf ⟨3, 0, ⟨#[]⟩, []⟩ (.slice none 0 0)) (by simp [results, Try.results70, go_sem]; rfl) rfl ⟨rfl, ?_⟩
      exact (Below.refl _ _).alloc (Nat.le_refl _) _
    | false =>
      simp only [enc0, toS0]
      go_enter Try.func70, Try.ntmps70
      go_wp2_with fail
      refine bodyPost_ret (v := aggOf ⟨4, 0, ⟨#[]⟩, []⟩ (.slice none 0 0)) (by simp [results, Try.results70, go_sem]; rfl) rfl ⟨rfl, ?_⟩
      exact (Below.refl _ _).alloc (Nat.le_refl _) _

def ValsPost (l : List S24) (w : World) (e : Ending) (w' : World) : Prop := ∃ v, e = .returned v ∧ k24.R 24 w' w.heap.size (fun _ => True) v l ∧ Below w.heap.size w w'

theorem take_upI {β γ : Type} (f : β → γ) (z : β) (l : List β) (x : Int) (h0 : 0 ≤ x) (h1 : x < l.length) : (l.take (x + 1).toNat).map f = (l.take x.toNat).map f ++ [f (rdOf z l x)] := by
  obtain ⟨n, rfl⟩ := Int.eq_ofNat_of_zero_le h0
  have hn : n < l.length := by omega
  rw [show ((n : Int) + 1).toNat = n + 1 from by omega, Int.toNat_natCast, List.take_succ_eq_append_getElem hn, List.map_append]
  simp [rdOf, List.getD_eq_getElem?_getD, List.getElem?_eq_getElem hn]

set_option maxRecDepth 100000 in
set_option maxHeartbeats 4000000 in
theorem valuesOf_flat (l : List I0) (hs : l.length ≤ 1000) (A : Option Addr) (c : Nat) (w : World) (hC : kI0.C w A l.length l) :
    Calls Try.prog 61 #[.slice A l.length c] w (ValsPost (l.map toS0) w) := by
  have HC := Aside0.mk hC
  have HS : (l.length : Int) ≤ 1000 := by omega
  clear hC hs
  go_enter Try.func61, Try.ntmps61
  go_wp2_with fail
  go_loopw [3, 8] (fun v i wr => ∃ (u : Value) (x : Int), u = v ∧ i = .int .i64 x ∧ (0 ≤ x ∧ x ≤ l.length) ∧ Aside0 (k24.R 24 wr w.heap.size (fun _ => True) u ((l.take x.toNat).map toS0)) ∧ Aside0 (Below w.heap.size w wr)) (fun _ i _ => l.length - (intOf i).toNat)
  case atStart => exact ⟨_, 0, rfl, rfl, ⟨by omega, by omega⟩, ⟨Kd.R_nil _ _ _ _ _⟩, ⟨Below.refl _ _⟩⟩
  case round =>
    obtain ⟨u, x, rfl, rfl, ⟨hx0, hxn⟩, HO, HB⟩ := hrel
    by_cases hlt : x < l.length
    · obtain ⟨ad, e, x0⟩ := ReadsOf.at_ (Kd.reads_of_C (d := I0.nil) HC.out) x hx0 hlt
      cases e
      replace x0 := (HB.out.cell (World.block_lt_of_cell? w _ x0)).trans x0
      go_wp2_with fail
      refine (valueOf_sc (rdOf I0.nil l x) _).mono ?_
      rintro e w2 ⟨rfl, hb⟩
      have HO2 := Aside0.mk (Kd.R_below HO.out hb)
      have HB2 := Aside0.mk (below_step HB.out hb)
      clear hb x0
      unfold aggOf
      go_wp2_with (first | ((with_reducible refine gate_builtin (b := .append) (xs := #[.tmp 12, .tmp 15]) rfl ?_); at_builtin; refine Kd.R_append k24 (w0 := w) w.heap.size rfl (.tmp 12) (.tmp 15) 22 24 (.agg #[.int .i64 0, .int .i64 0, .string ⟨#[]⟩, .slice none 0 0]) 56 rfl Try.underlying22 info24 rfl (by decide) (by omega) u ((l.take x.toNat).map toS0) (toS0 (rdOf I0.nil l x)) [.int .i64 (toS0 (rdOf I0.nil l x)).f0, .int .i64 (toS0 (rdOf I0.nil l x)).f1, .string (toS0 (rdOf I0.nil l x)).f2, .slice none 0 0] (fun _ => True) (fun _ => False) rfl rfl ?aP (fun _ hk => hk.elim) (fun _ _ => trivial) ?aO ?aB ?aS ?aL ?_; (case aP => exact k24_mkM _ _ _ _ (by rw [toS0_f3]; exact Kd.R_nil _ _ _ _ _)); (case aO => exact HO2.out); (case aB => exact HB2.out); (case aS => exact HB2.out.size); (case aL => (rw [List.length_map, List.length_take]; omega)); intro v1 w3 ho hb hg hat; have HO3 := Aside0.mk ho; have HB3 := Aside0.mk hb; clear ho hb hg hat))
      go_roundw
      case rel => exact ⟨_, x + 1, rfl, rfl, ⟨by omega, by omega⟩, ⟨by rw [take_upI toS0 I0.nil l x hx0 hlt]; exact HO3.out⟩, HB3⟩
      case measure => simp [intOf]; omega
    · obtain rfl : x = l.length := by omega
      go_wp2_with fail
      go_ret
      exact ⟨_, rfl, by have := HO.out; rwa [Int.toNat_natCast, List.take_length] at this, HB.out⟩

end Go.Proofs.Ytagandfneflcbaa
