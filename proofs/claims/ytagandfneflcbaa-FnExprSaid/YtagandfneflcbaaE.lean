/- Values as Go has them: interface values as data; impl.goOf and impl.goList at right values. Conditions: the values are right (VR). -/
import Derived.Test.YtagandfneflcbaaB
import Derived.WalkSpells
import Derived.WalkLawsBesides
namespace Go.Proofs.Ytagandfneflcbaa
open Go.RowKit Go.Proofs.YtagandfneflcbaaW.PrintWords Go.Proofs.YtagandfneflcbaaW.PrintLast Go.Proofs.YtagandfneflcbaaW.PrintMore
open Go.Proofs.Ytagandfneflcbaa.PFnLt

/-- An argument that is no list. -/
inductive I0 where
  | nil
  | int (n : Int)
  | str (s : ByteArray)
  | bool (b : Bool)
def enc0 : I0 → Value
  | .nil => .nilIface
  | .int n => .iface 2 (.int .i64 n)
  | .str s => .iface 9 (.string s)
  | .bool b => .iface 4 (.bool b)
theorem enc0_one (x : I0) : (enc0 x).oneCell' = true := by cases x <;> rfl
theorem enc0_cells (x : I0) : (enc0 x).cells = #[enc0 x] := by cases x <;> rfl
/-- 'Value.cells' as the walk writes it out. -/
@[go_sem] theorem enc0_match (x : I0) : Value.cells.match_1 (fun _ => Array Value) (enc0 x) (fun cs => cs) (fun v => #[v]) = #[enc0 x] := by cases x <;> rfl
@[go_sem] theorem enc0_one' (x : I0) : (enc0 x).oneCell' = true := enc0_one x
def kI0 : Kd I0 := Kd.scalar enc0 enc0_one

inductive IV where
  | sc (x : I0)
  | lst (l : List I0)
def IV.K (w : World) : IV → List Value → Prop
  | .sc y, cs => cs = [enc0 y]
  | .lst l, cs => ∃ A c, cs = [.iface 57 (.slice A l.length c)] ∧ l.length ≤ c ∧ kI0.C w A l.length l
def IV.M (w : World) (base : Nat) (ok : Nat → Prop) : IV → List Value → Prop
  | .sc y, cs => cs = [enc0 y]
  | .lst l, cs => ∃ v, cs = [.iface 57 v] ∧ kI0.R 20 w base ok v l
def kI : Kd IV where
  sz := 1
  E := [20]
  K := IV.K
  M := IV.M
  K_len := by
    intro w x cs h
    cases x with
    | sc y => rw [show cs = _ from h]; rfl
    | lst l => obtain ⟨A, c, rfl, _⟩ := h; rfl
  K_one := by
    intro w x cs h u hu
    cases x with
    | sc y =>
      rw [show cs = _ from h, List.mem_singleton] at hu
      rw [hu]; exact enc0_one y
    | lst l =>
      obtain ⟨A, c, rfl, _⟩ := h
      rw [List.mem_singleton.1 hu]; rfl
  K_below := by
    intro w w1 x cs hb h
    cases x with
    | sc y => exact h
    | lst l => obtain ⟨A, c, rfl, hl, hr⟩ := h; exact ⟨A, c, rfl, hl, Kd.C_below hr hb⟩
  K_of_M := by
    intro w base ok x cs h
    cases x with
    | sc y => exact h
    | lst l =>
      obtain ⟨v, rfl, h⟩ := h
      obtain ⟨A, c, rfl, hl, hr⟩ := Kd.R_reads h
      exact ⟨A, c, rfl, hl, hr⟩
  M_mono := by
    intro w base ok ok' x cs hok h
    cases x with
    | sc y => exact h
    | lst l => obtain ⟨v, rfl, h⟩ := h; exact ⟨v, rfl, Kd.R_mono h hok⟩
  M_bound := by
    intro w base ok x cs h
    cases x with
    | sc y => exact h
    | lst l => obtain ⟨v, rfl, h⟩ := h; exact ⟨v, rfl, Kd.R_bound h⟩
  M_move := by
    intro w w1 base ok x cs hm h
    cases x with
    | sc y => exact h
    | lst l => obtain ⟨v, rfl, h⟩ := h; exact ⟨v, rfl, Kd.R_move h hm⟩
  M_lower := by
    intro w base base' ok x cs hb h
    cases x with
    | sc y => exact h
    | lst l => obtain ⟨v, rfl, h⟩ := h; exact ⟨v, rfl, Kd.R_lower h hb⟩

/-- What a right value becomes. -/
def ofS0 (x : S24) : I0 := if x.f0 = 1 then .int x.f1 else if x.f0 = 2 then .str x.f2 else if x.f0 = 3 then .bool true else if x.f0 = 4 then .bool false else .nil
def ofS (x : S24) : IV := if x.f0 = 5 then .lst (x.f3.map ofS0) else .sc (ofS0 x)

def GoPost (v : Value) (B : Nat) (w : World) (e : Ending) (w' : World) : Prop := e = .returned (.tuple #[v, .bool true]) ∧ Below B w w'

variable {α : Type}
theorem info20 : (Try.prog.info? 20).map (fun i => (i.zero, i.size, i.bytes)) = some (some .nilIface, 1, 16) := by kernel_rfl

@[go_sem] theorem mkI2 (x : Value) (w : World) : (Instr.makeInterface 2 x).run Try.prog w = .ok (.iface 2 x) w := run_makeInterface w 2 x (by kernel_rfl)
@[go_sem] theorem mkI4 (x : Value) (w : World) : (Instr.makeInterface 4 x).run Try.prog w = .ok (.iface 4 x) w := run_makeInterface w 4 x (by kernel_rfl)
@[go_sem] theorem mkI9 (x : Value) (w : World) : (Instr.makeInterface 9 x).run Try.prog w = .ok (.iface 9 x) w := run_makeInterface w 9 x (by kernel_rfl)
@[go_sem] theorem mkI57 (x : Value) (w : World) : (Instr.makeInterface 57 x).run Try.prog w = .ok (.iface 57 x) w := run_makeInterface w 57 x (by kernel_rfl)

set_option maxRecDepth 100000 in
theorem goOf_flat (x : S24) (hx : VR0 x) (A : Option Addr) (c : Nat) (deep : Int) (w : World) :
    Calls Try.prog 69 #[.agg #[.int .i64 x.f0, .int .i64 x.f1, .string x.f2, .slice A x.f3.length c], .int .i64 deep] w (GoPost (enc0 (ofS0 x)) w.heap.size w) := by
  cases hx with
  | nil =>
    go_enter Try.func69, Try.ntmps69
    go_wp2_with fail
    go_ret2
    exact ⟨rfl, (Below.refl _ _).alloc (Nat.le_refl _) _⟩
  | int n =>
    go_enter Try.func69, Try.ntmps69
    go_wp2_with fail
    go_ret2
    exact ⟨rfl, (Below.refl _ _).alloc (Nat.le_refl _) _⟩
  | str s h =>
    clear h
    go_enter Try.func69, Try.ntmps69
    go_wp2_with fail
    go_ret2
    exact ⟨rfl, (Below.refl _ _).alloc (Nat.le_refl _) _⟩
  | yes =>
    go_enter Try.func69, Try.ntmps69
    go_wp2_with fail
    go_ret2
    exact ⟨rfl, (Below.refl _ _).alloc (Nat.le_refl _) _⟩
  | no =>
    go_enter Try.func69, Try.ntmps69
    go_wp2_with fail
    go_ret2
    exact ⟨rfl, (Below.refl _ _).alloc (Nat.le_refl _) _⟩

def ListPost (d : Kd α) (l : List α) (w : World) (e : Ending) (w' : World) : Prop := ∃ v, e = .returned (.tuple #[v, .bool true]) ∧ d.R 20 w' w.heap.size (fun _ => True) v l ∧ Below w.heap.size w w'

theorem take_up {β : Type} (f : S24 → β) (l : List S24) (x : Int) (h0 : 0 ≤ x) (h1 : x < l.length) : (l.take (x + 1).toNat).map f = (l.take x.toNat).map f ++ [f (rd_T24 l x)] := by
  obtain ⟨n, rfl⟩ := Int.eq_ofNat_of_zero_le h0
  have hn : n < l.length := by omega
  rw [show ((n : Int) + 1).toNat = n + 1 from by omega, Int.toNat_natCast, List.take_succ_eq_append_getElem hn, List.map_append]
  simp [rd_T24, List.getD_eq_getElem?_getD, List.getElem?_eq_getElem hn]
theorem rd_mem (l : List S24) (x : Int) (h0 : 0 ≤ x) (h1 : x < l.length) : rd_T24 l x ∈ l := by
  obtain ⟨n, rfl⟩ := Int.eq_ofNat_of_zero_le h0
  have hn : n < l.length := by omega
  simp [rd_T24, List.getD_eq_getElem?_getD, List.getElem?_eq_getElem hn]

set_option maxRecDepth 100000 in
set_option maxHeartbeats 4000000 in
theorem goList_flat (l : List S24) (hl : ∀ x, x ∈ l → VR0 x) (hs : l.length ≤ 1000) (A : Option Addr) (c : Nat) (deep : Int) (w : World) (hC : Kd.C k24 w A l.length l) :
    Calls Try.prog 54 #[.slice A l.length c, .int .i64 deep] w (ListPost kI0 (l.map ofS0) w) := by
  have HL := Aside0.mk hl
  have HC := Aside0.mk hC
  have HS : (l.length : Int) ≤ 1000 := by omega
  clear hl hC hs
  go_enter Try.func54, Try.ntmps54
  go_wp2_with fail
  go_loopw [6, 14] (fun v i wr => ∃ (u : Value) (x : Int), u = v ∧ i = .int .i64 x ∧ (0 ≤ x ∧ x ≤ l.length) ∧ Aside0 (kI0.R 20 wr w.heap.size (fun _ => True) u ((l.take x.toNat).map ofS0)) ∧ Aside0 (Below w.heap.size w wr)) (fun _ i _ => l.length - (intOf i).toNat)
  case atStart => exact ⟨_, 0, rfl, rfl, ⟨by omega, by omega⟩, ⟨Kd.R_of_own (World.ownsRow_made w #[] 0 (Nat.le_refl _) (by decide) rfl) (fun _ _ => trivial)⟩, ⟨(Below.refl _ _).alloc (Nat.le_refl _) _⟩⟩
  case round =>
    obtain ⟨u, x, rfl, rfl, ⟨hx0, hxn⟩, HO, HB⟩ := hrel
    by_cases hlt : x < l.length
    · obtain ⟨ad, A3, c3, e, x0, x1, x2, x3, _, _⟩ := at_T24 HC.out x hx0 hlt
      cases e
      replace x0 := (HB.out.cell (World.block_lt_of_cell? w _ x0)).trans x0
      replace x1 := (HB.out.cell (World.block_lt_of_cell? w _ x1)).trans x1
      replace x2 := (HB.out.cell (World.block_lt_of_cell? w _ x2)).trans x2
      replace x3 := (HB.out.cell (World.block_lt_of_cell? w _ x3)).trans x3
      go_wp2_with fail
      refine (goOf_flat (rd_T24 l x) (HL.out _ (rd_mem l x hx0 hlt)) A3 c3 deep _).mono ?_
      rintro e w2 ⟨rfl, hb⟩
      have HB1 := Aside0.mk (below_step ((Below.refl wr.heap.size wr).alloc (Nat.le_refl _) _) hb)
      have HO2 := Aside0.mk (Kd.R_below HO.out HB1.out)
      have HB2 := Aside0.mk (below_step HB.out HB1.out)
      clear hb x0 x1 x2 x3
      go_wp2_with (first | ((with_reducible refine gate_builtin (b := .append) (xs := #[.tmp 26, .tmp 28]) rfl ?_); at_builtin; go_loud (refine Kd.R_append kI0 (w0 := w) w.heap.size rfl (.tmp 26) (.tmp 28) 57 20 .nilIface 16 rfl Try.underlying57 info20 rfl (by decide) (by omega) u ((l.take x.toNat).map ofS0) (ofS0 (rd_T24 l x)) [enc0 (ofS0 (rd_T24 l x))] (fun _ => True) (fun _ => False) rfl rfl ?aP (fun _ hk => hk.elim) (fun _ _ => trivial) ?aO ?aB ?aS ?aL ?_); (case aP => exact rfl); (case aO => exact HO2.out); (case aB => exact HB2.out); (case aS => exact HB2.out.size); (case aL => (rw [List.length_map, List.length_take]; omega)); intro v1 w3 ho hb hg hat; have HO3 := Aside0.mk ho; have HB3 := Aside0.mk hb; clear ho hb hg hat))
      go_roundw
      case rel => exact ⟨_, x + 1, rfl, rfl, ⟨by omega, by omega⟩, ⟨by rw [take_up ofS0 l x hx0 hlt]; exact HO3.out⟩, HB3⟩
      case measure => simp [intOf]; omega
    · obtain rfl : x = l.length := by omega
      go_wp2_with fail
      go_ret2
      exact ⟨_, rfl, by have := HO.out; rwa [Int.toNat_natCast, List.take_length] at this, HB.out⟩

end Go.Proofs.Ytagandfneflcbaa
