/- impl.goOf and impl.goList at right values, lists among them. Conditions: the values are right (VR); at most 1000 of them. -/
import Derived.Test.YtagandfneflcbaaE
namespace Go.Proofs.Ytagandfneflcbaa
open Go.RowKit Go.Proofs.YtagandfneflcbaaW.PrintWords Go.Proofs.YtagandfneflcbaaW.PrintLast Go.Proofs.YtagandfneflcbaaW.PrintMore
open Go.Proofs.Ytagandfneflcbaa.PFnLt

theorem kI_cells {w : World} {base : Nat} {ok : Nat → Prop} {x : IV} {g : Value} (h : kI.M w base ok x [g]) : Value.cells.match_1 (fun _ => Array Value) g (fun cs => cs) (fun v => #[v]) = #[g] := by
  cases x with
  | sc y =>
    obtain rfl : g = enc0 y := by simpa using show [g] = [enc0 y] from h
    exact enc0_match y
  | lst l =>
    obtain ⟨v, hv, _⟩ := h
    obtain rfl : g = .iface 57 v := by simpa using hv
    rfl

/-- What was made behind a world is none of the row of an elder one. -/
theorem M_part {α β : Type} {d : Kd α} {d' : Kd β} {e : Nat} {W W1 w2 : World} {base : Nat} {ok ok' : Nat → Prop} {u : Value} {xs : List α} {x : β} {cs : List Value} (HO : d.R e W base ok u xs) (hle : W.heap.size ≤ W1.heap.size) (hbase : base ≤ W.heap.size) (hm : d'.M w2 W1.heap.size ok' x cs) :
    d'.M w2 base (fun k => True ∧ some k ≠ u.ownBlock) x cs := by
  obtain ⟨inner, ho⟩ := Kd.R_own HO
  exact d'.M_mono (fun k hk => ⟨trivial, fun he => by have := own_lt ho k he.symm; have := hk.2.1; omega⟩) (d'.M_lower (by omega) (d'.M_bound hm))

def AnyPost (x : IV) (w : World) (e : Ending) (w' : World) : Prop := ∃ g, e = .returned (.tuple #[g, .bool true]) ∧ kI.M w' w.heap.size (fun _ => True) x [g] ∧ Below w.heap.size w w'

set_option maxRecDepth 100000 in
set_option maxHeartbeats 1000000 in
theorem goOf_list (l : List S24) (hl : ∀ x, x ∈ l → VR0 x) (hs : l.length ≤ 1000) (A : Option Addr) (c : Nat) (w : World) (hC : Kd.C k24 w A l.length l) :
    Calls Try.prog 69 #[.agg #[.int .i64 5, .int .i64 0, .string ⟨#[]⟩, .slice A l.length c], .int .i64 0] w (AnyPost (.lst (l.map ofS0)) w) := by
  have HL := Aside0.mk hl
  have HC := Aside0.mk hC
  have HS := Aside0.mk hs
  clear hl hC hs
  go_enter Try.func69, Try.ntmps69
  go_wp2_with fail
  refine (goList_flat l HL.out HS.out A c _ _ (Kd.C_alloc HC.out _)).mono ?_
  rintro e w2 ⟨v, rfl, hr, hb⟩
  have HR := Aside0.mk hr
  have HB := Aside0.mk (below_step ((Below.refl w.heap.size w).alloc (Nat.le_refl _) _) hb)
  clear hr hb
  go_wp2_with fail
  go_ret2
  exact ⟨_, rfl, ⟨v, rfl, Kd.R_lower HR.out (by simp)⟩, HB.out⟩

theorem goOf_any (x : S24) (hx : VR x) (A : Option Addr) (c : Nat) (w : World) (hC : Kd.C k24 w A x.f3.length x.f3) :
    Calls Try.prog 69 #[.agg #[.int .i64 x.f0, .int .i64 x.f1, .string x.f2, .slice A x.f3.length c], .int .i64 0] w (AnyPost (ofS x) w) := by
  cases hx with
  | one h =>
    refine (goOf_flat x h A c 0 w).mono ?_
    rintro e w' ⟨rfl, hb⟩
    refine ⟨_, rfl, ?_, hb⟩
    have : ofS x = .sc (ofS0 x) := by cases h <;> rfl
    rw [this]
    rfl
  | list l hl h => exact goOf_list l h (by omega) A c w hC

set_option maxRecDepth 100000 in
set_option maxHeartbeats 4000000 in
theorem goList_any (l : List S24) (hl : ∀ x, x ∈ l → VR x) (hs : l.length ≤ 1000) (A : Option Addr) (c : Nat) (w : World) (hC : Kd.C k24 w A l.length l) :
    Calls Try.prog 54 #[.slice A l.length c, .int .i64 0] w (ListPost kI (l.map ofS) w) := by
  have HL := Aside0.mk hl
  have HC := Aside0.mk hC
  have HS : (l.length : Int) ≤ 1000 := by omega
  clear hl hC hs
  go_enter Try.func54, Try.ntmps54
  go_wp2_with fail
  go_loopw [6, 14] (fun v i wr => ∃ (u : Value) (x : Int), u = v ∧ i = .int .i64 x ∧ (0 ≤ x ∧ x ≤ l.length) ∧ Aside0 (kI.R 20 wr w.heap.size (fun _ => True) u ((l.take x.toNat).map ofS)) ∧ Aside0 (Below w.heap.size w wr)) (fun _ i _ => l.length - (intOf i).toNat)
  case atStart => exact ⟨_, 0, rfl, rfl, ⟨by omega, by omega⟩, ⟨⟨fun _ _ => trivial, [], World.ownsRow_made w #[] 0 (Nat.le_refl _) (by decide) rfl, by exact ⟨rfl, fun j p hj => by simp at hj⟩⟩⟩, ⟨(Below.refl _ _).alloc (Nat.le_refl _) _⟩⟩
  case round =>
    obtain ⟨u, x, rfl, rfl, ⟨hx0, hxn⟩, HO, HB⟩ := hrel
    by_cases hlt : x < l.length
    · obtain ⟨ad, A3, c3, e, x0, x1, x2, x3, hl3, hC3⟩ := at_T24 HC.out x hx0 hlt
      cases e
      replace x0 := (HB.out.cell (World.block_lt_of_cell? w _ x0)).trans x0
      replace x1 := (HB.out.cell (World.block_lt_of_cell? w _ x1)).trans x1
      replace x2 := (HB.out.cell (World.block_lt_of_cell? w _ x2)).trans x2
      replace x3 := (HB.out.cell (World.block_lt_of_cell? w _ x3)).trans x3
      have HC3 := Aside0.mk (Kd.C_below hC3 HB.out)
      clear hl3 hC3
      go_wp2_with fail
      refine (goOf_any (rd_T24 l x) (HL.out _ (rd_mem l x hx0 hlt)) A3 c3 _ (Kd.C_alloc HC3.out _)).mono ?_
      rintro e w2 ⟨g, rfl, hm, hb⟩
      have HB1 := Aside0.mk (below_step ((Below.refl wr.heap.size wr).alloc (Nat.le_refl _) _) hb)
      have HO2 := Aside0.mk (Kd.R_below HO.out HB1.out)
      have HB2 := Aside0.mk (below_step HB.out HB1.out)
      have hgc := kI_cells hm
      have HM := Aside0.mk (M_part HO.out (by simp) HB.out.size hm)
      clear hb hm x0 x1 x2 x3
      go_wp2_with (first | ((with_reducible refine gate_builtin (b := .append) (xs := #[.tmp 26, .tmp 28]) rfl ?_); at_builtin; refine Kd.R_append kI (w0 := w) w.heap.size rfl (.tmp 26) (.tmp 28) 57 20 .nilIface 16 rfl Try.underlying57 info20 rfl (by decide) (by omega) u ((l.take x.toNat).map ofS) (ofS (rd_T24 l x)) [g] (fun _ => True) (fun k => True ∧ some k ≠ u.ownBlock) rfl rfl ?aP (fun _ hk => hk) (fun _ _ => trivial) ?aO ?aB ?aS ?aL ?_; (case aP => exact HM.out); (case aO => exact HO2.out); (case aB => exact HB2.out); (case aS => exact HB2.out.size); (case aL => (rw [List.length_map, List.length_take]; omega)); intro v1 w3 ho hb hg hat; have HO3 := Aside0.mk ho; have HB3 := Aside0.mk hb; clear ho hb hg hat))
      clear hgc
      go_roundw
      case rel => exact ⟨_, x + 1, rfl, rfl, ⟨by omega, by omega⟩, ⟨by rw [take_up ofS l x hx0 hlt]; exact HO3.out⟩, HB3⟩
      case measure => simp [intOf]; omega
    · obtain rfl : x = l.length := by omega
      go_wp2_with fail
      go_ret2
      exact ⟨_, rfl, by have := HO.out; rwa [Int.toNat_natCast, List.take_length] at this, HB.out⟩

end Go.Proofs.Ytagandfneflcbaa
