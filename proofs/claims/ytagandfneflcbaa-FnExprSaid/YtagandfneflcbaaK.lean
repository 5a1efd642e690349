/- The comparison of results: impl.answer, spec.SameValue(s) at equal values, laws.told7. Conditions: both lists hold the same values. -/
import Derived.Test.YtagandfneflcbaaH
import Derived.StillTailTactics
namespace Go.Proofs.Ytagandfneflcbaa
open Go.RowKit Go.Proofs.YtagandfneflcbaaW.PrintWords Go.Proofs.YtagandfneflcbaaW.PrintLast Go.Proofs.YtagandfneflcbaaW.PrintMore
open Go.Proofs.Ytagandfneflcbaa.PFnLt

theorem answer_err (s : ByteArray) (l : Value) (a : Option Addr) (w : World) : Calls Try.prog 39 #[.string s, l, .iface 106 (.pointer a)] w fun e w' => e = .returned (.tuple #[.string ⟨#[]⟩, .slice none 0 0, .bool false]) ∧ w' = w := by
  go_enter Try.func39, Try.ntmps39
  go_wp2_with fail
  go_ret3
  exact ⟨rfl, rfl⟩

def AnsPost (s : ByteArray) (l : List S24) (w : World) (e : Ending) (w' : World) : Prop := ∃ v, e = .returned (.tuple #[.string s, v, .bool true]) ∧ k24.R 24 w' w.heap.size (fun _ => True) v l ∧ Below w.heap.size w w'
theorem answer_ok (s : ByteArray) (v : Value) (l : List S24) (w : World) (h : Calls Try.prog 61 #[v] w (ValsPost l w)) : Calls Try.prog 39 #[.string s, v, .nilIface] w (AnsPost s l w) := by
  have H := Aside0.mk h
  clear h
  go_enter Try.func39, Try.ntmps39
  go_wp2_with fail
  refine H.out.mono ?_
  rintro e w2 ⟨u, rfl, hr, hb⟩
  have HR := Aside0.mk hr
  have HB := Aside0.mk hb
  clear hr hb
  go_wp2_with fail
  go_ret3
  exact ⟨_, rfl, HR.out, HB.out⟩

def SamePost (w : World) (e : Ending) (w' : World) : Prop := e = .returned (.bool true) ∧ Below w.heap.size w w'

theorem sameValue_of (x : S24) (A B : Option Addr) (c d : Nat) (w : World) (h : ∀ w1 : World, Below w.heap.size w w1 → Calls Try.prog 41 #[.slice A x.f3.length c, .slice B x.f3.length d] w1 (SamePost w1)) :
    Calls Try.prog 63 #[aggOf x (.slice A x.f3.length c), aggOf x (.slice B x.f3.length d)] w (SamePost w) := by
  have H := Aside0.mk h
  clear h
  have hs : (x.f2.toList == x.f2.toList) = true := by simp
  unfold aggOf
  go_enter Try.func63, Try.ntmps63
  go_wp2_with fail
  refine (H.out _ (((Below.refl _ _).alloc (Nat.le_refl _) _).alloc (by simp) _)).mono ?_
  rintro e w2 ⟨rfl, hb⟩
  have HB := Aside0.mk (below_step (((Below.refl w.heap.size w).alloc (Nat.le_refl _) _).alloc (by simp) _) hb)
  clear hb
  go_wp2_with fail
  go_ret
  exact ⟨rfl, HB.out⟩

set_option maxRecDepth 100000 in
set_option maxHeartbeats 4000000 in
theorem sameValues_of (l : List S24) (hs : l.length ≤ 1000) (A B : Option Addr) (c d : Nat) (w : World) (hA : Kd.C k24 w A l.length l) (hB : Kd.C k24 w B l.length l)
    (h : ∀ x, x ∈ l → ∀ (A B : Option Addr) (c d : Nat) (w : World), Kd.C k24 w A x.f3.length x.f3 → Kd.C k24 w B x.f3.length x.f3 → Calls Try.prog 63 #[aggOf x (.slice A x.f3.length c), aggOf x (.slice B x.f3.length d)] w (SamePost w)) :
    Calls Try.prog 41 #[.slice A l.length c, .slice B l.length d] w (SamePost w) := by
  have HA := Aside0.mk hA
  have HB0 := Aside0.mk hB
  have H := Aside0.mk h
  have HS : (l.length : Int) ≤ 1000 := by omega
  clear hA hB h hs
  go_enter Try.func41, Try.ntmps41
  go_wp2_with fail
  go_loopw [5] (fun i wr => ∃ x : Int, i = .int .i64 x ∧ (0 ≤ x ∧ x ≤ l.length) ∧ Aside0 (Below w.heap.size w wr)) (fun i _ => l.length - (intOf i).toNat)
  case atStart => exact ⟨0, rfl, ⟨by omega, by omega⟩, ⟨Below.refl _ _⟩⟩
  case round =>
    obtain ⟨x, rfl, ⟨hx0, hxn⟩, HB⟩ := hrel
    by_cases hlt : x < l.length
    · obtain ⟨ad, A3, c3, e, x0, x1, x2, x3, hl, hC⟩ := at_T24 HA.out x hx0 hlt
      cases e
      obtain ⟨ad2, B3, d3, e2, y0, y1, y2, y3, hl2, hC2⟩ := at_T24 HB0.out x hx0 hlt
      cases e2
      replace x0 := (HB.out.cell (World.block_lt_of_cell? w _ x0)).trans x0
      replace x1 := (HB.out.cell (World.block_lt_of_cell? w _ x1)).trans x1
      replace x2 := (HB.out.cell (World.block_lt_of_cell? w _ x2)).trans x2
      replace x3 := (HB.out.cell (World.block_lt_of_cell? w _ x3)).trans x3
      replace y0 := (HB.out.cell (World.block_lt_of_cell? w _ y0)).trans y0
      replace y1 := (HB.out.cell (World.block_lt_of_cell? w _ y1)).trans y1
      replace y2 := (HB.out.cell (World.block_lt_of_cell? w _ y2)).trans y2
      replace y3 := (HB.out.cell (World.block_lt_of_cell? w _ y3)).trans y3
      have HC := Aside0.mk (Kd.C_below hC HB.out)
      have HC2 := Aside0.mk (Kd.C_below hC2 HB.out)
      clear hl hC hl2 hC2
      go_wp2_with fail
      go_still_tail 8, (by kernel_rfl)
      clear x0 x1 x2 x3 y0 y1 y2 y3
      go_wp2_with fail
      refine (H.out (rd_T24 l x) (rd_mem l x hx0 hlt) A3 B3 c3 d3 _ (Kd.C_drew HC.out) (Kd.C_drew HC2.out)).mono ?_
      rintro e w2 ⟨rfl, hb⟩
      have HB2 := Aside0.mk (below_step (below_drew HB.out) hb)
      clear hb
      go_wp2_with fail
      go_roundw
      case rel => exact ⟨x + 1, rfl, ⟨by omega, by omega⟩, HB2⟩
      case measure => simp [intOf]; omega
    · obtain rfl : x = l.length := by omega
      go_wp2_with fail
      go_ret
      exact ⟨by simp, HB.out⟩

theorem sameValue_flat (x : S24) (hx : x.f3 = []) (A B : Option Addr) (c d : Nat) (w : World) : Calls Try.prog 63 #[aggOf x (.slice A x.f3.length c), aggOf x (.slice B x.f3.length d)] w (SamePost w) := by
  refine sameValue_of x A B c d w fun w1 _ => ?_
  refine sameValues_of x.f3 (by rw [hx]; decide) A B c d w1 ?_ ?_ (fun y hy => by rw [hx] at hy; cases hy)
  · rw [hx]; exact ⟨rfl, by decide, fun h => by cases h⟩
  · rw [hx]; exact ⟨rfl, by decide, fun h => by cases h⟩
theorem sameValues_flat (l : List S24) (hl : ∀ x, x ∈ l → x.f3 = []) (hs : l.length ≤ 1000) (A B : Option Addr) (c d : Nat) (w : World) (hA : Kd.C k24 w A l.length l) (hB : Kd.C k24 w B l.length l) :
    Calls Try.prog 41 #[.slice A l.length c, .slice B l.length d] w (SamePost w) :=
  sameValues_of l hs A B c d w hA hB fun x hx A B c d w _ _ => sameValue_flat x (hl x hx) A B c d w
theorem VR0.flat {x : S24} (h : VR0 x) : x.f3 = [] := by cases h <;> rfl
theorem sameValues_any (l : List S24) (hl : ∀ x, x ∈ l → VR x) (hs : l.length ≤ 1000) (A B : Option Addr) (c d : Nat) (w : World) (hA : Kd.C k24 w A l.length l) (hB : Kd.C k24 w B l.length l) :
    Calls Try.prog 41 #[.slice A l.length c, .slice B l.length d] w (SamePost w) :=
  sameValues_of l hs A B c d w hA hB fun x hx A B c d w hA hB => by
    cases hl x hx with
    | one h => exact sameValue_flat _ h.flat A B c d w
    | list l hl h => exact sameValue_of _ A B c d w fun w1 hb => sameValues_flat l (fun y hy => (h y hy).flat) (by omega) A B c d w1 (Kd.C_below hA hb) (Kd.C_below hB hb)

/-- told7: the reference doesn't say (2); it refuses (0); it says a text and arguments (1). -/
theorem told7_no (t : ByteArray) (A : Option Addr) (n c : Nat) (s : ByteArray) (v : Value) (w : World) : Calls Try.prog 18 #[.agg #[.string t, .slice A n c, .int .i64 0], .string s, v, .bool false] w (SamePost w) := by
  go_enter Try.func18, Try.ntmps18
  go_wp2_with fail
  go_ret
  exact ⟨rfl, (Below.refl _ _).alloc (Nat.le_refl _) _⟩
theorem told7_yes (t : ByteArray) (A B : Option Addr) (n m c d : Nat) (w : World) (h : ∀ w1 : World, Below w.heap.size w w1 → Calls Try.prog 41 #[.slice B m d, .slice A n c] w1 (SamePost w1)) :
    Calls Try.prog 18 #[.agg #[.string t, .slice A n c, .int .i64 1], .string t, .slice B m d, .bool true] w (SamePost w) := by
  have H := Aside0.mk h
  clear h
  have hs : (t.toList == t.toList) = true := by simp
  go_enter Try.func18, Try.ntmps18
  go_wp2_with fail
  refine (H.out _ ((Below.refl _ _).alloc (Nat.le_refl _) _)).mono ?_
  rintro e w2 ⟨rfl, hb⟩
  have HB := Aside0.mk (below_step ((Below.refl w.heap.size w).alloc (Nat.le_refl _) _) hb)
  clear hb
  go_wp2_with fail
  go_ret
  exact ⟨rfl, HB.out⟩

end Go.Proofs.Ytagandfneflcbaa
