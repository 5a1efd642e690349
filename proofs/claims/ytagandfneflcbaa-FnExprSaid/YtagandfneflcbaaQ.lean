/- What came in, read as data: a value with its lists. And the four rows of one column, proved. -/
import Derived.Test.YtagandfneflcbaaRows
import Derived.Test.YtagandfneflcbaaPFnLtx0
import Derived.ProofKit
import Derived.Lib.SmallJoins
import Derived.Deep.Slices
namespace Go.Proofs.Ytagandfneflcbaa
open Go.ChangeShapes Go.WideShapes Go.ChangeAt Go.RowKit Go.Joins
open Go.ChangeMaps (open_string shut_string)
open Go.Proofs.YtagandfneflcbaaW.PrintWords
open Go.Proofs.Ytagandfneflcbaa.PFnLt

theorem gather {α : Type} {n : Nat} {Q : Nat → α → Prop} (h : ∀ i, i < n → ∃ p, Q i p) : ∃ xs : List α, xs.length = n ∧ ∀ i p, xs[i]? = some p → Q i p := by
  induction n with
  | zero => exact ⟨[], rfl, fun i p hi => by simp at hi⟩
  | succ n ih =>
    obtain ⟨xs, hl, hx⟩ := ih (fun i hi => h i (by omega))
    obtain ⟨p, hp⟩ := h n (by omega)
    refine ⟨xs ++ [p], by simp [hl], fun i q hq => ?_⟩
    rcases Nat.lt_trichotomy i n with hi | hi | hi
    · rw [List.getElem?_append_left (by omega)] at hq
      exact hx i q hq
    · subst hi
      rw [List.getElem?_append_right (by omega), hl, Nat.sub_self] at hq
      simp at hq
      subst hq
      exact hp
    · rw [List.getElem?_eq_none (by simp [hl]; omega)] at hq
      cases hq

variable {H : Type} {enc : TypeId × Value → H} {w : World} {base : Nat} {spare : Nat → Bool} {held : Bool}
theorem cells4 {cs : List Value} (h : cs.length = 4) : ∃ a b c d, cs = [a, b, c, d] := by
  match cs, h with
  | [a, b, c, d], _ => exact ⟨a, b, c, d, rfl⟩
theorem one3 : Try.prog.cellsOf 3 = 1 := by kernel_rfl
theorem one2 : Try.prog.cellsOf 2 = 1 := by kernel_rfl
theorem one9 : Try.prog.cellsOf 9 = 1 := by kernel_rfl
theorem one22 : Try.prog.cellsOf 22 = 1 := by kernel_rfl
theorem four24 : Try.prog.cellsOf 24 = 4 := by kernel_rfl

set_option maxRecDepth 100000 in
/-- A value's four cells, where its list's reading is known. -/
theorem trod_val {fuel : Nat} (ih : ∀ n v x, n < fuel → DataW.trod enc Try.prog w base spare held n 22 [v] = some x → ∃ A c xs, v = .slice A xs.length c ∧ xs.length ≤ c ∧ k24.C w A xs.length xs)
    {cs : List Value} {x : DataW H × List MemPlace} (h : DataW.trod enc Try.prog w base spare held fuel 24 cs = some x) :
    ∃ (p : S24) (A : Option Addr) (c : Nat), cs = [.int .i64 p.f0, .int .i64 p.f1, .string p.f2, .slice A p.f3.length c] ∧ p.f3.length ≤ c ∧ k24.C w A p.f3.length p.f3 := by
  obtain ⟨xs, n, rfl, _, hl, hlen0, hg⟩ := DataW.trod_struct Try.underlying24 h
  rw [four24] at hl
  obtain ⟨a, b, c, d, rfl⟩ := cells4 hl
  have hlen : xs.length = 4 := hlen0
  have e0 : xs[0]? = some xs[0] := List.getElem?_eq_getElem (by omega)
  have e1 : xs[1]? = some xs[1] := List.getElem?_eq_getElem (by omega)
  have e2 : xs[2]? = some xs[2] := List.getElem?_eq_getElem (by omega)
  have e3 : xs[3]? = some xs[3] := List.getElem?_eq_getElem (by omega)
  have g0 : DataW.trod enc Try.prog w base spare held n 3 (([a, b, c, d].drop 0).take (Try.prog.cellsOf 3)) = some xs[0] := (hg 0 _ rfl).trans e0
  have g1 : DataW.trod enc Try.prog w base spare held n 2 (([a, b, c, d].drop 1).take (Try.prog.cellsOf 2)) = some xs[1] := (hg 1 _ rfl).trans e1
  have g2 : DataW.trod enc Try.prog w base spare held n 9 (([a, b, c, d].drop 2).take (Try.prog.cellsOf 9)) = some xs[2] := (hg 2 _ rfl).trans e2
  have g3 : DataW.trod enc Try.prog w base spare held n 22 (([a, b, c, d].drop 3).take (Try.prog.cellsOf 22)) = some xs[3] := (hg 3 _ rfl).trans e3
  simp only [one3, one2, one9, one22, List.drop_zero, List.drop_succ_cons, List.take_succ_cons, List.take_zero] at g0 g1 g2 g3
  obtain ⟨i0, h0, _⟩ := DataW.trod_int Try.underlying3 g0
  obtain ⟨i1, h1, _⟩ := DataW.trod_int Try.underlying2 g1
  obtain ⟨s2, h2, _⟩ := DataW.trod_string Try.underlying9 g2
  obtain ⟨A, k, l, h3, hk, hC⟩ := ih n d _ (by omega) g3
  simp only [List.cons.injEq, and_true] at h0 h1 h2
  subst h0; subst h1; subst h2; subst h3
  exact ⟨⟨i0, i1, s2, l⟩, A, k, rfl, hk, hC⟩

theorem trod_vals : ∀ (fuel n : Nat) (v : Value) (x : DataW H × List MemPlace), n < fuel → DataW.trod enc Try.prog w base spare held n 22 [v] = some x → ∃ A c xs, v = .slice A xs.length c ∧ xs.length ≤ c ∧ k24.C w A xs.length xs
  | 0, _, _, _, h, _ => by omega
  | fuel + 1, n, v, x, hn, h => by
    rcases DataW.trod_slice Try.underlying22 h with ⟨hv, _⟩ | ⟨a, len, cap, elems, rest, m, rfl, hv, _, _, hlc, hcap, hel, hget, _, _⟩
    · obtain rfl : v = .slice none 0 0 := by simpa using hv
      exact ⟨none, 0, [], rfl, Nat.le_refl _, rfl, by decide, fun h => by cases h⟩
    · obtain rfl : v = .slice (some a) len cap := by simpa using hv
      rw [four24] at hget
      have hall : ∀ i, i < len → ∃ p : S24, ∃ c, c.length = 4 ∧ k24.K w p c ∧ ∀ j u, c[j]? = some u → w.cell? (a.add (i * 4 + j)) = some u := by
        intro i hi
        have h1 := hget i hi
        rw [List.getElem?_eq_getElem (by omega)] at h1
        obtain ⟨cs, hcs, ht⟩ := Option.bind_eq_some_iff.1 h1
        obtain ⟨_, hcl, hat⟩ := World.cells?_some hcs
        obtain ⟨p, A, c, rfl, hk, hC⟩ := trod_val (fuel := m) (fun n v x hlt hh => trod_vals fuel n v x (by omega) hh) ht
        refine ⟨p, _, rfl, k24_mk w p hk hC, fun j u hu => ?_⟩
        have hj : j < 4 := by have := (List.getElem?_eq_some_iff.1 hu).1; simpa using this
        rw [← hu, ← hat j hj, Go.Deep.add_add]
      obtain ⟨xs, hxl, hxs⟩ := gather hall
      subst hxl
      refine ⟨some a, cap, xs, rfl, hlc, rfl, by unfold maxLen at hcap; omega, fun _ => ⟨a, rfl, fun j p hj => ?_⟩⟩
      obtain ⟨c, h1, h2, h3⟩ := hxs j p hj
      exact ⟨c, h1, h2, h3⟩

set_option maxRecDepth 100000 in
theorem Trod_vals {v : Value} {d : DataW H} {p : List MemPlace} {r : Reach} {b0 : Nat} (hv : Value.okWide Try.prog w r b0 22 v) (h : DataW.Trod enc Try.prog w base spare held 22 v d p) : ∃ A c xs, v = .slice A xs.length c ∧ xs.length ≤ c ∧ k24.C w A xs.length xs := by
  obtain ⟨fuel, hf⟩ := h
  obtain ⟨A, n, c, rfl, _⟩ := okWide_slice Try.underlying22 hv
  exact trod_vals (fuel + 1) fuel _ _ (by omega) (by simpa [Value.cells] using hf)
set_option maxRecDepth 100000 in
theorem Trod_val {v : Value} {d : DataW H} {p : List MemPlace} {r : Reach} {b0 : Nat} (hv : Value.okWide Try.prog w r b0 24 v) (h : DataW.Trod enc Try.prog w base spare held 24 v d p) :
    ∃ (x : S24) (A : Option Addr) (c : Nat), v = .agg #[.int .i64 x.f0, .int .i64 x.f1, .string x.f2, .slice A x.f3.length c] ∧ x.f3.length ≤ c ∧ k24.C w A x.f3.length x.f3 := by
  obtain ⟨cs, rfl, hsz⟩ := okWide_struct Try.underlying24 hv
  obtain ⟨fuel, hf⟩ := h
  obtain ⟨x, A, c, hcs, hk, hC⟩ := trod_val (fuel := fuel) (fun n v x hlt hh => trod_vals fuel n v x hlt hh) (by simpa [Value.cells] using hf)
  refine ⟨x, A, c, ?_, hk, hC⟩
  obtain ⟨l⟩ := cs
  simp at hcs
  rw [hcs]

end Go.Proofs.Ytagandfneflcbaa
