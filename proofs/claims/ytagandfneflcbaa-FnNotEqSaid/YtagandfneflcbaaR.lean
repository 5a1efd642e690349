/- What came in, read as data: a list of names. -/
import Derived.Test.YtagandfneflcbaaQ
namespace Go.Proofs.Ytagandfneflcbaa
open Go.ChangeShapes Go.WideShapes Go.ChangeAt Go.RowKit Go.Joins
open Go.Proofs.YtagandfneflcbaaW.PrintWords
open Go.Proofs.Ytagandfneflcbaa.PFnLt

variable {H : Type} {enc : TypeId × Value → H} {w : World} {base : Nat} {spare : Nat → Bool} {held : Bool}
theorem trod_names {fuel : Nat} {v : Value} {x : DataW H × List MemPlace} (h : DataW.trod enc Try.prog w base spare held fuel 27 [v] = some x) : ∃ A c, ∃ xs : List ByteArray, v = .slice A xs.length c ∧ xs.length ≤ c ∧ Kd.string.C w A xs.length xs := by
  rcases DataW.trod_slice Try.underlying27 h with ⟨hv, _⟩ | ⟨a, len, cap, elems, rest, m, rfl, hv, _, _, hlc, hcap, hel, hget, _, _⟩
  · obtain rfl : v = .slice none 0 0 := by simpa using hv
    exact ⟨none, 0, [], rfl, Nat.le_refl _, rfl, by decide, fun h => by cases h⟩
  · obtain rfl : v = .slice (some a) len cap := by simpa using hv
    rw [one9] at hget
    have hall : ∀ i, i < len → ∃ p : ByteArray, w.cell? (a.add (i * 1)) = some (.string p) := by
      intro i hi
      have h1 := hget i hi
      rw [List.getElem?_eq_getElem (by omega)] at h1
      obtain ⟨cs, hcs, ht⟩ := Option.bind_eq_some_iff.1 h1
      obtain ⟨_, hcl, hat⟩ := World.cells?_some hcs
      obtain ⟨s, rfl, _⟩ := DataW.trod_string Try.underlying9 ht
      refine ⟨s, ?_⟩
      have := hat 0 (by omega)
      rw [Go.Deep.add_add, Nat.add_zero] at this
      rw [this]
      rfl
    obtain ⟨xs, hxl, hxs⟩ := gather hall
    subst hxl
    refine ⟨some a, cap, xs, rfl, hlc, rfl, by unfold maxLen at hcap; omega, fun _ => ⟨a, rfl, fun j p hj => ⟨[.string p], rfl, rfl, fun i u hu => ?_⟩⟩⟩
    have hi0 : i = 0 := by have := (List.getElem?_eq_some_iff.1 hu).1; simpa using this
    subst hi0
    have hu2 : u = .string p := by simpa using hu.symm
    subst hu2
    rw [Nat.add_zero]
    exact hxs j p hj
set_option maxRecDepth 100000 in
theorem Trod_names {v : Value} {d : DataW H} {p : List MemPlace} {r : Reach} {b0 : Nat} (hv : Value.okWide Try.prog w r b0 27 v) (h : DataW.Trod enc Try.prog w base spare held 27 v d p) : ∃ A c, ∃ xs : List ByteArray, v = .slice A xs.length c ∧ xs.length ≤ c ∧ Kd.string.C w A xs.length xs := by
  obtain ⟨fuel, hf⟩ := h
  obtain ⟨A, n, c, rfl⟩ := okWide_slice Try.underlying27 hv
  exact trod_names (fuel := fuel) (by simpa [Value.cells] using hf)

end Go.Proofs.Ytagandfneflcbaa
