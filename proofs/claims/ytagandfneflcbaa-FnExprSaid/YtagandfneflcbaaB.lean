/- Plain: what spec.ValueRight tells of a value. Conditions: none. -/
import Derived.Test.YtagandfneflcbaaPFnLtx1
namespace Go.Proofs.Ytagandfneflcbaa
open Go.RowKit Go.Proofs.YtagandfneflcbaaW.PrintWords Go.Proofs.YtagandfneflcbaaW.PrintLast Go.Proofs.YtagandfneflcbaaW.PrintMore
open Go.Proofs.Ytagandfneflcbaa.PFnLt

theorem toList_nil_eq {s : ByteArray} (h : s.toList = ([] : List UInt8)) : s = (⟨#[]⟩ : ByteArray) := by
  have h2 : s.data.toList = [] := by rw [← ByteArray.toList_eq]; exact h
  cases s with
  | mk d => cases d with
    | mk l => simp at h2; subst h2; rfl

/-- A value that is no list, as its kind says. -/
inductive VR0 : S24 → Prop
  | nil : VR0 ⟨0, 0, ⟨#[]⟩, []⟩
  | int (n : Int) : VR0 ⟨1, n, ⟨#[]⟩, []⟩
  | str (s : ByteArray) (h : s.size ≤ 200) : VR0 ⟨2, 0, s, []⟩
  | yes : VR0 ⟨3, 0, ⟨#[]⟩, []⟩
  | no : VR0 ⟨4, 0, ⟨#[]⟩, []⟩

inductive VR : S24 → Prop
  | one {x : S24} (h : VR0 x) : VR x
  | list (l : List S24) (hl : l.length ≤ 12) (h : ∀ y, y ∈ l → VR0 y) : VR ⟨5, 0, ⟨#[]⟩, l⟩

theorem len_zero {l : List S24} (h : ((l.length : Int) == 0) = true) : l = [] := by
  have h1 : (l.length : Int) = 0 := by simpa using h
  exact List.length_eq_zero_iff.mp (by omega)

theorem vr_not5 (k : Nat) (x : S24) (b : Bool) (h5 : x.f0 ≠ 5) : ∃ r, spec_ValueRight.f (k + 1 + 1) x.f0 x.f1 x.f2 x.f3 b = some r ∧ (r = true → VR0 x) := by
  obtain ⟨a, n, s, l⟩ := x
  replace h5 : ¬ a = 5 := h5
  have plain : ∀ b : Int, (b = 0 ∨ b = 3 ∨ b = 4) → ∃ r, (if n = 0 then (if s.toList = ([] : List UInt8) then (some ((l.length : Int) == 0)) else (some false)) else (some false)) = some r ∧ (r = true → VR0 ⟨b, n, s, l⟩) := by
    intro b hb
    by_cases hn : n = 0
    · by_cases hs : s.toList = ([] : List UInt8)
      · refine ⟨_, by rw [if_pos hn, if_pos hs], fun h => ?_⟩
        obtain rfl := len_zero h
        obtain rfl := toList_nil_eq hs
        subst hn
        rcases hb with rfl | rfl | rfl
        · exact .nil
        · exact .yes
        · exact .no
      · exact ⟨false, by rw [if_pos hn, if_neg hs], fun h => by cases h⟩
    · exact ⟨false, by rw [if_neg hn], fun h => by cases h⟩
  by_cases h0 : a = 0
  · obtain ⟨r, e, hr⟩ := plain a (.inl h0)
    refine ⟨r, ?_, hr⟩
    simp only [spec_ValueRight.f, spec_ValueRight.j0]
    rw [if_pos h0, if_pos (by simpa using h0)]
    exact e
  by_cases h3 : a = 3
  · obtain ⟨r, e, hr⟩ := plain a (.inr (.inl h3))
    refine ⟨r, ?_, hr⟩
    simp only [spec_ValueRight.f, spec_ValueRight.j0]
    rw [if_neg h0, if_pos h3, if_pos (by simpa using h3)]
    exact e
  by_cases h4 : a = 4
  · obtain ⟨r, e, hr⟩ := plain a (.inr (.inr h4))
    refine ⟨r, ?_, hr⟩
    simp only [spec_ValueRight.f, spec_ValueRight.j0]
    rw [if_neg h0, if_neg h3, if_pos (by simpa using h4)]
    exact e
  have h4' : ¬ ((a == 4) = true) := by simpa using h4
  by_cases h1 : a = 1
  · by_cases hs : s.toList = ([] : List UInt8)
    · refine ⟨((l.length : Int) == 0), by simp only [spec_ValueRight.f, spec_ValueRight.j0]; rw [if_neg h0, if_neg h3, if_neg h4', if_pos h1, if_pos hs], fun h => ?_⟩
      obtain rfl := len_zero h
      obtain rfl := toList_nil_eq hs
      subst h1
      exact .int n
    · exact ⟨false, by simp only [spec_ValueRight.f, spec_ValueRight.j0]; rw [if_neg h0, if_neg h3, if_neg h4', if_pos h1, if_neg hs], fun h => by cases h⟩
  by_cases h2 : a = 2
  · by_cases hn : n = 0
    · by_cases hl : (l.length : Int) = 0
      · refine ⟨decide ((s.size : Int) ≤ 200), by simp only [spec_ValueRight.f, spec_ValueRight.j0]; rw [if_neg h0, if_neg h3, if_neg h4', if_neg h1, if_pos h2, if_pos hn, if_pos hl], fun h => ?_⟩
        obtain rfl : l = [] := List.length_eq_zero_iff.mp (by omega)
        subst hn
        subst h2
        exact .str s (by have := of_decide_eq_true h; omega)
      · exact ⟨false, by simp only [spec_ValueRight.f, spec_ValueRight.j0]; rw [if_neg h0, if_neg h3, if_neg h4', if_neg h1, if_pos h2, if_pos hn, if_neg hl], fun h => by cases h⟩
    · exact ⟨false, by simp only [spec_ValueRight.f, spec_ValueRight.j0]; rw [if_neg h0, if_neg h3, if_neg h4', if_neg h1, if_pos h2, if_neg hn], fun h => by cases h⟩
  exact ⟨false, by simp only [spec_ValueRight.f, spec_ValueRight.j0]; rw [if_neg h0, if_neg h3, if_neg h4', if_neg h1, if_neg h2, if_neg h5], fun h => by cases h⟩

theorem vr_flat (k : Nat) (x : S24) : ∃ r, spec_ValueRight.f (k + 1 + 1 + 1) x.f0 x.f1 x.f2 x.f3 false = some r ∧ (r = true → VR0 x) := by
  by_cases h : x.f0 = 5
  · obtain ⟨a, n, s, l⟩ := x
    replace h : a = 5 := h
    have h0 : ¬ a = 0 := by omega
    have h3 : ¬ a = 3 := by omega
    have h4 : ¬ ((a == 4) = true) := by simp; omega
    have h1 : ¬ a = 1 := by omega
    have h2 : ¬ a = 2 := by omega
    exact ⟨false, by simp only [spec_ValueRight.f, spec_ValueRight.j0, spec_ValueRight.j1]; rw [if_neg h0, if_neg h3, if_neg h4, if_neg h1, if_neg h2, if_pos h, if_neg (fun h => by cases h), if_pos trivial], fun h => by cases h⟩
  · exact vr_not5 (k + 1) x false h

theorem l0_stop (k : Nat) (l : List S24) (x0 x1 : Int) (x2 : ByteArray) (i : Int) (h : ¬ i < (l.length : Int)) : spec_ValueRight.l0 (k + 1) i x0 x1 x2 l = some true := by
  rw [spec_ValueRight.l0, if_neg h]
theorem l0_go (k : Nat) (l : List S24) (x0 x1 : Int) (x2 : ByteArray) (i : Int) (h : i < (l.length : Int)) (h0 : 0 ≤ i) (b : Bool) (e : spec_ValueRight.f k ((rd_T24 l i).f0) ((rd_T24 l i).f1) ((rd_T24 l i).f2) ((rd_T24 l i).f3) false = some b) :
    spec_ValueRight.l0 (k + 1) i x0 x1 x2 l = if b = true then (spec_ValueRight.l0 k (wrap64 (i + 1)) x0 x1 x2 l) else (some false) := by
  rw [spec_ValueRight.l0, if_pos h, if_pos h0, e, Option.bind_some]

theorem wrap_up {i : Nat} (h : i ≤ 1000000) : wrap64 ((i : Int) + 1) = ((i + 1 : Nat) : Int) := by unfold wrap64; omega

theorem vr_row (l : List S24) (hl : l.length ≤ 12) (x0 x1 : Int) (x2 : ByteArray) (d : Nat) : ∀ (i : Nat), l.length - i = d → i ≤ l.length → ∃ r, spec_ValueRight.l0 (d + 1 + 1 + 1 + 1) i x0 x1 x2 l = some r ∧ (r = true → ∀ j, i ≤ j → j < l.length → VR0 (rd_T24 l j)) := by
  induction d with
  | zero =>
    intro i hd hi
    exact ⟨true, l0_stop _ _ _ _ _ _ (by omega), fun _ j hj hj' => by omega⟩
  | succ d ih =>
    intro i hd hi
    obtain ⟨r, e, hr⟩ := vr_flat (d + 1) (rd_T24 l i)
    cases r with
    | false => exact ⟨false, (l0_go _ _ _ _ _ _ (by omega) (by omega) _ e).trans (if_neg (fun h => by cases h)), fun h => by cases h⟩
    | true =>
      obtain ⟨r, e2, hr2⟩ := ih (i + 1) (by omega) (by omega)
      refine ⟨r, ?_, fun h j hj hj' => ?_⟩
      · rw [l0_go _ _ _ _ _ _ (by omega) (by omega) _ e, if_pos rfl, wrap_up (by omega)]
        exact e2
      · rcases Nat.lt_or_ge i j with hlt | hge
        · exact hr2 h j hlt hj'
        · obtain rfl : i = j := by omega
          exact hr rfl

theorem vr_tells (x : S24) : ∃ k r, spec_ValueRight.f k x.f0 x.f1 x.f2 x.f3 true = some r ∧ (r = true → VR x) := by
  by_cases h : x.f0 = 5
  · obtain ⟨a, n, s, l⟩ := x
    replace h : a = 5 := h
    have h0 : ¬ a = 0 := by omega
    have h3 : ¬ a = 3 := by omega
    have h4 : ¬ ((a == 4) = true) := by simp; omega
    have h1 : ¬ a = 1 := by omega
    have h2 : ¬ a = 2 := by omega
    by_cases hn : n = 0
    · by_cases hs : s.toList = ([] : List UInt8)
      · by_cases hl : (l.length : Int) > 12
        · exact ⟨3, false, by simp only [spec_ValueRight.f, spec_ValueRight.j0, spec_ValueRight.j1]; rw [if_neg h0, if_neg h3, if_neg h4, if_neg h1, if_neg h2, if_pos h, if_pos trivial, if_pos hn, if_pos hs, if_pos (decide_eq_true hl)], fun h => by cases h⟩
        · obtain ⟨r, e, hr⟩ := vr_row l (by omega) a n s l.length 0 (by omega) (by omega)
          refine ⟨l.length + 1 + 1 + 1 + 1 + 1 + 1 + 1, r, ?_, fun h' => ?_⟩
          · simp only [spec_ValueRight.f, spec_ValueRight.j0, spec_ValueRight.j1]
            rw [if_neg h0, if_neg h3, if_neg h4, if_neg h1, if_neg h2, if_pos h, if_pos trivial, if_pos hn, if_pos hs, if_neg (by simpa using hl)]
            exact e
          · obtain rfl := toList_nil_eq hs
            subst hn
            subst h
            refine .list l (by omega) fun y hy => ?_
            obtain ⟨j, hj, rfl⟩ := List.getElem_of_mem hy
            have := hr h' j (by omega) hj
            simpa [rd_T24, List.getD_eq_getElem?_getD, List.getElem?_eq_getElem hj] using this
      · exact ⟨3, false, by simp only [spec_ValueRight.f, spec_ValueRight.j0, spec_ValueRight.j1]; rw [if_neg h0, if_neg h3, if_neg h4, if_neg h1, if_neg h2, if_pos h, if_pos trivial, if_pos hn, if_neg hs, if_pos trivial], fun h => by cases h⟩
    · exact ⟨3, false, by simp only [spec_ValueRight.f, spec_ValueRight.j0, spec_ValueRight.j1]; rw [if_neg h0, if_neg h3, if_neg h4, if_neg h1, if_neg h2, if_pos h, if_pos trivial, if_neg hn, if_pos trivial], fun h => by cases h⟩
  · obtain ⟨r, e, hr⟩ := vr_not5 0 x true h
    exact ⟨_, r, e, fun h => .one (hr h)⟩

/-- The contract, as the guard uses it. -/
def RightPost (x : S24) (w : World) (e : Ending) (w' : World) : Prop := ∃ r, e = .returned (.bool r) ∧ (r = true → VR x) ∧ Below w.heap.size w w'
theorem valueRight_any (x : S24) (A : Option Addr) (c : Nat) (w : World) (hl : x.f3.length ≤ c) (hC : Kd.C k24 w A x.f3.length x.f3) :
    Calls Try.prog 67 #[.agg #[.int .i64 x.f0, .int .i64 x.f1, .string x.f2, .slice A x.f3.length c], .bool true] w (RightPost x w) := by
  obtain ⟨k, r, e, hr⟩ := vr_tells x
  exact (spec_ValueRight.calls k _ _ _ A c _ true r w hC hl e).mono fun e w' ⟨he, hb⟩ => ⟨r, he, hr, hb⟩

end Go.Proofs.Ytagandfneflcbaa
