/- squirrel's Placeholders: question marks with commas between. Conditions: at most a thousand. -/
import Derived.Test.YtagandfneflcbaaE1
import Derived.Test.YtagandfneflcbaaShelf
namespace Go.Proofs.Ytagandfneflcbaa
open Go.RowKit Go.Proofs.YtagandfneflcbaaW.PrintWords Go.Proofs.YtagandfneflcbaaW.PrintLast Go.Proofs.YtagandfneflcbaaW.PrintMore
open Go.Proofs.Ytagandfneflcbaa.PFnLt

/-- Commas and question marks, n times. -/
def cq : Nat → List UInt8
  | 0 => []
  | n + 1 => cq n ++ [44, 63]
theorem cq_len : ∀ n, (cq n).length = 2 * n
  | 0 => rfl
  | n + 1 => by simp [cq, cq_len n]; omega
theorem marks_cq : ∀ n, (marksB n).data.toList = (cq n).drop 1
  | 0 => rfl
  | n + 1 => by
    have ih := marks_cq n
    simp only [marksB, cq]
    by_cases hn : n = 0
    · subst hn; rfl
    · rw [if_neg hn, ByteArray.data_append, ByteArray.data_append]
      simp only [Array.toList_append]
      rw [ih, List.drop_append_of_le_length (by rw [cq_len]; omega)]
      simp
theorem repeat_swap (l : List UInt8) : ∀ n, Lib.repeatL l n ++ l = l ++ Lib.repeatL l n
  | 0 => by simp [Lib.repeatL]
  | n + 1 => by
    simp only [Lib.repeatL]
    rw [List.append_assoc, repeat_swap l n]
theorem repeat_cq : ∀ n, Lib.repeatL [44, 63] n = cq n
  | 0 => rfl
  | n + 1 => by
    simp only [cq]
    rw [← repeat_cq n, repeat_swap]
    rfl
theorem marks_extract (n : Nat) (t : ByteArray) (ht : t = ⟨(cq n).toArray⟩) : t.extract 1 (2 * n) = marksB n := by
  apply bytes_inj
  rw [marks_cq, ht]
  simp only [ByteArray.data_extract, Array.toList_extract, List.extract_eq_take_drop]
  rw [List.take_of_length_le (by simp [cq_len])]

set_option maxRecDepth 100000 in
theorem placeholders_any (n : Nat) (h1 : 1 ≤ n) (hn : n ≤ 1000) (w : World) : Calls Try.prog 75 #[.int .i64 n] w fun e w' => e = .returned (.string (marksB n)) ∧ Below w.heap.size w w' := by
  have hlt : ¬ ((n : Int) < 1) := by omega
  go_enter Try.func75, Try.ntmps75
  go_wp2_with fail
  refine (Try.strings_Repeat ⟨#[44, 63]⟩ n _ (by omega) (by show 2 * n ≤ _; omega)).mono ?_
  rintro e w2 ⟨rfl, hb⟩
  rw [show (⟨#[44, 63]⟩ : ByteArray).data.toList = [44, 63] from rfl, repeat_cq]
  have HB := Aside0.mk hb
  clear hb
  obtain ⟨t, ht⟩ : ∃ t : ByteArray, t = ⟨(cq n).toArray⟩ := ⟨_, rfl⟩
  rw [← ht]
  have hsz : t.size = 2 * n := by rw [ht]; simp [ByteArray.size, cq_len]
  have HT := Aside0.mk ht
  clear ht
  go_wp2_with fail
  go_ret
  exact ⟨by simp [marks_extract n t HT.out], HB.out⟩

end Go.Proofs.Ytagandfneflcbaa
