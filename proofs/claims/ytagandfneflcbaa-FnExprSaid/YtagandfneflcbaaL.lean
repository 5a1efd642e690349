/- The reference's condition of one column: spec.said, refused, unsure, sign, compares. Conditions: the value's list lies in memory as its data says. -/
import Derived.Test.YtagandfneflcbaaPFnLtx0
import Derived.WalkSpells
import Derived.Deep.RegionHeld3
import Derived.WalkLawsBesides
namespace Go.Proofs.Ytagandfneflcbaa
open Go.RowKit Go.Proofs.YtagandfneflcbaaW.PrintWords Go.Proofs.YtagandfneflcbaaW.PrintLast Go.Proofs.YtagandfneflcbaaW.PrintMore
open Go.Proofs.Ytagandfneflcbaa.PFnLt

theorem said_any (t : ByteArray) (A : Option Addr) (n c : Nat) (w : World) : Calls Try.prog 32 #[.string t, .slice A n c] w fun e w' => e = .returned (.agg #[.string t, .slice A n c, .int .i64 1]) ∧ w' = w.alloc (.cells #[.string t, .slice A n c, .int .i64 1] 30) := by
  go_enter Try.func32, Try.ntmps32
  go_wp2_with fail
  exact bodyPost_ret (v := .agg #[.string t, .slice A n c, .int .i64 1]) (by simp [results, Try.results32, go_sem]) rfl ⟨rfl, rfl⟩
theorem refused_any (w : World) : Calls Try.prog 58 #[] w fun e w' => e = .returned (.agg #[.string ⟨#[]⟩, .slice none 0 0, .int .i64 0]) ∧ w' = w.alloc (.cells #[.string ⟨#[]⟩, .slice none 0 0, .int .i64 0] 30) := by
  go_enter Try.func58, Try.ntmps58
  go_wp2_with fail
  exact bodyPost_ret (v := .agg #[.string ⟨#[]⟩, .slice none 0 0, .int .i64 0]) (by simp [results, Try.results58, go_sem]) rfl ⟨rfl, rfl⟩

/-- What stands between a column and its value. -/
def sgn (k : Int) : ByteArray := if k = 4 then ⟨#[60]⟩ else if k = 5 then ⟨#[60, 61]⟩ else if k = 6 then ⟨#[62]⟩ else if k = 7 then ⟨#[62, 61]⟩ else if k = 8 then ⟨#[76, 73, 75, 69]⟩ else if k = 9 then ⟨#[78, 79, 84, 32, 76, 73, 75, 69]⟩ else if k = 10 then ⟨#[73, 76, 73, 75, 69]⟩ else ⟨#[78, 79, 84, 32, 73, 76, 73, 75, 69]⟩
theorem sgn_size (k : Int) : (sgn k).size ≤ 10 := by unfold sgn; repeat' split
                                                     all_goals decide
theorem sign_any (k : Int) (h4 : 4 ≤ k) (h11 : k ≤ 11) (w : World) : Calls Try.prog 59 #[.int .i64 k] w fun e w' => e = .returned (.string (sgn k)) ∧ w' = w := by
  rcases (show k = 4 ∨ k = 5 ∨ k = 6 ∨ k = 7 ∨ k = 8 ∨ k = 9 ∨ k = 10 ∨ k = 11 from by omega) with rfl | rfl | rfl | rfl | rfl | rfl | rfl | rfl
  all_goals
    clear h4 h11
    go_enter Try.func59, Try.ntmps59
    go_wp2_with fail
    go_ret
    exact ⟨rfl, rfl⟩

/-- A piece of a statement, as it lies in memory. -/
def SqlPost (t : ByteArray) (args : List S24) (is : Int) (w : World) (e : Ending) (w' : World) : Prop := ∃ A c, e = .returned (.agg #[.string t, .slice A args.length c, .int .i64 is]) ∧ args.length ≤ c ∧ k24.C w' A args.length args ∧ Below w.heap.size w w'

/-- One value, alone in a row. -/
theorem C_box {w : World} {g : Nat} {x : S24} {A : Option Addr} {c : Nat} (hb : w.heap[g]? = some (.cells #[.int .i64 x.f0, .int .i64 x.f1, .string x.f2, .slice A x.f3.length c] 24 (0, 0))) (hl : x.f3.length ≤ c) (hC : k24.C w A x.f3.length x.f3) : k24.C w (some ⟨g, 0, none⟩) 1 [x] := by
  refine ⟨rfl, by decide, fun _ => ⟨_, rfl, fun j p hj => ?_⟩⟩
  cases j with
  | succ j => simp at hj
  | zero =>
    obtain rfl : x = p := by simpa using hj
    refine ⟨_, rfl, k24_mk w x hl hC, fun j u hu => ?_⟩
    rw [Nat.zero_mul, Nat.zero_add, add_plain, blk_cell hb, ← hu]
    exact List.getElem?_toArray
theorem blk_new2 (w : World) (a b o : Obj) : (((w.alloc a).alloc b).alloc o).heap[w.heap.size + 1 + 1]? = some o := by
  have := blk_new ((w.alloc a).alloc b) o
  simpa using this

def cmpT (k : Int) (name : ByteArray) : ByteArray := name ++ ⟨#[32]⟩ ++ sgn k ++ ⟨#[32, 63]⟩

set_option maxRecDepth 100000 in
set_option maxHeartbeats 2000000 in
theorem compares_no (k : Int) (name : ByteArray) (x : S24) (hx : x.f0 = 0 ∨ x.f0 = 5) (A : Option Addr) (c : Nat) (w : World) :
    Calls Try.prog 36 #[.int .i64 k, .string name, .agg #[.int .i64 x.f0, .int .i64 x.f1, .string x.f2, .slice A x.f3.length c]] w (SqlPost ⟨#[]⟩ [] 0 w) := by
  rcases hx with hx | hx
  all_goals
    rw [hx]
    clear hx
    go_enter Try.func36, Try.ntmps36
    go_wp2_with fail
    refine (refused_any _).mono ?_
    rintro e w2 ⟨rfl, rfl⟩
    go_wp2_with fail
    refine bodyPost_ret (v := .agg #[.string ⟨#[]⟩, .slice none 0 0, .int .i64 0]) (by simp [results, Try.results36, go_sem]) rfl ⟨none, 0, rfl, Nat.le_refl _, ⟨rfl, by decide, fun h => by cases h⟩, ?_⟩
    exact ((((Below.refl _ _).alloc (Nat.le_refl _) _).alloc (by simp) _).alloc (by simp; omega) _)

set_option maxRecDepth 100000 in
set_option maxHeartbeats 4000000 in
theorem compares_yes (k : Int) (h4 : 4 ≤ k) (h11 : k ≤ 11) (name : ByteArray) (hn : name.size ≤ 40) (x : S24) (hx : ¬ (x.f0 = 0 ∨ x.f0 = 5)) (A : Option Addr) (c : Nat) (w : World) (hl : x.f3.length ≤ c) (hC : k24.C w A x.f3.length x.f3) :
    Calls Try.prog 36 #[.int .i64 k, .string name, .agg #[.int .i64 x.f0, .int .i64 x.f1, .string x.f2, .slice A x.f3.length c]] w (SqlPost (cmpT k name) [x] 1 w) := by
  have HX := Aside0.mk hx
  have h0 : (x.f0 == 0) = false := by simp; omega
  have h5 : (x.f0 == 5) = false := by simp; omega
  have hz := sgn_size k
  have s1 : (name ++ (⟨#[32]⟩ : ByteArray)).size = name.size + 1 := by rw [ByteArray.size_append]; rfl
  have s2 : (name ++ (⟨#[32]⟩ : ByteArray) ++ sgn k).size = name.size + 1 + (sgn k).size := by rw [ByteArray.size_append, s1]
  have e1 := eq_false (show ¬ (9223372036854775807 < name.size + 1) by omega)
  have e2 := eq_false (show ¬ (9223372036854775807 < (name ++ (⟨#[32]⟩ : ByteArray)).size + (sgn k).size) by omega)
  have e3 := eq_false (show ¬ (9223372036854775807 < (name ++ (⟨#[32]⟩ : ByteArray) ++ sgn k).size + 2) by omega)
  have e4 := eq_false (show ¬ (9223372036854775807 < name.size + 1 + (sgn k).size) by omega)
  have e5 := eq_false (show ¬ (9223372036854775807 < name.size + 1 + (sgn k).size + 2) by omega)
  clear s1 s2 hz hn
  have HL := Aside0.mk hl
  have HC := Aside0.mk hC
  clear hx hl hC
  go_enter Try.func36, Try.ntmps36
  go_wp2_with fail
  go_region_held3 (fun w' => w'.cell? ⟨w.heap.size, 0, none⟩ = some (.int .i64 x.f0) ∧ w'.cell? ⟨w.heap.size, 1, none⟩ = some (.int .i64 x.f1) ∧ w'.cell? ⟨w.heap.size, 2, none⟩ = some (.string x.f2) ∧ w'.cell? ⟨w.heap.size, 3, none⟩ = some (.slice A x.f3.length c)) (go_keep) (first | (go_at_call 59; refine (sign_any k h4 h11 _).mono ?_; rintro e w' ⟨rfl, rfl⟩) | (go_at_call 32; refine (said_any _ _ _ _ _).mono ?_; rintro e w' ⟨rfl, rfl⟩))
  all_goals
    go_wp2_with fail
    refine bodyPost_ret (v := .agg #[.string (cmpT k name), .slice (some ⟨w.heap.size + 1 + 1, 0, none⟩) 1 1, .int .i64 1]) (by simp [results, Try.results36, go_sem, cmpT]) rfl ⟨_, _, rfl, Nat.le_refl _, ?_, ?_⟩
    · refine C_box (A := A) (c := c) ?_ HL.out (Kd.C_below HC.out ?_)
      · exact blk_drew (blk_alloc (blk_new2 _ _ _ _) _)
      · exact ((((Below.refl w.heap.size w).alloc (Nat.le_refl _) _).alloc (by simp) _).alloc (by simp; omega) _).alloc (by simp; omega) _ |>.drew
    · exact ((((Below.refl w.heap.size w).alloc (Nat.le_refl _) _).alloc (by simp) _).alloc (by simp; omega) _).alloc (by simp; omega) _ |>.drew

end Go.Proofs.Ytagandfneflcbaa
