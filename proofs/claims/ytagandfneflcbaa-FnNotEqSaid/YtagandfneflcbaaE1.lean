/- The reference's equality of one column: spec.marks, spec.equals. Conditions: the value is right (VR) and lies in memory as its data says. -/
import Derived.Test.YtagandfneflcbaaM
namespace Go.Proofs.Ytagandfneflcbaa
set_option linter.unusedVariables false
open Go.RowKit Go.Proofs.YtagandfneflcbaaW.PrintWords Go.Proofs.YtagandfneflcbaaW.PrintLast Go.Proofs.YtagandfneflcbaaW.PrintMore
open Go.Proofs.Ytagandfneflcbaa.PFnLt

/-- Question marks with commas between. -/
def marksB : Nat → ByteArray
  | 0 => ⟨#[]⟩
  | n + 1 => (if n = 0 then marksB n else marksB n ++ ⟨#[44]⟩) ++ ⟨#[63]⟩
theorem marksB_size : ∀ n, (marksB n).size ≤ 2 * n
  | 0 => Nat.le_refl _
  | n + 1 => by
    have := marksB_size n
    simp only [marksB]
    rw [ByteArray.size_append, show (⟨#[63]⟩ : ByteArray).size = 1 from rfl]
    split
    · omega
    · rw [ByteArray.size_append, show (⟨#[44]⟩ : ByteArray).size = 1 from rfl]; omega

set_option maxRecDepth 100000 in
theorem marks_any (n : Nat) (hn : n ≤ 1000) (w : World) : Calls Try.prog 57 #[.int .i64 n] w fun e w' => e = .returned (.string (marksB n)) ∧ w' = w := by
  go_enter Try.func57, Try.ntmps57
  go_wp2_with fail
  go_loopw [3, 4] (fun s i wr => ∃ (t : ByteArray) (x : Int), s = .string t ∧ i = .int .i64 x ∧ (0 ≤ x ∧ x ≤ n) ∧ Aside0 (t = marksB x.toNat) ∧ wr = w) (fun _ i _ => n - (intOf i).toNat)
  case atStart => exact ⟨_, 0, rfl, rfl, ⟨by omega, by omega⟩, ⟨rfl⟩, by trivial⟩
  case round =>
    obtain ⟨t, x, rfl, rfl, ⟨hx0, hxn⟩, HT, rfl⟩ := hrel
    by_cases hlt : x < n
    · have hsz : t.size ≤ 2 * x.toNat := by rw [HT.out]; exact marksB_size _
      have s1 : (t ++ (⟨#[44]⟩ : ByteArray)).size = t.size + 1 := by rw [ByteArray.size_append]; rfl
      have e1 := eq_false (show ¬ (9223372036854775807 < t.size + 1) by omega)
      have e2 := eq_false (show ¬ (9223372036854775807 < (t ++ (⟨#[44]⟩ : ByteArray)).size + 1) by omega)
      have e3 := eq_false (show ¬ (9223372036854775807 < t.size + 1 + 1) by omega)
      have HX := Aside0.mk (show marksB (x + 1).toNat = (if x.toNat = 0 then t else t ++ ⟨#[44]⟩) ++ ⟨#[63]⟩ by rw [show (x + 1).toNat = x.toNat + 1 from by omega]; simp only [marksB]; rw [HT.out])
      clear s1 hsz
      by_cases hxp : (0 : Int) < x
      · go_wp2_with fail
        go_roundw
        case rel => exact ⟨_, x + 1, rfl, rfl, ⟨by omega, by omega⟩, ⟨by rw [HX.out, if_neg (by omega)]⟩, by trivial⟩
        case measure => simp [intOf]; omega
      · go_wp2_with fail
        go_roundw
        case rel => exact ⟨_, x + 1, rfl, rfl, ⟨by omega, by omega⟩, ⟨by rw [HX.out, if_pos (by omega)]⟩, by trivial⟩
        case measure => simp [intOf]; omega
    · obtain rfl : x = n := by omega
      rw [Int.toNat_natCast] at HT
      go_wp2_with fail
      go_ret
      exact ⟨by simp [HT.out], by trivial⟩

def eqV (neg : Bool) (name : ByteArray) (x : S24) : Pc :=
  if x.f0 = 0 then (if neg then name ++ ⟨#[32, 73, 83, 32, 78, 79, 84, 32, 78, 85, 76, 76]⟩ else name ++ ⟨#[32, 73, 83, 32, 78, 85, 76, 76]⟩, [], 1)
  else if x.f0 = 5 then (if x.f3 = [] then (if neg then ⟨#[40, 49, 61, 49, 41]⟩ else ⟨#[40, 49, 61, 48, 41]⟩) else (if neg then name ++ ⟨#[32, 78, 79, 84, 32, 73, 78, 32, 40]⟩ else name ++ ⟨#[32, 73, 78, 32, 40]⟩) ++ marksB x.f3.length ++ ⟨#[41]⟩, x.f3, 1)
  else (if neg then name ++ ⟨#[32, 60, 62, 32, 63]⟩ else name ++ ⟨#[32, 61, 32, 63]⟩, [x], 1)
theorem if_size {b : Bool} {s t : ByteArray} {n : Nat} (h1 : s.size ≤ n) (h2 : t.size ≤ n) : (if b = true then s else t).size ≤ n := by cases b <;> simpa
theorem app_le (a : ByteArray) (l : List UInt8) {n m : Nat} (h : a.size ≤ n) (hm : n + l.length ≤ m) : (a ++ ⟨l.toArray⟩).size ≤ m := by
  rw [ByteArray.size_append]
  have : (⟨l.toArray⟩ : ByteArray).size = l.length := by simp [ByteArray.size]
  omega
theorem eqV_fair (neg : Bool) (name : ByteArray) (hn : name.size ≤ 40) (x : S24) (hx : VR x) : Fair (eqV neg name x) := by
  have hl : x.f3.length ≤ 12 := by cases hx with
    | one h => cases h <;> simp
    | list l h _ => exact h
  have hm := marksB_size x.f3.length
  unfold eqV
  split
  · exact ⟨if_size (app_le name _ hn (by decide)) (app_le name _ hn (by decide)), by simp, .inr rfl⟩
  · split
    · refine ⟨?_, by show x.f3.length ≤ 1000; omega, .inr rfl⟩
      by_cases h0 : x.f3 = []
      · show (if x.f3 = [] then _ else _ : ByteArray).size ≤ 1000
        rw [if_pos h0]
        exact if_size (by decide) (by decide)
      · show (if x.f3 = [] then _ else _ : ByteArray).size ≤ 1000
        rw [if_neg h0]
        refine app_le _ [41] (n := 900) ?_ (by decide)
        rw [ByteArray.size_append]
        have : (if neg = true then name ++ ⟨#[32, 78, 79, 84, 32, 73, 78, 32, 40]⟩ else name ++ ⟨#[32, 73, 78, 32, 40]⟩ : ByteArray).size ≤ 800 := if_size (app_le name [32, 78, 79, 84, 32, 73, 78, 32, 40] hn (by decide)) (app_le name [32, 73, 78, 32, 40] hn (by decide))
        omega
    · exact ⟨if_size (app_le name _ hn (by decide)) (app_le name _ hn (by decide)), by simp, .inr rfl⟩
set_option maxRecDepth 100000 in
set_option maxHeartbeats 4000000 in
theorem eq_null_false (name : ByteArray) (hn : name.size ≤ 40) (x : S24) (hx : x.f0 = 0) (A : Option Addr) (c : Nat) (P : Nat → Prop) (w : World) (hl : x.f3.length ≤ c) (hC : Kd.F k24 w P A x.f3.length x.f3) :
    Calls Try.prog 35 #[.string name, .agg #[.int .i64 x.f0, .int .i64 x.f1, .string x.f2, .slice A x.f3.length c], .bool false] w (PieceP P (name ++ ⟨#[32, 73, 83, 32, 78, 85, 76, 76]⟩, [], 1) w) := by
  have e1 := eq_false (show ¬ (9223372036854775807 < name.size + 8) by omega)
  rw [hx]
  clear hx hC hl hn
  go_enter Try.func35, Try.ntmps35
  go_wp2_with fail
  refine (said_any _ _ _ _ _).mono ?_
  rintro e w2 ⟨rfl, rfl⟩
  go_wp2_with fail
  refine bodyPost_ret (v := .agg #[.string (name ++ ⟨#[32, 73, 83, 32, 78, 85, 76, 76]⟩), .slice none 0 0, .int .i64 1]) (by simp [results, Try.results35, go_sem]) rfl ⟨none, 0, rfl, Kd.V_nil _ _ _ _ _, (((Below.refl _ _).alloc (Nat.le_refl _) _).alloc (by simp) _).alloc (by simp; omega) _⟩
set_option maxRecDepth 100000 in
set_option maxHeartbeats 4000000 in
theorem eq_null_true (name : ByteArray) (hn : name.size ≤ 40) (x : S24) (hx : x.f0 = 0) (A : Option Addr) (c : Nat) (P : Nat → Prop) (w : World) (hl : x.f3.length ≤ c) (hC : Kd.F k24 w P A x.f3.length x.f3) :
    Calls Try.prog 35 #[.string name, .agg #[.int .i64 x.f0, .int .i64 x.f1, .string x.f2, .slice A x.f3.length c], .bool true] w (PieceP P (name ++ ⟨#[32, 73, 83, 32, 78, 79, 84, 32, 78, 85, 76, 76]⟩, [], 1) w) := by
  have e1 := eq_false (show ¬ (9223372036854775807 < name.size + 12) by omega)
  rw [hx]
  clear hx hC hl hn
  go_enter Try.func35, Try.ntmps35
  go_wp2_with fail
  refine (said_any _ _ _ _ _).mono ?_
  rintro e w2 ⟨rfl, rfl⟩
  go_wp2_with fail
  refine bodyPost_ret (v := .agg #[.string (name ++ ⟨#[32, 73, 83, 32, 78, 79, 84, 32, 78, 85, 76, 76]⟩), .slice none 0 0, .int .i64 1]) (by simp [results, Try.results35, go_sem]) rfl ⟨none, 0, rfl, Kd.V_nil _ _ _ _ _, (((Below.refl _ _).alloc (Nat.le_refl _) _).alloc (by simp) _).alloc (by simp; omega) _⟩
set_option maxRecDepth 100000 in
set_option maxHeartbeats 4000000 in
theorem eq_none_false (name : ByteArray) (x : S24) (hx : x.f0 = 5) (h0 : x.f3 = []) (A : Option Addr) (c : Nat) (P : Nat → Prop) (w : World) (hl : x.f3.length ≤ c) (hC : Kd.F k24 w P A x.f3.length x.f3) :
    Calls Try.prog 35 #[.string name, .agg #[.int .i64 x.f0, .int .i64 x.f1, .string x.f2, .slice A x.f3.length c], .bool false] w (PieceP P (⟨#[40, 49, 61, 48, 41]⟩, x.f3, 1) w) := by
  rw [hx, h0]
  simp only [List.length_nil]
  clear hx h0 hC hl
  go_enter Try.func35, Try.ntmps35
  go_wp2_with fail
  refine (said_any _ _ _ _ _).mono ?_
  rintro e w2 ⟨rfl, rfl⟩
  go_wp2_with fail
  refine bodyPost_ret (v := .agg #[.string ⟨#[40, 49, 61, 48, 41]⟩, .slice none 0 0, .int .i64 1]) (by simp [results, Try.results35, go_sem]) rfl ⟨none, 0, rfl, Kd.V_nil _ _ _ _ _, (((Below.refl _ _).alloc (Nat.le_refl _) _).alloc (by simp) _).alloc (by simp; omega) _⟩
set_option maxRecDepth 100000 in
set_option maxHeartbeats 4000000 in
theorem eq_none_true (name : ByteArray) (x : S24) (hx : x.f0 = 5) (h0 : x.f3 = []) (A : Option Addr) (c : Nat) (P : Nat → Prop) (w : World) (hl : x.f3.length ≤ c) (hC : Kd.F k24 w P A x.f3.length x.f3) :
    Calls Try.prog 35 #[.string name, .agg #[.int .i64 x.f0, .int .i64 x.f1, .string x.f2, .slice A x.f3.length c], .bool true] w (PieceP P (⟨#[40, 49, 61, 49, 41]⟩, x.f3, 1) w) := by
  rw [hx, h0]
  simp only [List.length_nil]
  clear hx h0 hC hl
  go_enter Try.func35, Try.ntmps35
  go_wp2_with fail
  refine (said_any _ _ _ _ _).mono ?_
  rintro e w2 ⟨rfl, rfl⟩
  go_wp2_with fail
  refine bodyPost_ret (v := .agg #[.string ⟨#[40, 49, 61, 49, 41]⟩, .slice none 0 0, .int .i64 1]) (by simp [results, Try.results35, go_sem]) rfl ⟨none, 0, rfl, Kd.V_nil _ _ _ _ _, (((Below.refl _ _).alloc (Nat.le_refl _) _).alloc (by simp) _).alloc (by simp; omega) _⟩
set_option maxRecDepth 100000 in
set_option maxHeartbeats 4000000 in
theorem eq_some_false (name : ByteArray) (hn : name.size ≤ 40) (x : S24) (hx : x.f0 = 5) (h0 : x.f3 ≠ []) (h12 : x.f3.length ≤ 12) (A : Option Addr) (c : Nat) (P : Nat → Prop) (w : World) (hl : x.f3.length ≤ c) (hC : Kd.F k24 w P A x.f3.length x.f3) :
    Calls Try.prog 35 #[.string name, .agg #[.int .i64 x.f0, .int .i64 x.f1, .string x.f2, .slice A x.f3.length c], .bool false] w (PieceP P (name ++ ⟨#[32, 73, 78, 32, 40]⟩ ++ marksB x.f3.length ++ ⟨#[41]⟩, x.f3, 1) w) := by
  have hm := marksB_size x.f3.length
  have hln : ((x.f3.length : Int) == 0) = false := by simpa using h0
  have s1 : (name ++ (⟨#[32, 73, 78, 32, 40]⟩ : ByteArray)).size = name.size + 5 := by rw [ByteArray.size_append]; rfl
  have s2 : (name ++ (⟨#[32, 73, 78, 32, 40]⟩ : ByteArray) ++ marksB x.f3.length).size = name.size + 5 + (marksB x.f3.length).size := by rw [ByteArray.size_append, s1]
  have e1 := eq_false (show ¬ (9223372036854775807 < name.size + 5) by omega)
  have e2 := eq_false (show ¬ (9223372036854775807 < (name ++ (⟨#[32, 73, 78, 32, 40]⟩ : ByteArray)).size + (marksB x.f3.length).size) by omega)
  have e3 := eq_false (show ¬ (9223372036854775807 < (name ++ (⟨#[32, 73, 78, 32, 40]⟩ : ByteArray) ++ marksB x.f3.length).size + 1) by omega)
  have e4 := eq_false (show ¬ (9223372036854775807 < name.size + 5 + (marksB x.f3.length).size) by omega)
  have e5 := eq_false (show ¬ (9223372036854775807 < name.size + 5 + (marksB x.f3.length).size + 1) by omega)
  clear s1 s2 hm hn
  have HL := Aside0.mk hl
  have HC := Aside0.mk hC
  have H12 := Aside0.mk h12
  rw [hx]
  clear hl hC h12 hx h0
  go_enter Try.func35, Try.ntmps35
  go_wp2_with fail
  go_region_held3 (fun w' => w'.cell? ⟨w.heap.size, 3, none⟩ = some (.slice A x.f3.length c)) (go_keep) (first | (go_at_call 57; refine (marks_any x.f3.length (Nat.le_trans H12.out (by decide)) _).mono ?_; rintro e w' ⟨rfl, rfl⟩))
  all_goals
    go_wp2_with fail
    refine bodyPost_ret (v := .agg #[.string (name ++ ⟨#[32, 73, 78, 32, 40]⟩ ++ marksB x.f3.length ++ ⟨#[41]⟩), .slice A x.f3.length c, .int .i64 1]) (by simp [results, Try.results35, go_sem]) rfl ⟨A, c, rfl, Kd.V_mk HL.out (Kd.F_mono (Kd.F_below HC.out ?_) (fun k hk => .inl hk)), ?_⟩
    all_goals exact (((Below.refl w.heap.size w).alloc (Nat.le_refl _) _).alloc (by simp) _).drew
set_option maxRecDepth 100000 in
set_option maxHeartbeats 4000000 in
theorem eq_some_true (name : ByteArray) (hn : name.size ≤ 40) (x : S24) (hx : x.f0 = 5) (h0 : x.f3 ≠ []) (h12 : x.f3.length ≤ 12) (A : Option Addr) (c : Nat) (P : Nat → Prop) (w : World) (hl : x.f3.length ≤ c) (hC : Kd.F k24 w P A x.f3.length x.f3) :
    Calls Try.prog 35 #[.string name, .agg #[.int .i64 x.f0, .int .i64 x.f1, .string x.f2, .slice A x.f3.length c], .bool true] w (PieceP P (name ++ ⟨#[32, 78, 79, 84, 32, 73, 78, 32, 40]⟩ ++ marksB x.f3.length ++ ⟨#[41]⟩, x.f3, 1) w) := by
  have hm := marksB_size x.f3.length
  have hln : ((x.f3.length : Int) == 0) = false := by simpa using h0
  have s1 : (name ++ (⟨#[32, 78, 79, 84, 32, 73, 78, 32, 40]⟩ : ByteArray)).size = name.size + 9 := by rw [ByteArray.size_append]; rfl
  have s2 : (name ++ (⟨#[32, 78, 79, 84, 32, 73, 78, 32, 40]⟩ : ByteArray) ++ marksB x.f3.length).size = name.size + 9 + (marksB x.f3.length).size := by rw [ByteArray.size_append, s1]
  have e1 := eq_false (show ¬ (9223372036854775807 < name.size + 9) by omega)
  have e2 := eq_false (show ¬ (9223372036854775807 < (name ++ (⟨#[32, 78, 79, 84, 32, 73, 78, 32, 40]⟩ : ByteArray)).size + (marksB x.f3.length).size) by omega)
  have e3 := eq_false (show ¬ (9223372036854775807 < (name ++ (⟨#[32, 78, 79, 84, 32, 73, 78, 32, 40]⟩ : ByteArray) ++ marksB x.f3.length).size + 1) by omega)
  have e4 := eq_false (show ¬ (9223372036854775807 < name.size + 9 + (marksB x.f3.length).size) by omega)
  have e5 := eq_false (show ¬ (9223372036854775807 < name.size + 9 + (marksB x.f3.length).size + 1) by omega)
  clear s1 s2 hm hn
  have HL := Aside0.mk hl
  have HC := Aside0.mk hC
  have H12 := Aside0.mk h12
  rw [hx]
  clear hl hC h12 hx h0
  go_enter Try.func35, Try.ntmps35
  go_wp2_with fail
  go_region_held3 (fun w' => w'.cell? ⟨w.heap.size, 3, none⟩ = some (.slice A x.f3.length c)) (go_keep) (first | (go_at_call 57; refine (marks_any x.f3.length (Nat.le_trans H12.out (by decide)) _).mono ?_; rintro e w' ⟨rfl, rfl⟩))
  all_goals
    go_wp2_with fail
    refine bodyPost_ret (v := .agg #[.string (name ++ ⟨#[32, 78, 79, 84, 32, 73, 78, 32, 40]⟩ ++ marksB x.f3.length ++ ⟨#[41]⟩), .slice A x.f3.length c, .int .i64 1]) (by simp [results, Try.results35, go_sem]) rfl ⟨A, c, rfl, Kd.V_mk HL.out (Kd.F_mono (Kd.F_below HC.out ?_) (fun k hk => .inl hk)), ?_⟩
    all_goals exact (((Below.refl w.heap.size w).alloc (Nat.le_refl _) _).alloc (by simp) _).drew
set_option maxRecDepth 100000 in
set_option maxHeartbeats 4000000 in
theorem eq_one_false (name : ByteArray) (hn : name.size ≤ 40) (x : S24) (hx0 : x.f0 ≠ 0) (hx5 : x.f0 ≠ 5) (A : Option Addr) (c : Nat) (P : Nat → Prop) (w : World) (hl : x.f3.length ≤ c) (hC : Kd.F k24 w P A x.f3.length x.f3) :
    Calls Try.prog 35 #[.string name, .agg #[.int .i64 x.f0, .int .i64 x.f1, .string x.f2, .slice A x.f3.length c], .bool false] w (PieceP P (name ++ ⟨#[32, 61, 32, 63]⟩, [x], 1) w) := by
  have h0 : (x.f0 == 0) = false := by simpa using hx0
  have h5 : (x.f0 == 5) = false := by simpa using hx5
  have e1 := eq_false (show ¬ (9223372036854775807 < name.size + 4) by omega)
  have HL := Aside0.mk hl
  have HC := Aside0.mk hC
  clear hl hC hx0 hx5 hn
  go_enter Try.func35, Try.ntmps35
  go_wp2_with fail
  refine (said_any _ _ _ _ _).mono ?_
  rintro e w2 ⟨rfl, rfl⟩
  go_wp2_with fail
  refine bodyPost_ret (v := .agg #[.string (name ++ ⟨#[32, 61, 32, 63]⟩), .slice (some ⟨w.heap.size + 1 + 1, 0, none⟩) 1 1, .int .i64 1]) (by simp [results, Try.results35, go_sem]) rfl ⟨_, _, rfl, Kd.V_mk (c := 1) (Nat.le_refl _) ?_, ?_⟩
  · refine F_box (A := A) (c := c) (blk_alloc (blk_new2 _ _ _ _) _) HL.out (Kd.F_mono (Kd.F_below HC.out ?_) (fun k hk => .inl hk)) (.inr (by omega))
    exact ((((Below.refl w.heap.size w).alloc (Nat.le_refl _) _).alloc (by simp) _).alloc (by simp; omega) _).alloc (by simp; omega) _
  · exact ((((Below.refl w.heap.size w).alloc (Nat.le_refl _) _).alloc (by simp) _).alloc (by simp; omega) _).alloc (by simp; omega) _
set_option maxRecDepth 100000 in
set_option maxHeartbeats 4000000 in
theorem eq_one_true (name : ByteArray) (hn : name.size ≤ 40) (x : S24) (hx0 : x.f0 ≠ 0) (hx5 : x.f0 ≠ 5) (A : Option Addr) (c : Nat) (P : Nat → Prop) (w : World) (hl : x.f3.length ≤ c) (hC : Kd.F k24 w P A x.f3.length x.f3) :
    Calls Try.prog 35 #[.string name, .agg #[.int .i64 x.f0, .int .i64 x.f1, .string x.f2, .slice A x.f3.length c], .bool true] w (PieceP P (name ++ ⟨#[32, 60, 62, 32, 63]⟩, [x], 1) w) := by
  have h0 : (x.f0 == 0) = false := by simpa using hx0
  have h5 : (x.f0 == 5) = false := by simpa using hx5
  have e1 := eq_false (show ¬ (9223372036854775807 < name.size + 5) by omega)
  have HL := Aside0.mk hl
  have HC := Aside0.mk hC
  clear hl hC hx0 hx5 hn
  go_enter Try.func35, Try.ntmps35
  go_wp2_with fail
  refine (said_any _ _ _ _ _).mono ?_
  rintro e w2 ⟨rfl, rfl⟩
  go_wp2_with fail
  refine bodyPost_ret (v := .agg #[.string (name ++ ⟨#[32, 60, 62, 32, 63]⟩), .slice (some ⟨w.heap.size + 1 + 1, 0, none⟩) 1 1, .int .i64 1]) (by simp [results, Try.results35, go_sem]) rfl ⟨_, _, rfl, Kd.V_mk (c := 1) (Nat.le_refl _) ?_, ?_⟩
  · refine F_box (A := A) (c := c) (blk_alloc (blk_new2 _ _ _ _) _) HL.out (Kd.F_mono (Kd.F_below HC.out ?_) (fun k hk => .inl hk)) (.inr (by omega))
    exact ((((Below.refl w.heap.size w).alloc (Nat.le_refl _) _).alloc (by simp) _).alloc (by simp; omega) _).alloc (by simp; omega) _
  · exact ((((Below.refl w.heap.size w).alloc (Nat.le_refl _) _).alloc (by simp) _).alloc (by simp; omega) _).alloc (by simp; omega) _

theorem eq_any (neg : Bool) (name : ByteArray) (hn : name.size ≤ 40) (x : S24) (hx : VR x) (A : Option Addr) (c : Nat) (P : Nat → Prop) (w : World) (hl : x.f3.length ≤ c) (hC : Kd.F k24 w P A x.f3.length x.f3) :
    Calls Try.prog 35 #[.string name, .agg #[.int .i64 x.f0, .int .i64 x.f1, .string x.f2, .slice A x.f3.length c], .bool neg] w (PieceP P (eqV neg name x) w) := by
  have h12 : x.f3.length ≤ 12 := by cases hx with
    | one h => cases h <;> simp
    | list l h _ => exact h
  unfold eqV
  by_cases h0 : x.f0 = 0
  · rw [if_pos h0]
    cases neg with
    | false => exact eq_null_false name hn x h0 A c P w hl hC
    | true => exact eq_null_true name hn x h0 A c P w hl hC
  · rw [if_neg h0]
    by_cases h5 : x.f0 = 5
    · rw [if_pos h5]
      by_cases he : x.f3 = []
      · rw [if_pos he]
        cases neg with
        | false => exact eq_none_false name x h5 he A c P w hl hC
        | true => exact eq_none_true name x h5 he A c P w hl hC
      · rw [if_neg he]
        cases neg with
        | false => exact eq_some_false name hn x h5 he h12 A c P w hl hC
        | true => exact eq_some_true name hn x h5 he h12 A c P w hl hC
    · rw [if_neg h5]
      cases neg with
      | false => exact eq_one_false name hn x h0 h5 A c P w hl hC
      | true => exact eq_one_true name hn x h0 h5 A c P w hl hC

end Go.Proofs.Ytagandfneflcbaa
