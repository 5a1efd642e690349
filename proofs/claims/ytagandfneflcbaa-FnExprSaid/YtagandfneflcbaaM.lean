/- The reference's condition of columns, piece by piece: compares and Joined as they are used, spec.Columns of the kinds 4 to 11. -/
import Derived.Test.YtagandfneflcbaaL
import Derived.Test.YtagandfneflcbaaJ
import Derived.Test.YtagandfneflcbaaC
import Derived.Test.YtagandfneflcbaaPFnLtx5
namespace Go.Proofs.Ytagandfneflcbaa
open Go.RowKit Go.Proofs.YtagandfneflcbaaW.PrintWords Go.Proofs.YtagandfneflcbaaW.PrintLast Go.Proofs.YtagandfneflcbaaW.PrintMore
open Go.Proofs.Ytagandfneflcbaa.PFnLt

/-- A piece: its text, its arguments, whether it is one. -/
abbrev Pc := ByteArray × List S24 × Int
def PieceP (P : Nat → Prop) (p : Pc) (w : World) (e : Ending) (w' : World) : Prop := ∃ A c, e = .returned (.agg #[.string p.1, .slice A p.2.1.length c, .int .i64 p.2.2]) ∧ Kd.V k24 24 w' w.heap.size (fun k => P k ∨ w.heap.size ≤ k) (.slice A p.2.1.length c) p.2.1 ∧ Below w.heap.size w w'
def cmpV (k : Int) (name : ByteArray) (x : S24) : Pc := if x.f0 = 0 ∨ x.f0 = 5 then (⟨#[]⟩, [], 0) else (cmpT k name, [x], 1)

theorem F_box {w : World} {g : Nat} {x : S24} {A : Option Addr} {c : Nat} {ok : Nat → Prop} (hb : w.heap[g]? = some (.cells #[.int .i64 x.f0, .int .i64 x.f1, .string x.f2, .slice A x.f3.length c] 24 (0, 0))) (hl : x.f3.length ≤ c) (hC : Kd.F k24 w ok A x.f3.length x.f3) (hg : ok g) : Kd.F k24 w ok (some ⟨g, 0, none⟩) 1 [x] := by
  intro W2 hW
  exact C_box ((hW g hg (blk_lt hb)).trans hb) hl (hC W2 hW)

set_option maxRecDepth 100000 in
set_option maxHeartbeats 4000000 in
theorem cmp_yes (k : Int) (h4 : 4 ≤ k) (h11 : k ≤ 11) (name : ByteArray) (hn : name.size ≤ 40) (x : S24) (hx : ¬ (x.f0 = 0 ∨ x.f0 = 5)) (A : Option Addr) (c : Nat) (P : Nat → Prop) (w : World) (hl : x.f3.length ≤ c) (hC : Kd.F k24 w P A x.f3.length x.f3) :
    Calls Try.prog 36 #[.int .i64 k, .string name, .agg #[.int .i64 x.f0, .int .i64 x.f1, .string x.f2, .slice A x.f3.length c]] w (PieceP P (cmpT k name, [x], 1) w) := by
  have HX := Aside0.mk hx
  have h0 : (x.f0 == 0) = false := by simp; omega
  have h5 : (x.f0 == 5) = false := by simp; omega
  have hz := sgn_size k
  have s1 : (name ++ (⟨#[32]⟩ : ByteArray)).size = name.size + 1 := by rw [ByteArray.size_append]; rfl
  have s2 : (name ++ (⟨#[32]⟩ : ByteArray) ++ sgn k).size = name.size + 1 + (sgn k).size := by rw [ByteArray.size_append, s1]
  have e1 := eq_false (show ¬ (9223372036854775807 < name.size + 1) by omega)
  have e2 := eq_false (show ¬ (9223372036854775807 < (name ++ (⟨#[32]⟩ : ByteArray)).size + (sgn k).size) by omega)
  have e3 := eq_false (show ¬ (9223372036854775807 < (name ++ (⟨#[32]⟩ : ByteArray) ++ sgn k).size + 2) by omega)
  have e4 := eq_false (show ¬ (9223372036854775807 < name.size + 1 + (sgn k).size) by omega)
  have e5 := eq_false (show ¬ (9223372036854775807 < name.size + 1 + (sgn k).size + 2) by omega)
  clear s1 s2 hz hn
  have HL := Aside0.mk hl
  have HC := Aside0.mk hC
  clear hx hl hC
  go_enter Try.func36, Try.ntmps36
  go_wp2_with fail
  go_region_held3 (fun w' => w'.cell? ⟨w.heap.size, 0, none⟩ = some (.int .i64 x.f0) ∧ w'.cell? ⟨w.heap.size, 1, none⟩ = some (.int .i64 x.f1) ∧ w'.cell? ⟨w.heap.size, 2, none⟩ = some (.string x.f2) ∧ w'.cell? ⟨w.heap.size, 3, none⟩ = some (.slice A x.f3.length c)) (go_keep) (first | (go_at_call 59; refine (sign_any k h4 h11 _).mono ?_; rintro e w' ⟨rfl, rfl⟩) | (go_at_call 32; refine (said_any _ _ _ _ _).mono ?_; rintro e w' ⟨rfl, rfl⟩))
  all_goals
    go_wp2_with fail
    refine bodyPost_ret (v := .agg #[.string (cmpT k name), .slice (some ⟨w.heap.size + 1 + 1, 0, none⟩) 1 1, .int .i64 1]) (by simp [results, Try.results36, go_sem, cmpT]) rfl ⟨_, _, rfl, Kd.V_mk (c := 1) (Nat.le_refl _) ?_, ?_⟩
    · refine F_box (A := A) (c := c) ?_ HL.out (Kd.F_mono (Kd.F_below HC.out ?_) (fun k hk => .inl hk)) (.inr (by omega))
      · exact blk_drew (blk_alloc (blk_new2 _ _ _ _) _)
      · exact ((((Below.refl w.heap.size w).alloc (Nat.le_refl _) _).alloc (by simp) _).alloc (by simp; omega) _).alloc (by simp; omega) _ |>.drew
    · exact ((((Below.refl w.heap.size w).alloc (Nat.le_refl _) _).alloc (by simp) _).alloc (by simp; omega) _).alloc (by simp; omega) _ |>.drew
theorem cmp_any (k : Int) (h4 : 4 ≤ k) (h11 : k ≤ 11) (name : ByteArray) (hn : name.size ≤ 40) (x : S24) (A : Option Addr) (c : Nat) (P : Nat → Prop) (w : World) (hl : x.f3.length ≤ c) (hC : Kd.F k24 w P A x.f3.length x.f3) :
    Calls Try.prog 36 #[.int .i64 k, .string name, .agg #[.int .i64 x.f0, .int .i64 x.f1, .string x.f2, .slice A x.f3.length c]] w (PieceP P (cmpV k name x) w) := by
  unfold cmpV
  by_cases hx : x.f0 = 0 ∨ x.f0 = 5
  · rw [if_pos hx]
    refine (compares_no k name x hx A c w).mono ?_
    rintro e w' ⟨A2, c2, rfl, _, _, hb⟩
    refine ⟨A2, c2, rfl, ⟨A2, c2, rfl, Nat.zero_le _, fun W2 _ => ⟨rfl, by decide, fun h => by cases h⟩⟩, hb⟩
  · rw [if_neg hx]
    exact cmp_yes k h4 h11 name hn x hx A c P w hl hC

theorem joined_any (p q : Pc) (A B : Option Addr) (c d : Nat) (P : Nat → Prop) (w : World) (hp : Kd.V k24 24 w w.heap.size P (.slice A p.2.1.length c) p.2.1) (hq : Kd.V k24 24 w w.heap.size P (.slice B q.2.1.length d) q.2.1)
    (s1 : p.1.size ≤ 1000000) (s2 : q.1.size ≤ 1000000) (l1 : p.2.1.length ≤ 1000000) (l2 : q.2.1.length ≤ 1000000) (i1 : p.2.2 ≠ 2) (i2 : q.2.2 ≠ 2) :
    Calls Try.prog 37 #[.agg #[.string p.1, .slice A p.2.1.length c, .int .i64 p.2.2], .agg #[.string q.1, .slice B q.2.1.length d, .int .i64 q.2.2]] w (PieceP P (p.1 ++ q.1, p.2.1 ++ q.2.1, mn p.2.2 q.2.2) w) := by
  have hf : spec_Joined.f p.1 p.2.1 p.2.2 q.1 q.2.1 q.2.2 = some (p.1 ++ q.1, p.2.1 ++ q.2.1, mn p.2.2 q.2.2) := by
    unfold spec_Joined.f spec_worse.f
    rw [if_pos (by omega), Option.bind_some, List.length_nil, if_pos (by omega), Option.bind_some, List.nil_append, if_pos (by omega), if_neg i1, if_neg i2]
    rfl
  refine (spec_Joined.calls p.1 P A c p.2.1 p.2.2 q.1 P B d q.2.1 q.2.2 _ _ _ w hp hq hf).mono ?_
  · rintro e w' ⟨v, rfl, hN, hb⟩
    have hV := Kd.N_V (base' := w.heap.size) hN
    obtain ⟨A2, c2, rfl⟩ := Kd.V_slice hV
    exact ⟨A2, c2, rfl, Kd.V_mono hV (fun k hk => hk.elim (fun h => h.elim .inl .inl) .inr), hb⟩

def and5 : ByteArray := ⟨#[32, 65, 78, 68, 32]⟩
/-- The condition of the first i columns, in the order that g tells. -/
def colsN (V : ByteArray → S24 → Pc) (g : Nat → ByteArray × S24) : Nat → Pc
  | 0 => (⟨#[]⟩, [], 1)
  | i + 1 => ((if i = 0 then (colsN V g i).1 else (colsN V g i).1 ++ and5) ++ (V (g i).1 (g i).2).1, (colsN V g i).2.1 ++ (V (g i).1 (g i).2).2.1, mn (colsN V g i).2.2 (V (g i).1 (g i).2).2.2)
/-- What a piece may be. -/
def Fair (p : Pc) : Prop := p.1.size ≤ 1000 ∧ p.2.1.length ≤ 1000 ∧ (p.2.2 = 0 ∨ p.2.2 = 1)
theorem colsN_fair (V : ByteArray → S24 → Pc) (g : Nat → ByteArray × S24) (n : Nat) (hV : ∀ i, i < n → Fair (V (g i).1 (g i).2)) : ∀ i, i ≤ n → (colsN V g i).1.size ≤ 1005 * i ∧ (colsN V g i).2.1.length ≤ 1000 * i ∧ ((colsN V g i).2.2 = 0 ∨ (colsN V g i).2.2 = 1)
  | 0, _ => ⟨by simp [colsN]; rfl, by simp [colsN], by simp [colsN]⟩
  | i + 1, h => by
    obtain ⟨h1, h2, h3⟩ := colsN_fair V g n hV i (by omega)
    obtain ⟨f1, f2, f3⟩ := hV i (by omega)
    refine ⟨?_, ?_, ?_⟩
    · simp only [colsN]
      rw [ByteArray.size_append]
      split
      · omega
      · rw [ByteArray.size_append, show and5.size = 5 from rfl]; omega
    · simp only [colsN]
      rw [List.length_append]
      omega
    · simp only [colsN, mn]
      split <;> omega

/-- The column and the value that the order tells. -/
def ordG (names : List ByteArray) (vals : List S24) (r : List Int) (i : Nat) : ByteArray × S24 := (rdOf ByteArray.empty names (rd r i), rd_T24 vals (rd r i))
structure OrdOk (names : List ByteArray) (r : List Int) : Prop where
  len : r.length = names.length
  rng : ∀ i : Nat, i < r.length → 0 ≤ rd r i ∧ rd r i < names.length

/-- All older blocks but one are as they were. -/
def KB (w1 wr : World) (g : Nat) : Prop := w1.heap.size ≤ wr.heap.size ∧ ∀ k, k < w1.heap.size → k ≠ g → wr.heap[k]? = w1.heap[k]?
theorem KB.refl (w : World) (g : Nat) : KB w w g := ⟨Nat.le_refl _, fun _ _ _ => rfl⟩
theorem KB.F {α : Type} {d : Kd α} {w1 wr : World} {g n : Nat} {A : Option Addr} {xs : List α} {ok : Nat → Prop} (h : KB w1 wr g) (hF : Kd.F d w1 ok A n xs) (hok : ∀ k, ok k → k ≠ g) : Kd.F d wr ok A n xs :=
  Kd.F_step hF (fun k hk hlt => h.2 k hlt (hok k hk))
theorem KB.below {w1 wr w2 : World} {g : Nat} (h : KB w1 wr g) (hb : Below wr.heap.size wr w2) : KB w1 w2 g := ⟨Nat.le_trans h.1 hb.size, fun k hk hg => (hb.block k (Nat.lt_of_lt_of_le hk h.1)).trans (h.2 k hk hg)⟩
theorem KB.set {w1 wr : World} {g : Nat} (h : KB w1 wr g) (j : Nat) (u : Value) : KB w1 (wr.setCell ⟨g, j, none⟩ u) g := ⟨by simpa using h.1, fun k hk hg => (Below.heap_setCell wr _ u k hg).trans (h.2 k hk hg)⟩
theorem KB.setNew {w1 wr : World} {g : Nat} (h : KB w1 wr g) {p : Addr} (hp : w1.heap.size ≤ p.block) (u : Value) : KB w1 (wr.setCell p u) g := ⟨by simpa using h.1, fun k hk hg => (Below.heap_setCell wr _ u k (by omega)).trans (h.2 k hk hg)⟩
/-- A row of the call's own, read anywhere else but in one older block. -/
theorem R_away {α : Type} {d : Kd α} {e base n c g : Nat} {ok : Nat → Prop} {w : World} {A : Option Addr} {xs : List α} (hE : d.E = []) (h : d.R e w base ok (.slice A n c) xs) (hg : g < base) : Kd.F d w (fun k => k ≠ g) A n xs :=
  Kd.F_mono (Kd.R_F (Kd.R_tight hE h)) (fun k hk => by have := Kd.R_base h k hk.symm; omega)
/-- The place of what is gathered. -/
def Acc (B : Nat) (g : Nat) (p : Pc) (wr : World) : Prop := ∃ A c, wr.heap[g]? = some (.cells #[.string p.1, .slice A p.2.1.length c, .int .i64 p.2.2] 30 (0, 0)) ∧ Kd.V k24 24 wr wr.heap.size (fun k => k ≠ g ∧ k ≠ B) (.slice A p.2.1.length c) p.2.1

theorem cmpV_fair (k : Int) (name : ByteArray) (hn : name.size ≤ 40) (x : S24) : Fair (cmpV k name x) := by
  unfold cmpV
  split
  · exact ⟨by show (0 : Nat) ≤ 1000; omega, by simp, .inl rfl⟩
  · refine ⟨?_, by simp, .inr rfl⟩
    simp only [cmpT]
    rw [ByteArray.size_append, ByteArray.size_append, ByteArray.size_append]
    have := sgn_size k
    show name.size + 1 + (sgn k).size + 2 ≤ 1000
    omega
theorem ord_name {names : List ByteArray} {vals : List S24} (_ : CR names vals) {j : Int} (h0 : 0 ≤ j) (h1 : j < names.length) : (rdOf ByteArray.empty names j) ∈ names := by
  have : j.toNat < names.length := by omega
  simp only [rdOf, List.getD_eq_getElem?_getD, List.getElem?_eq_getElem this, Option.getD_some]
  exact List.getElem_mem _
theorem ord_val {names : List ByteArray} {vals : List S24} (h : CR names vals) {j : Int} (h0 : 0 ≤ j) (h1 : j < names.length) : rd_T24 vals j ∈ vals := by
  have : j.toNat < vals.length := by have := h.vn; omega
  simp only [rd_T24, List.getD_eq_getElem?_getD, List.getElem?_eq_getElem this, Option.getD_some]
  exact List.getElem_mem _

set_option maxRecDepth 100000 in
set_option maxHeartbeats 4000000 in
theorem columns_any (k : Int) (h4 : 4 ≤ k) (h11 : k ≤ 11) (names : List ByteArray) (vals : List S24) (hcr : CR names vals) (hk : 8 ≤ k → names.length ≤ 1) (fu : Nat) (r : List Int) (hr : spec_ByName.f fu names = some r) (ho : OrdOk names r)
    (NA VA : Option Addr) (nc vc : Nat) (hnc : names.length ≤ nc) (w : World) (hN : Kd.C Kd.string w NA names.length names) (hV : Kd.C k24 w VA vals.length vals) :
    Calls Try.prog 16 #[.int .i64 k, .slice NA names.length nc, .slice VA vals.length vc] w (PieceP (fun k => k < w.heap.size) (colsN (cmpV k) (ordG names vals r) names.length) w) := by
  have HN := Aside0.mk hN
  have HV := Aside0.mk hV
  have HC := Aside0.mk hcr
  have HO := Aside0.mk ho
  have hn8 : (names.length : Int) ≤ 8 := by have := hcr.n8; omega
  have hvn := hcr.vn
  have k2 : (k == 2) = false := by simp; omega
  have k3 : (k == 3) = false := by simp; omega
  have k8 : ((1 : Int) < names.length) → ¬ (8 ≤ k) := by intro h h8; have := hk h8; omega
  clear hN hV hcr ho hk
  have hcase : ((names.length : Int) == 0) = true ∧ ((1 : Int) < names.length) = False ∨ ((names.length : Int) == 0) = false ∧ ((1 : Int) < names.length) = False ∨ ((names.length : Int) == 0) = false ∧ ((1 : Int) < names.length) = True ∧ (8 ≤ k) = False := by
    by_cases h1 : (1 : Int) < names.length
    · exact .inr (.inr ⟨by simp; intro h; rw [h] at h1; simp at h1, eq_true h1, eq_false (k8 h1)⟩)
    · by_cases h0 : names.length = 0
      · exact .inl ⟨by simp [h0], eq_false h1⟩
      · exact .inr (.inl ⟨by simpa using h0, eq_false h1⟩)
  clear k8
  rcases hcase with ⟨q0, q1⟩ | ⟨q0, q1⟩ | ⟨q0, q1, q8⟩
  all_goals
    go_enter Try.func16, Try.ntmps16
    go_wp2_with fail
    refine (said_any _ _ _ _ _).mono ?_
    rintro e w' ⟨rfl, rfl⟩
    go_wp2_with fail
    refine (spec_ByName.calls fu NA nc names r _ (Kd.C_below HN.out ?_) hnc hr).mono ?_
    · exact (((Below.refl w.heap.size w).alloc (Nat.le_refl _) _).alloc (by simp) _).alloc (by simp; omega) _
    rintro e w1 ⟨v, rfl, hR, hb⟩
    obtain ⟨A, c, rfl⟩ := Kd.R_slice hR
    have HRR := Aside0.mk (R_away (g := w.heap.size + 1 + 1) rfl hR (by simp))
    have G6 := Aside0.mk (blk_below (blk_alloc (blk_alloc (blk_new w _) _) _) hb)
    have G7 := Aside0.mk (blk_below (blk_new2 w _ _ _) hb)
    have HB := Aside0.mk (below_step ((((Below.refl w.heap.size w).alloc (Nat.le_refl _) _).alloc (by simp) _).alloc (by simp; omega) _) hb)
    have HZ := Aside0.mk (show w.heap.size + 1 + 1 + 1 ≤ w1.heap.size by have := hb.size; simpa using this)
    clear hR hb
    rw [HO.out.len]
    go_wp2_with fail
    go_loopw [9] (fun i wr => ∃ x : Int, i = .int .i64 x ∧ (0 ≤ x ∧ x ≤ names.length) ∧ Aside0 (Acc w.heap.size (w.heap.size + 1 + 1) (colsN (cmpV k) (ordG names vals r) x.toNat) wr) ∧ Aside0 (KB w1 wr (w.heap.size + 1 + 1)) ∧ Aside0 (Below w.heap.size w wr)) (fun i _ => names.length - (intOf i).toNat)
    case atStart => exact ⟨0, rfl, ⟨by omega, by omega⟩, ⟨none, 0, G7.out, Kd.V_nil _ _ _ _ _⟩, ⟨KB.refl _ _⟩, HB⟩
    case round =>
      obtain ⟨x, rfl, ⟨hx0, hxn⟩, HA, HK, HB1⟩ := hrel
      by_cases hlt : x < names.length
      · have hxr : x.toNat < r.length := by have := HO.out.len; omega
        obtain ⟨rj0, rj1⟩ := HO.out.rng x.toNat hxr
        rw [Int.toNat_of_nonneg hx0] at rj0 rj1
        obtain ⟨ad, e1, x0⟩ := Kd.at_int (Kd.F_now (HK.out.F HRR.out (fun _ h => h))) x hx0 (by have := HO.out.len; omega)
        cases e1
        obtain ⟨j, hj⟩ : ∃ j, j = rd r x := ⟨_, rfl⟩
        rw [← hj] at x0 rj0 rj1
        obtain ⟨an, e2, y0⟩ := Kd.at_string (Kd.C_below HN.out HB1.out) j rj0 (by omega)
        cases e2
        obtain ⟨av, A3, c3, e3, z0, z1, z2, z3, zl, zC⟩ := at_T24 HV.out j rj0 (by omega)
        cases e3
        replace z0 := (HB1.out.cell (World.block_lt_of_cell? w _ z0)).trans z0
        replace z1 := (HB1.out.cell (World.block_lt_of_cell? w _ z1)).trans z1
        replace z2 := (HB1.out.cell (World.block_lt_of_cell? w _ z2)).trans z2
        replace z3 := (HB1.out.cell (World.block_lt_of_cell? w _ z3)).trans z3
        have hna := ord_name HC.out rj0 rj1
        have HNS := Aside0.mk (HC.out.pos _ hna).2
        have HG := Aside0.mk (show ordG names vals r x.toNat = (rdOf ByteArray.empty names j, rd_T24 vals j) by unfold ordG; rw [Int.toNat_of_nonneg hx0, ← hj])
        obtain ⟨nm, hnm⟩ : ∃ nm, nm = rdOf ByteArray.empty names j := ⟨_, rfl⟩
        obtain ⟨xv, hxv⟩ : ∃ xv, xv = rd_T24 vals j := ⟨_, rfl⟩
        rw [← hnm] at y0 HNS HG
        rw [← hxv] at z0 z1 z2 z3 zl zC HG
        have ZC := Aside0.mk (Kd.F_below (Kd.C_F k24_heap zC) HB1.out)
        have ZL := Aside0.mk zl
        clear hna hnm hxv zC zl hj
        go_wp2_with fail
        go_region_held3 (fun w' => w'.cell? (ad.add x.toNat) = some (Value.int IntKind.i64 j) ∧ w'.cell? (an.add j.toNat) = some (Value.string nm) ∧ w'.cell? (av.add (j.toNat * 4)) = some (Value.int IntKind.i64 xv.f0) ∧ w'.cell? { block := (av.add (j.toNat * 4)).block, off := (av.add (j.toNat * 4)).off + 1 } = some (Value.int IntKind.i64 xv.f1) ∧ w'.cell? { block := (av.add (j.toNat * 4)).block, off := (av.add (j.toNat * 4)).off + 2 } = some (Value.string xv.f2) ∧ w'.cell? { block := (av.add (j.toNat * 4)).block, off := (av.add (j.toNat * 4)).off + 3 } = some (Value.slice A3 xv.f3.length c3)) (go_keep) (fail)
        go_wp2_with fail
        refine (cmp_any k h4 h11 nm HNS.out xv A3 c3 (fun k => k < w.heap.size) _ ZL.out (Kd.F_below ZC.out ?_)).mono ?_
        · exact (((Below.refl wr.heap.size wr).alloc (Nat.le_refl _) _).alloc (by simp) _).drew
        rintro e w2 ⟨A4, c4, rfl, V4, hb4⟩
        have HQ := Aside0.mk (cmpV_fair k nm HNS.out xv)
        obtain ⟨q, hq⟩ : ∃ q, q = cmpV k nm xv := ⟨_, rfl⟩
        rw [← hq] at V4 HQ ⊢
        have HQE := Aside0.mk hq
        clear hq
        have hbt : Below wr.heap.size wr w2 := below_step (((Below.refl wr.heap.size wr).alloc (Nat.le_refl _) _).alloc (by simp) _).drew hb4
        obtain ⟨p, hp⟩ : ∃ p, p = colsN (cmpV k) (ordG names vals r) x.toNat := ⟨_, rfl⟩
        rw [← hp] at HA
        have HPE := Aside0.mk hp
        clear hp
        obtain ⟨A2, c2, B7, V7⟩ := HA.out
        replace B7 := blk_below B7 hbt
        have V7' := Aside0.mk (Kd.V_below V7 hbt)
        have V4' := Aside0.mk V4
        have HBT := Aside0.mk hbt
        have b12 := blk_below (blk_drew (blk_new (wr.alloc (Obj.cells #[Value.int IntKind.i64 xv.f0, Value.int IntKind.i64 xv.f1, Value.string xv.f2, Value.slice A3 xv.f3.length c3] 24)) (Obj.cells #[Value.string { data := #[] }, Value.slice none 0 0, Value.int IntKind.i64 0] 30))) hb4
        have B7' := Aside0.mk B7
        have b12' := Aside0.mk b12
        have d120 : w2.cell? ⟨wr.heap.size + 1, 0, none⟩ = some (.string ⟨#[]⟩) := by have := (blk_cell b12 0).trans rfl; simpa using this
        have d121 : w2.cell? ⟨wr.heap.size + 1, 1, none⟩ = some (.slice none 0 0) := by have := (blk_cell b12 1).trans rfl; simpa using this
        have d122 : w2.cell? ⟨wr.heap.size + 1, 2, none⟩ = some (.int .i64 0) := by have := (blk_cell b12 2).trans rfl; simpa using this
        have f12 : ∀ i, w2.frozen? ⟨wr.heap.size + 1, i, none⟩ = false := fun i => by have := blk_frozen b12 i; simpa using this
        have f7 : ∀ i, w2.frozen? ⟨w.heap.size + 1 + 1, i, none⟩ = false := fun i => blk_frozen B7 i
        have c70 : w2.cell? ⟨w.heap.size + 1 + 1, 0, none⟩ = some (.string p.1) := (blk_cell B7 0).trans rfl
        have c71 : w2.cell? ⟨w.heap.size + 1 + 1, 1, none⟩ = some (.slice A2 p.2.1.length c2) := (blk_cell B7 1).trans rfl
        have c72 : w2.cell? ⟨w.heap.size + 1 + 1, 2, none⟩ = some (.int .i64 p.2.2) := (blk_cell B7 2).trans rfl
        have hne : wr.heap.size + 1 ≠ w.heap.size + 1 + 1 := by have := HZ.out; have := HK.out.1; omega
        have hne' : w.heap.size + 1 + 1 ≠ wr.heap.size + 1 := by have := HZ.out; have := HK.out.1; omega
        replace V7' := Aside0.mk (show Kd.V k24 24 w2 w2.heap.size (fun k => k ≠ w.heap.size + 1 + 1 ∧ k ≠ w.heap.size ∧ k ≠ wr.heap.size + 1) (.slice A2 p.2.1.length c2) p.2.1 from Kd.V_mono (Kd.V_old V7 hbt) (fun k hk => ⟨hk.1.1, hk.1.2, by omega⟩))
        replace V4' := Aside0.mk (show Kd.V k24 24 w2 w2.heap.size (fun k => k ≠ w.heap.size + 1 + 1 ∧ k ≠ w.heap.size ∧ k ≠ wr.heap.size + 1) (.slice A4 q.2.1.length c4) q.2.1 from Kd.V_mono V4 (fun k hk => by have := HZ.out; have := HK.out.1; have := HB1.out.size; simp at hk; omega))
        have HPS := Aside0.mk (show p.1.size ≤ 9000 ∧ p.2.1.length ≤ 9000 ∧ (p.2.2 = 0 ∨ p.2.2 = 1) by
          have := colsN_fair (cmpV k) (ordG names vals r) names.length (fun i hi => by
            obtain ⟨a0, a1⟩ := HO.out.rng i (by have := HO.out.len; omega)
            exact cmpV_fair k _ (HC.out.pos _ (ord_name HC.out a0 a1)).2 _) x.toNat (by omega)
          rw [← HPE.out] at this
          obtain ⟨t1, t2, t3⟩ := this
          exact ⟨by omega, by omega, t3⟩)
        have HCP := Aside0.mk (show 0 < x → colsN (cmpV k) (ordG names vals r) (x + 1).toNat = ((p.1 ++ and5) ++ q.1, p.2.1 ++ q.2.1, mn p.2.2 q.2.2) by
          intro h
          rw [show (x + 1).toNat = x.toNat + 1 from by omega]
          simp only [colsN]
          rw [if_neg (by omega), ← HPE.out, HG.out, ← HQE.out])
        have HCZ := Aside0.mk (show ¬ 0 < x → colsN (cmpV k) (ordG names vals r) (x + 1).toNat = (p.1 ++ q.1, p.2.1 ++ q.2.1, mn p.2.2 q.2.2) by
          intro h
          rw [show (x + 1).toNat = x.toNat + 1 from by omega]
          simp only [colsN]
          rw [if_pos (by omega), ← HPE.out, HG.out, ← HQE.out])
        have HBS := Aside0.mk (show wr.heap.size + 1 + 1 ≤ w2.heap.size by have := blk_lt b12; have := hb4.size; simp at this; omega)
        have hn1 : w1.heap.size ≤ wr.heap.size + 1 := by have := HK.out.1; omega
        have hn0 : w.heap.size ≤ wr.heap.size + 1 := by have := HB1.out.size; omega
        have hn7 : w.heap.size ≤ w.heap.size + 1 + 1 := by omega
        have es := eq_false (show ¬ (9223372036854775807 < p.1.size + 5) by have := HPS.out.1; omega)
        clear B7 b12 V7 V4 hbt hb4
        by_cases hxp : (0 : Int) < x
        · replace HCP := Aside0.mk (HCP.out hxp)
          clear HCZ
          go_wp2_with fail
          refine (joined_any (p.1 ++ and5, p.2.1, p.2.2) q A2 A4 c2 c4 (fun k => k ≠ w.heap.size + 1 + 1 ∧ k ≠ w.heap.size ∧ k ≠ wr.heap.size + 1) _ (Kd.V_far (Kd.V_far (Kd.V_far (Kd.V_far V7'.out (fun k hk => hk.2.2) _) (fun k hk => hk.2.2) _) (fun k hk => hk.2.2) _) (fun k hk => hk.1) _) (Kd.V_far (Kd.V_far (Kd.V_far (Kd.V_far V4'.out (fun k hk => hk.2.2) _) (fun k hk => hk.2.2) _) (fun k hk => hk.2.2) _) (fun k hk => hk.1) _) (by rw [ByteArray.size_append, show and5.size = 5 from rfl]; have := HPS.out.1; omega) (by have := HQ.out.1; omega) (by have := HPS.out.2.1; show p.2.1.length ≤ _; omega) (by have := HQ.out.2.1; omega) (by have := HPS.out.2.2; show p.2.2 ≠ 2; omega) (by have := HQ.out.2.2; omega)).mono ?_
          rintro e w4 ⟨A5, c5, rfl, V5, hb5⟩
          have B8 := blk_below (show _ = some (Obj.cells #[.string (p.1 ++ and5), .slice A2 p.2.1.length c2, .int .i64 p.2.2] 30 (0, 0)) from blk_put (blk_far (blk_far (blk_far B7'.out hne' _) hne' _) hne' _) 0 _ rfl) hb5
          have V8 := Aside0.mk V5
          have K8 := Aside0.mk ((((((HK.out.below HBT.out).setNew hn1 _).setNew hn1 _).setNew hn1 _).set _ _).below hb5)
          have L8 := Aside0.mk (below_step (below_set (below_set (below_set (below_set (below_step HB1.out HBT.out) hn0) hn0) hn0) hn7) hb5)
          have S8 := Aside0.mk (show wr.heap.size + 1 + 1 ≤ w4.heap.size by have := hb5.size; have := HBS.out; simp at *; omega)
          have B8' := Aside0.mk B8
          have f8 : ∀ i, w4.frozen? ⟨w.heap.size + 1 + 1, i, none⟩ = false := fun i => blk_frozen B8 i
          have c80 := (blk_cell B8 0).trans rfl
          have c81 := (blk_cell B8 1).trans rfl
          have c82 := (blk_cell B8 2).trans rfl
          clear B8 V5 hb5
          go_wp2_with fail
          go_roundw
          case rel =>
            rw [← List.length_append]
            refine ⟨x + 1, rfl, ⟨by omega, by omega⟩, ⟨?_⟩, ⟨((K8.out.set _ _).set _ _).set _ _⟩, ⟨below_set (below_set (below_set L8.out hn7) hn7) hn7⟩⟩
            rw [HCP.out]
            refine ⟨A5, c5, blk_put (blk_put (blk_put B8'.out 0 _ rfl) 1 _ rfl) 2 _ rfl, ?_⟩
            refine Kd.V_far (Kd.V_far (Kd.V_far (Kd.V_mono V8.out (fun k hk => ?_)) (fun k hk => hk.1) _) (fun k hk => hk.1) _) (fun k hk => hk.1) _
            rcases hk with hk | hk
            · exact ⟨hk.1, hk.2.1⟩
            · have := HBS.out; have := HZ.out; have := HK.out.1; simp at hk; omega
          case measure => simp [intOf]; omega
        · replace HCZ := Aside0.mk (HCZ.out hxp)
          clear HCP
          go_wp2_with fail
          refine (joined_any p q A2 A4 c2 c4 (fun k => k ≠ w.heap.size + 1 + 1 ∧ k ≠ w.heap.size ∧ k ≠ wr.heap.size + 1) _ (Kd.V_far (Kd.V_far (Kd.V_far V7'.out (fun k hk => hk.2.2) _) (fun k hk => hk.2.2) _) (fun k hk => hk.2.2) _) (Kd.V_far (Kd.V_far (Kd.V_far V4'.out (fun k hk => hk.2.2) _) (fun k hk => hk.2.2) _) (fun k hk => hk.2.2) _) (by have := HPS.out.1; omega) (by have := HQ.out.1; omega) (by have := HPS.out.2.1; show p.2.1.length ≤ _; omega) (by have := HQ.out.2.1; omega) (by have := HPS.out.2.2; show p.2.2 ≠ 2; omega) (by have := HQ.out.2.2; omega)).mono ?_
          rintro e w4 ⟨A5, c5, rfl, V5, hb5⟩
          have B8 := blk_below (show _ = some (Obj.cells #[.string p.1, .slice A2 p.2.1.length c2, .int .i64 p.2.2] 30 (0, 0)) from blk_far (blk_far (blk_far B7'.out hne' _) hne' _) hne' _) hb5
          have V8 := Aside0.mk V5
          have K8 := Aside0.mk (((((HK.out.below HBT.out).setNew hn1 _).setNew hn1 _).setNew hn1 _).below hb5)
          have L8 := Aside0.mk (below_step (below_set (below_set (below_set (below_step HB1.out HBT.out) hn0) hn0) hn0) hb5)
          have S8 := Aside0.mk (show wr.heap.size + 1 + 1 ≤ w4.heap.size by have := hb5.size; have := HBS.out; simp at *; omega)
          have B8' := Aside0.mk B8
          have f8 : ∀ i, w4.frozen? ⟨w.heap.size + 1 + 1, i, none⟩ = false := fun i => blk_frozen B8 i
          have c80 := (blk_cell B8 0).trans rfl
          have c81 := (blk_cell B8 1).trans rfl
          have c82 := (blk_cell B8 2).trans rfl
          clear B8 V5 hb5
          go_wp2_with fail
          go_roundw
          case rel =>
            rw [← List.length_append]
            refine ⟨x + 1, rfl, ⟨by omega, by omega⟩, ⟨?_⟩, ⟨((K8.out.set _ _).set _ _).set _ _⟩, ⟨below_set (below_set (below_set L8.out hn7) hn7) hn7⟩⟩
            rw [HCZ.out]
            refine ⟨A5, c5, blk_put (blk_put (blk_put B8'.out 0 _ rfl) 1 _ rfl) 2 _ rfl, ?_⟩
            refine Kd.V_far (Kd.V_far (Kd.V_far (Kd.V_mono V8.out (fun k hk => ?_)) (fun k hk => hk.1) _) (fun k hk => hk.1) _) (fun k hk => hk.1) _
            rcases hk with hk | hk
            · exact ⟨hk.1, hk.2.1⟩
            · have := HBS.out; have := HZ.out; have := HK.out.1; simp at hk; omega
          case measure => simp [intOf]; omega
      · obtain rfl : x = names.length := by omega
        obtain ⟨A2, c2, B7, V7⟩ := HA.out
        rw [Int.toNat_natCast] at B7 V7
        have B6 := (HK.out.2 w.heap.size (by have := HZ.out; omega) (by omega)).trans G6.out
        have V7' := Aside0.mk V7
        have c70 := (blk_cell B7 0).trans rfl
        have c71 := (blk_cell B7 1).trans rfl
        have c72 := (blk_cell B7 2).trans rfl
        have c60 := (blk_cell B6 0).trans rfl
        have c61 := (blk_cell B6 1).trans rfl
        have c62 := (blk_cell B6 2).trans rfl
        have f6 : ∀ i, wr.frozen? ⟨w.heap.size, i, none⟩ = false := fun i => blk_frozen B6 i
        have B6' := Aside0.mk B6
        clear B6 B7 V7
        go_wp2_with fail
        have R6 : (((wr.setCell ⟨w.heap.size, 0, none⟩ (Value.string (colsN (cmpV k) (ordG names vals r) names.length).1)).setCell ⟨w.heap.size, 1, none⟩ (Value.slice A2 (colsN (cmpV k) (ordG names vals r) names.length).2.1.length c2)).setCell ⟨w.heap.size, 2, none⟩ (Value.int IntKind.i64 (colsN (cmpV k) (ordG names vals r) names.length).2.2)).heap[w.heap.size]? = some (Obj.cells #[Value.string (colsN (cmpV k) (ordG names vals r) names.length).1, Value.slice A2 (colsN (cmpV k) (ordG names vals r) names.length).2.1.length c2, Value.int IntKind.i64 (colsN (cmpV k) (ordG names vals r) names.length).2.2] 30 (0, 0)) := blk_put (blk_put (blk_put B6'.out 0 _ rfl) 1 _ rfl) 2 _ rfl
        have e0 := (blk_cell R6 0).trans rfl
        have e1 := (blk_cell R6 1).trans rfl
        have e2 := (blk_cell R6 2).trans rfl
        refine bodyPost_ret (v := .agg #[Value.string (colsN (cmpV k) (ordG names vals r) names.length).1, Value.slice A2 (colsN (cmpV k) (ordG names vals r) names.length).2.1.length c2, Value.int IntKind.i64 (colsN (cmpV k) (ordG names vals r) names.length).2.2]) (by simp [results, Try.results16, go_sem, e0, e1, e2]) rfl ⟨A2, c2, rfl, ?_, below_set (below_set (below_set HB1.out (Nat.le_refl _)) (Nat.le_refl _)) (Nat.le_refl _)⟩
        exact Kd.V_mono (Kd.V_far (Kd.V_far (Kd.V_far V7'.out (fun k hk => hk.2) _) (fun k hk => hk.2) _) (fun k hk => hk.2) _) (fun k _ => by omega)

end Go.Proofs.Ytagandfneflcbaa
