/- impl.valueOf and impl.valuesOf, lists among the values. Conditions: the interface values are of the kinds that impl.goOf makes. -/
import Derived.Test.YtagandfneflcbaaK
import Derived.Test.YtagandfneflcbaaF
namespace Go.Proofs.Ytagandfneflcbaa
open Go.RowKit Go.Proofs.YtagandfneflcbaaW.PrintWords Go.Proofs.YtagandfneflcbaaW.PrintLast Go.Proofs.YtagandfneflcbaaW.PrintMore
open Go.Proofs.Ytagandfneflcbaa.PFnLt

def ValPostL (x : S24) (w : World) (e : Ending) (w' : World) : Prop := ∃ v, e = .returned (aggOf x v) ∧ k24.R 24 w' w.heap.size (fun _ => True) v x.f3 ∧ Below w.heap.size w w'

theorem valueOf_lst (l : List I0) (hs : l.length ≤ 1000) (A : Option Addr) (c : Nat) (w : World) (hC : kI0.C w A l.length l) :
    Calls Try.prog 70 #[.iface 57 (.slice A l.length c)] w (ValPostL (toS (.lst l)) w) := by
  have HC := Aside0.mk hC
  have HS := Aside0.mk hs
  clear hC hs
  go_enter Try.func70, Try.ntmps70
  go_wp2_with fail
  refine (valuesOf_flat l HS.out A c _ (Kd.C_alloc HC.out _)).mono ?_
  rintro e w2 ⟨v, rfl, hr, hb⟩
  obtain ⟨A2, c2, rfl⟩ := Kd.R_slice hr
  have b2 := blk_below (blk_new w (Obj.cells #[Value.int .i64 0, Value.int .i64 0, Value.string ⟨#[]⟩, Value.slice none 0 0] 24)) hb
  have HR := Aside0.mk hr
  have HB := Aside0.mk (below_step ((Below.refl w.heap.size w).alloc (Nat.le_refl _) _) hb)
  have B2 := Aside0.mk b2
  have f2 : ∀ i, w2.frozen? ⟨w.heap.size, i, none⟩ = false := fun i => blk_frozen b2 i
  have d0 : w2.cell? ⟨w.heap.size, 0, none⟩ = some (.int .i64 0) := (blk_cell b2 0).trans rfl
  have d1 : w2.cell? ⟨w.heap.size, 1, none⟩ = some (.int .i64 0) := (blk_cell b2 1).trans rfl
  have d2 : w2.cell? ⟨w.heap.size, 2, none⟩ = some (.string ⟨#[]⟩) := (blk_cell b2 2).trans rfl
  have d3 : w2.cell? ⟨w.heap.size, 3, none⟩ = some (.slice none 0 0) := (blk_cell b2 3).trans rfl
  clear b2 hr hb
  go_wp2_with fail
  have R6 := blk_put (blk_put (blk_put (blk_put B2.out 0 (.int .i64 5) rfl) 1 (.int .i64 0) rfl) 2 (.string ⟨#[]⟩) rfl) 3 (.slice A2 l.length c2) rfl
  have e0 := (blk_cell R6 0).trans rfl
  have e1 := (blk_cell R6 1).trans rfl
  have e2 := (blk_cell R6 2).trans rfl
  have e3 := (blk_cell R6 3).trans rfl
  have hr2 := Kd.R_mono (ok' := fun k => k ≠ w.heap.size) (Kd.R_bound HR.out) (fun k hk => by have := hk.2.1; simp at this; omega)
  have hr3 := Kd.R_far (Kd.R_far (Kd.R_far (Kd.R_far hr2 (p := ⟨w.heap.size, 0, none⟩) (fun k hk => hk) (.int .i64 5)) (p := ⟨w.heap.size, 1, none⟩) (fun k hk => hk) (.int .i64 0)) (p := ⟨w.heap.size, 2, none⟩) (fun k hk => hk) (.string ⟨#[]⟩)) (p := ⟨w.heap.size, 3, none⟩) (fun k hk => hk) (.slice A2 l.length c2)
  rw [List.length_map] at hr3
  refine bodyPost_ret (v := aggOf (toS (.lst l)) (.slice A2 l.length c2)) (by simp [results, Try.results70, go_sem, e0, e1, e2, e3, aggOf, toS]) rfl ⟨_, rfl, Kd.R_lower (Kd.R_mono hr3 (fun _ _ => trivial)) (by simp), below_set (below_set (below_set (below_set HB.out (Nat.le_refl _)) (Nat.le_refl _)) (Nat.le_refl _)) (Nat.le_refl _)⟩

theorem toS_lst_f3 (s : List I0) : (toS (.lst s)).f3 = s.map toS0 := rfl
theorem valueOf_any (x : IV) (hx : ∀ s, x = .lst s → s.length ≤ 1000) (g : Value) (w : World) (hK : kI.K w x [g]) : Calls Try.prog 70 #[g] w (ValPostL (toS x) w) := by
  cases x with
  | sc y =>
    obtain rfl : g = enc0 y := by have h3 : [g] = [enc0 y] := hK; simpa using h3
    refine (valueOf_sc y w).mono ?_
    rintro e w' ⟨rfl, hb⟩
    refine ⟨.slice none 0 0, rfl, ?_, hb⟩
    rw [show (toS (.sc y)).f3 = [] from toS0_f3 y]
    exact Kd.R_nil _ _ _ _ _
  | lst s =>
    obtain ⟨A, c, h2, _, hC⟩ := hK
    obtain rfl : g = .iface 57 (.slice A s.length c) := by simpa using h2
    exact valueOf_lst s (hx s rfl) A c w hC

set_option maxRecDepth 100000 in
set_option maxHeartbeats 4000000 in
theorem valuesOf_any (l : List IV) (hs : l.length ≤ 1000) (hx : ∀ x, x ∈ l → ∀ s, x = .lst s → s.length ≤ 1000) (A : Option Addr) (c : Nat) (w : World) (hC : kI.C w A l.length l) :
    Calls Try.prog 61 #[.slice A l.length c] w (ValsPost (l.map toS) w) := by
  have HC := Aside0.mk hC
  have HX := Aside0.mk hx
  have HS : (l.length : Int) ≤ 1000 := by omega
  clear hC hs hx
  go_enter Try.func61, Try.ntmps61
  go_wp2_with fail
  go_loopw [3, 8] (fun v i wr => ∃ (u : Value) (x : Int), u = v ∧ i = .int .i64 x ∧ (0 ≤ x ∧ x ≤ l.length) ∧ Aside0 (k24.R 24 wr w.heap.size (fun _ => True) u ((l.take x.toNat).map toS)) ∧ Aside0 (Below w.heap.size w wr)) (fun _ i _ => l.length - (intOf i).toNat)
  case atStart => exact ⟨_, 0, rfl, rfl, ⟨by omega, by omega⟩, ⟨Kd.R_nil _ _ _ _ _⟩, ⟨Below.refl _ _⟩⟩
  case round =>
    obtain ⟨u, x, rfl, rfl, ⟨hx0, hxn⟩, HO, HB⟩ := hrel
    by_cases hlt : x < l.length
    · obtain ⟨ad, cs, e, hcl, hK, hcell⟩ := ReadsRow.get_ (Kd.C_below HC.out HB.out) (IV.sc .nil) x hx0 hlt
      obtain ⟨g, rfl⟩ : ∃ g, cs = [g] := by
        match cs, hcl with
        | [g], _ => exact ⟨g, rfl⟩
      cases e
      have x0 : wr.cell? (ad.add x.toNat) = some g := by
        have := hcell 0 g rfl
        rwa [show kI.sz = 1 from rfl, Nat.mul_one, Nat.add_zero] at this
      have hmem : l.getD x.toNat (IV.sc .nil) ∈ l := by
        have hxt : x.toNat < l.length := by omega
        rw [List.getD_eq_getElem?_getD, List.getElem?_eq_getElem hxt]
        exact List.getElem_mem hxt
      have HKX := Aside0.mk hK
      have HSX := Aside0.mk (HX.out _ hmem)
      obtain ⟨xi, hxi⟩ : ∃ xi, xi = l.getD x.toNat (IV.sc .nil) := ⟨_, rfl⟩
      rw [← hxi] at HKX HSX
      have HXI := Aside0.mk hxi
      clear hK hcell hmem hxi hcl
      go_wp2_with fail
      refine (valueOf_any xi HSX.out g _ HKX.out).mono ?_
      rintro e w2 ⟨vx, rfl, hr, hb⟩
      obtain ⟨inner, ho⟩ := Kd.R_own HO.out
      have hvx : k24.R 24 w2 w.heap.size (fun k => True ∧ some k ≠ u.ownBlock) vx (toS xi).f3 := Kd.R_lower (Kd.R_mono (Kd.R_bound hr) (fun k hk => ⟨trivial, fun he => by have := own_lt ho k he.symm; have := hk.2.1; omega⟩)) HB.out.size
      obtain ⟨A2, c2, rfl⟩ := Kd.R_slice hr
      have HVX := Aside0.mk hvx
      have HO2 := Aside0.mk (Kd.R_below HO.out hb)
      have HB2 := Aside0.mk (below_step HB.out hb)
      clear hb x0 hr hvx ho
      unfold aggOf
      go_wp2_with (first | ((with_reducible refine gate_builtin (b := .append) (xs := #[.tmp 12, .tmp 15]) rfl ?_); at_builtin; go_loud (refine Kd.R_append k24 (w0 := w) w.heap.size rfl (.tmp 12) (.tmp 15) 22 24 (.agg #[.int .i64 0, .int .i64 0, .string ⟨#[]⟩, .slice none 0 0]) 56 rfl Try.underlying22 info24 rfl (by decide) (by omega) u ((l.take x.toNat).map toS) (toS xi) [.int .i64 (toS xi).f0, .int .i64 (toS xi).f1, .string (toS xi).f2, .slice A2 (toS xi).f3.length c2] (fun _ => True) (fun k => True ∧ some k ≠ u.ownBlock) rfl rfl ?aP (fun _ hk => hk) (fun _ _ => trivial) ?aO ?aB ?aS ?aL ?_; (case aP => exact k24_mkM _ _ _ _ HVX.out); (case aO => exact HO2.out); (case aB => exact HB2.out); (case aS => exact HB2.out.size); (case aL => (rw [List.length_map, List.length_take]; omega)); intro v1 w3 ho hb hg hat; have HO3 := Aside0.mk ho; have HB3 := Aside0.mk hb; clear ho hb hg hat)))
      go_roundw
      case rel => exact ⟨_, x + 1, rfl, rfl, ⟨by omega, by omega⟩, ⟨by rw [take_upI toS (IV.sc .nil) l x hx0 hlt, show rdOf (IV.sc .nil) l x = xi from HXI.out.symm]; exact HO3.out⟩, HB3⟩
      case measure => simp [intOf]; omega
    · obtain rfl : x = l.length := by omega
      go_wp2_with fail
      go_ret
      exact ⟨_, rfl, by have := HO.out; rwa [Int.toNat_natCast, List.take_length] at this, HB.out⟩

end Go.Proofs.Ytagandfneflcbaa
