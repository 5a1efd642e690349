/- impl.tableOf at right names and values: a map of its own that holds each value under its name. Conditions: what the guard has looked at (CR). -/
import Derived.Test.YtagandfneflcbaaF
import Derived.Test.YtagandfneflcbaaC
import Derived.Maps.OwnSet
import Derived.Maps.OwnOps
import Derived.Sort.KeysCollected
namespace Go.Proofs.Ytagandfneflcbaa
open Go.RowKit Go.Proofs.YtagandfneflcbaaW.PrintWords Go.Proofs.YtagandfneflcbaaW.PrintLast Go.Proofs.YtagandfneflcbaaW.PrintMore
open Go.Proofs.Ytagandfneflcbaa.PFnLt
open Go.Maps

/-- An element of a map[string]interface{} is kept as it is. -/
def RH (v : Value) : Option (DataW Value × List MemPlace) := some (.held v, [])
def keyL (s : ByteArray) : Lit := .string s.data.toList
def mapTo (names : List ByteArray) (gs : List Value) (n : Nat) : DataW Value := ((names.zip gs).take n).foldl (fun D p => D.put (keyL p.1) (.held p.2)) (.map [])

theorem law9 : Keyed Try.prog 9 := string_keyed Try.underlying9
theorem zero20 (w : World) : (zeroValue 20).run Try.prog w = .ok .nilIface w := by kernel_rfl
theorem isKey (s : ByteArray) : WideAt.IsKeyLit (keyL s) := by unfold keyL; simp [WideAt.IsKeyLit]

theorem keyL_inj {s t : ByteArray} (h : keyL s = keyL t) : s = t := bytes_inj (by simpa [keyL] using h)

theorem mapTo_zero (names : List ByteArray) (gs : List Value) : mapTo names gs 0 = .map [] := rfl
theorem mapTo_succ {names : List ByteArray} {gs : List Value} (hg : gs.length = names.length) {n : Nat} (hn : n < names.length) : mapTo names gs (n + 1) = (mapTo names gs n).put (keyL names[n]) (.held (gs[n]'(by omega))) := by
  have hz : n < (names.zip gs).length := by rw [List.length_zip]; omega
  unfold mapTo
  rw [List.take_succ_eq_append_getElem hz, List.foldl_append]
  simp [List.getElem_zip]
theorem mapTo_isMap {names : List ByteArray} {gs : List Value} (hg : gs.length = names.length) : ∀ n, n ≤ names.length → IsMap (mapTo names gs n)
  | 0, _ => isMap_empty
  | n + 1, h => by rw [mapTo_succ hg (by omega)]; exact (mapTo_isMap hg n (by omega)).put _ _
theorem mapTo_has {names : List ByteArray} {gs : List Value} (hg : gs.length = names.length) (s : ByteArray) : ∀ n, n ≤ names.length → (has (mapTo names gs n) (keyL s) = true ↔ s ∈ names.take n)
  | 0, _ => by simp [mapTo_zero, has]
  | n + 1, h => by
    rw [mapTo_succ hg (by omega), List.take_succ_eq_append_getElem (by omega : n < names.length), List.mem_append, List.mem_singleton]
    by_cases e : s = names[n]
    · subst e
      simp [has_put_same (mapTo_isMap hg n (by omega)) (isKey _)]
    · rw [has_put_other (fun h => e (keyL_inj h)), mapTo_has hg s n (by omega)]
      simp [e]
theorem mapTo_at {names : List ByteArray} {gs : List Value} (hg : gs.length = names.length) (hd : names.Nodup) (z : DataW Value) (i : Nat) : ∀ n (hn : n ≤ names.length) (hi : i < n), (mapTo names gs n).atKey (keyL (names[i]'(by omega))) z = .held (gs[i]'(by omega))
  | 0, _, hi => by omega
  | n + 1, h, hi => by
    rw [mapTo_succ hg (by omega)]
    rcases Nat.lt_or_ge i n with hlt | hge
    · rw [atKey_put_other]
      · exact mapTo_at hg hd z i n (by omega) hlt
      · intro he
        exact absurd (keyL_inj he) ((List.pairwise_iff_getElem.1 hd) i n (by omega) (by omega) hlt)
    · obtain rfl : i = n := by omega
      exact atKey_put_same (mapTo_isMap hg i (by omega)) (isKey _) _ _

/-- The map that tableOf makes. -/
def tab (names : List ByteArray) (gs : List Value) : DataW Value := mapTo names gs names.length

theorem tab_perm {names : List ByteArray} {gs : List Value} (hg : gs.length = names.length) (hd : names.Nodup) {w : World} {b n : Nat} (hown : w.ownsMap Try.prog 9 RH b n (tab names gs)) : (names.map fun s => s.data.toList).Perm (strKeys (tab names gs)) := by
  refine Collected.perm (left := fun _ => false) ⟨?_, fun x => ?_⟩ hown law9 Try.underlying9 (fun _ => rfl)
  · exact List.pairwise_map.2 (hd.imp (fun h e => h (bytes_inj e)))
  · have := mapTo_has hg ⟨x.toArray⟩ names.length (Nat.le_refl _)
    rw [List.take_length] at this
    simp only [keyL] at this
    rw [show tab names gs = mapTo names gs names.length from rfl, this]
    simp only [and_true, List.mem_map]
    constructor
    · rintro ⟨s, hs, rfl⟩
      simpa using hs
    · intro h
      exact ⟨_, h, by simp⟩

/-- What a row of interface values holds, cell by cell. -/
def CellsAt (w : World) (A : Option Addr) (gs : List Value) : Prop := ∀ j u, gs[j]? = some u → ∃ ad, A = some ad ∧ w.cell? (ad.add j) = some u
theorem R_cells {w : World} {base : Nat} {ok : Nat → Prop} {v : Value} {xs : List IV} (h : kI.R 20 w base ok v xs) : ∃ A c gs, v = .slice A xs.length c ∧ gs.length = xs.length ∧ CellsAt w A gs ∧ ∀ (i : Nat) (hi : i < xs.length) (hi' : i < gs.length), kI.K w xs[i] [gs[i]] := by
  obtain ⟨A, c, rfl⟩ := Kd.R_slice h
  obtain ⟨_, inner, ho, hr⟩ := h
  have hlen : inner.length = xs.length := by have := ho.1; simp [kI] at this; exact this
  refine ⟨A, c, inner, rfl, hlen, fun j u hu => ?_, fun i hi hi' => ?_⟩
  · rcases ho.2 with ⟨hn, h0⟩ | ⟨g, cap, cur, hv, _⟩
    · rw [List.eq_nil_of_length_eq_zero (hlen.trans h0)] at hu
      simp at hu
    · have hA : A = some ⟨g, 0, none⟩ := by simpa using (Value.slice.inj hv).1
      subst hA
      exact ⟨_, rfl, ho.cells rfl j u hu⟩
  · have h2 := hr.2 i _ (List.getElem?_eq_getElem hi)
    have h3 : kI.M w base (fun k => ok k ∧ some k ≠ (Value.slice A xs.length c).ownBlock) xs[i] ((inner.drop (i * 1)).take 1) := h2
    rw [Nat.mul_one, List.drop_eq_getElem_cons hi', List.take_succ_cons, List.take_zero] at h3
    exact kI.K_of_M h3

def TabPost (names : List ByteArray) (vals : List S24) (w : World) (e : Ending) (w' : World) : Prop := ∃ b gs, e = .returned (.tuple #[.map (some b), .bool true]) ∧ gs.length = names.length ∧ w'.ownsMap Try.prog 9 RH b names.length (tab names gs) ∧
  (∀ (i : Nat) (hi : i < gs.length) (hi' : i < vals.length), kI.K w' (ofS vals[i]) [gs[i]]) ∧ w.heap.size ≤ b ∧ Below w.heap.size w w'

set_option maxRecDepth 100000 in
set_option maxHeartbeats 4000000 in
theorem tableOf_any (names : List ByteArray) (vals : List S24) (hcr : CR names vals) (NA VA : Option Addr) (nc vc : Nat) (w : World) (hN : Kd.C Kd.string w NA names.length names) (hV : Kd.C k24 w VA vals.length vals) :
    Calls Try.prog 38 #[.slice NA names.length nc, .slice VA vals.length vc] w (TabPost names vals w) := by
  have HN := Aside0.mk hN
  have HV := Aside0.mk hV
  have HC := Aside0.mk hcr
  have hn8 : (names.length : Int) ≤ 8 := by have := hcr.n8; omega
  have hvn := hcr.vn
  have hmm := @run_makeMap Try.prog
  clear hN hV hcr
  rw [hvn]
  have HVN := Aside0.mk hvn
  clear hvn
  go_enter Try.func38, Try.ntmps38
  go_wp2_with fail
  rw [← HVN.out]
  refine (goList_any vals HC.out.vr (by have := HVN.out; omega) VA vc _ HV.out).mono ?_
  rintro e w1 ⟨v, rfl, hr, hb⟩
  obtain ⟨A, c, gs, rfl, hgl, hcells, hK⟩ := R_cells hr
  rw [List.length_map, HVN.out]
  have HG := Aside0.mk (show gs.length = names.length by rw [hgl, List.length_map, HVN.out])
  have HCE := Aside0.mk hcells
  have HKK := Aside0.mk hK
  have HB := Aside0.mk hb
  clear hr hgl hcells hK hb
  go_wp2_with fail
  go_loopw [30] (fun i wr => ∃ x : Int, i = .int .i64 x ∧ (0 ≤ x ∧ x ≤ names.length) ∧ Aside0 (wr.ownsMap Try.prog 9 RH w1.heap.size x.toNat (mapTo names gs x.toNat)) ∧ Aside0 (Below w1.heap.size w1 wr)) (fun i _ => names.length - (intOf i).toNat)
  case atStart => exact ⟨0, rfl, ⟨by omega, by omega⟩, ⟨World.ownsMap_made _ _ _ _⟩, ⟨(Below.refl _ _).alloc (Nat.le_refl _) _⟩⟩
  case round =>
    clear hmm
    obtain ⟨x, rfl, ⟨hx0, hxn⟩, HO, HB1⟩ := hrel
    by_cases hlt : x < names.length
    · obtain ⟨ad, e, x0⟩ := Kd.at_string HN.out x hx0 hlt
      cases e
      replace x0 := ((below_step HB.out HB1.out).cell (World.block_lt_of_cell? w _ x0)).trans x0
      obtain ⟨s, hs⟩ : ∃ s, s = rdOf ByteArray.empty names x := ⟨_, rfl⟩
      rw [← hs] at x0
      have hxt : x.toNat < names.length := by omega
      have hs2 : names[x.toNat] = s := by rw [hs]; simp [rdOf, List.getD_eq_getElem?_getD, List.getElem?_eq_getElem hxt]
      have hsz : s.size ≤ 40 := (HC.out.pos s (by rw [← hs2]; exact List.getElem_mem hxt)).2
      have HKEY := Aside0.mk (WideMaps.keyOf_string_mk (P := Try.prog) Try.underlying9 (s := s) (by unfold maxLen; omega))
      have hxg : x.toNat < gs.length := by rw [HG.out]; exact hxt
      obtain ⟨g, hg⟩ : ∃ g, g = gs[x.toNat] := ⟨_, rfl⟩
      obtain ⟨adg, eg, xg⟩ := HCE.out x.toNat g (by rw [hg]; exact List.getElem?_eq_getElem hxg)
      cases eg
      replace xg := (HB1.out.cell (World.block_lt_of_cell? w1 _ xg)).trans xg
      have HH := Aside0.mk (show has (mapTo names gs x.toNat) (keyL s) = false by
        rw [Bool.eq_false_iff]
        intro h
        have h2 := (mapTo_has HG.out s x.toNat (by omega)).1 h
        rw [← hs2] at h2
        obtain ⟨j, hj, he⟩ := List.getElem_of_mem h2
        rw [List.length_take] at hj
        rw [List.getElem_take] at he
        exact absurd he ((List.pairwise_iff_getElem.1 HC.out.nd) j x.toNat (by omega) hxt (by omega)))
      have HST := Aside0.mk (show mapTo names gs (x + 1).toNat = (mapTo names gs x.toNat).put (keyL s) (.held g) by
        rw [show (x + 1).toNat = x.toNat + 1 from by omega, mapTo_succ HG.out hxt, hs2, hg])
      have HX := Aside0.mk (show x.toNat + 1 = (x + 1).toNat from by omega)
      clear hs hs2 hg hxg
      go_wp2_with (first | (at_lookup; refine wpList_lookup_own_ok _ rfl _ _ 53 rfl 9 20 law9 Try.underlying53 RH (zero20 _) (.held .nilIface) [] rfl w1.heap.size x.toNat (mapTo names gs x.toNat) rfl HO.out (.string s) (keyL s) rfl HKEY.out ?_; intro v ps hv; rw [HH.out]; clear hv) | (at_mapUpdate; refine wpList_mapUpdate_own _ rfl _ _ _ 53 rfl 9 20 law9 Try.underlying53 RH w1.heap.size x.toNat (mapTo names gs x.toNat) rfl HO.out (by unfold maxLen; omega) (.string s) g (keyL s) rfl rfl HKEY.out (.held g) [] rfl ?_; intro w3 ho hgr; have HO3 := Aside0.mk ho; have HB3 := Aside0.mk (HB1.out.grown hgr HB1.out.size (fun k hk => by cases hk; exact Nat.le_refl _)); clear ho hgr))
      go_roundw
      case rel => exact ⟨x + 1, rfl, ⟨by omega, by omega⟩, ⟨by rw [HST.out, ← HX.out]; exact HO3.out⟩, HB3⟩
      case measure => simp [intOf]; omega
    · obtain rfl : x = names.length := by omega
      go_wp2_with fail
      go_ret2
      exact ⟨w1.heap.size, gs, rfl, HG.out, by have := HO.out; rwa [Int.toNat_natCast] at this, fun i hi hi' => by
        have hi2 : i < (vals.map ofS).length := by rw [List.length_map]; exact hi'
        have := HKK.out i hi2 hi
        rw [List.getElem_map] at this
        exact kI.K_below HB1.out this, HB.out.size, below_step HB.out HB1.out⟩

end Go.Proofs.Ytagandfneflcbaa
