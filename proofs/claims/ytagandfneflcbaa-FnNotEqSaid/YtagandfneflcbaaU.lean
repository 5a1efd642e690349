/- squirrel's getSortedKeys: a map's keys, sorted. Conditions: the map is the call's own, of at most eight keys. -/
import Derived.Test.YtagandfneflcbaaN
import Derived.Test.YtagandfneflcbaaShelf
import Derived.Sort.OwnSorted
namespace Go.Proofs.Ytagandfneflcbaa
open Go.RowKit Go.Proofs.YtagandfneflcbaaW.PrintWords Go.Proofs.YtagandfneflcbaaW.PrintLast Go.Proofs.YtagandfneflcbaaW.PrintMore
open Go.Proofs.Ytagandfneflcbaa.PFnLt
open Go.Maps Go.Sort

def bytesOf (s : ByteArray) : List UInt8 := s.data.toList
def ofBytes (l : List UInt8) : ByteArray := ⟨l.toArray⟩
theorem of_bytes (s : ByteArray) : ofBytes (bytesOf s) = s := rfl
theorem bytes_of (l : List UInt8) : bytesOf (ofBytes l) = l := by simp [bytesOf, ofBytes]
def sortedN (names : List ByteArray) : List ByteArray := ((names.map bytesOf).mergeSort fun x y => decide (x ≤ y)).map ofBytes
theorem sortedN_length (names : List ByteArray) : (sortedN names).length = names.length := by simp [sortedN]

def KeysPost (names : List ByteArray) (w : World) (e : Ending) (w' : World) : Prop := ∃ A c, e = .returned (.slice A names.length c) ∧ Kd.string.C w' A names.length (sortedN names) ∧ Below w.heap.size w w'

theorem keyL_bytes (x : ByteArray) : keyL x = .string (bytesOf x) := rfl

theorem C_own {w : World} {base n c m : Nat} {A : Option Addr} {xs : List ByteArray} (h : w.ownsRow base 9 1 (.slice A m c) n (xs.map Value.string)) (hl : xs.length ≤ 1000000) : Kd.string.C w A xs.length xs := by
  refine ⟨rfl, by omega, fun hn => ?_⟩
  rcases h.2 with ⟨hv, h0⟩ | ⟨g, cap, cur, hv, _⟩
  · have := h.1; rw [h0, List.length_map] at this; omega
  · obtain rfl : A = some ⟨g, 0, none⟩ := by simpa using (Value.slice.inj hv).1
    refine ⟨_, rfl, fun j p hj => ⟨[.string p], rfl, rfl, fun i u hi => ?_⟩⟩
    have hi0 : i = 0 := by have := (List.getElem?_eq_some_iff.1 hi).1; simpa using this
    subst hi0
    have hu : u = .string p := by simpa using hi.symm
    subst hu
    have := h.cells rfl j (.string p) (by rw [List.getElem?_map, hj]; rfl)
    rw [show Kd.string.sz = 1 from rfl, Nat.mul_one, Nat.add_zero]
    exact this

set_option maxRecDepth 100000 in
set_option maxHeartbeats 4000000 in
theorem keys_any (names : List ByteArray) (h8 : names.length ≤ 8) (hnd : names.Nodup) (gs : List Value) (hg : gs.length = names.length) (b : Nat) (w : World) (hm : w.ownsMap Try.prog 9 RH b names.length (tab names gs)) :
    Calls Try.prog 74 #[.map (some b)] w (KeysPost names w) := by
  have HM := Aside0.mk hm
  have HS := Aside0.mk hm.size_le
  have hs8 : (Maps.size (tab names gs) : Int) ≤ 8 := by have := hm.size_le; omega
  have HG := Aside0.mk hg
  clear hm hg
  obtain ⟨i, hi, hi2⟩ := Option.map_eq_some_iff.1 info9
  simp only [Prod.mk.injEq] at hi2
  obtain ⟨hz, hsz, hbt⟩ := hi2
  obtain ⟨w1, hmk, hown1, hgr1⟩ := run_makeSlice_owned w w.heap.size 27 9 i _ 1 Try.underlying27 hi hz hsz .i64 .i64 (Maps.size (tab names gs)) (by omega) (by rw [hbt]; omega) (by unfold maxLen; omega) (Nat.le_refl _)
  have HM1 := Aside0.mk (HM.out.kept hgr1 (by simp))
  have HW1 := Aside0.mk hown1
  have HB1 := Aside0.mk ((Below.refl w.heap.size w).grown hgr1 (Nat.le_refl _) (fun k hk => by cases hk))
  clear hi hz hsz hbt hown1 hgr1
  go_enter Try.func74, Try.ntmps74
  go_wp2_with (first | (at_len; refine wpList_len_own _ rfl _ 53 rfl 9 20 Try.underlying53 RH b names.length (tab names gs) rfl HM.out ?_) | (at_range; refine wpList_range_own _ rfl _ 53 rfl 9 20 law9 Try.underlying53 RH b names.length (tab names gs) rfl HM1.out ?_; go_loud (intro w0 hrg0 hg0 hs0; have HRG := Aside0.mk hrg0; have HB0 := Aside0.mk (HB1.out.grown hg0 HB1.out.size (fun k hk => by cases hk)); have HW0 := Aside0.mk (HW1.out.kept hg0 (.inr (by simp [Value.ownBlock]))); clear hrg0 hg0 hs0)))
  clear hmk
  go_frame
  go_loopw [3] (fun v wr => ∃ (u : Value) (ss : List ByteArray) (left : Lit → Bool) (cnt : Nat), u = v ∧ (∃ g, u.ownBlock = some g) ∧ Aside0 (ss.length + cnt ≤ names.length) ∧ Aside0 (Kd.string.R 9 wr w.heap.size (fun _ => True) u ss) ∧ Aside0 (wr.ranges Try.prog 9 RH b w1.heap.size names.length (tab names gs) left cnt) ∧ Aside0 (Collected (tab names gs) left (ss.map bytesOf)) ∧ Aside0 (Below w.heap.size w wr)) (fun _ wr => wr.rangeLeft b w1.heap.size)
  case atStart => exact ⟨_, [], _, _, rfl, ⟨_, rfl⟩, ⟨by simpa using HS.out⟩, ⟨⟨fun _ _ => trivial, [], HW0.out, rfl, fun j p hj => by simp at hj⟩⟩, HRG, ⟨Collected.start _⟩, HB0⟩
  case round =>
    obtain ⟨u, ss, left, cnt, rfl, ⟨g, hg⟩, HLN, HR, HRA, HCO, HB⟩ := hrel
    have hbk : ∀ k, u.ownBlock = some k → b ≠ k := fun k hk => by have := Kd.R_base HR.out k hk; have := HM.out.lt; omega
    have HBK := Aside0.mk hbk
    have HRI := Aside0.mk (row_ne_iter (Kd.own_of_R HR.out) HRA.out)
    have HLE := Aside0.mk HRA.out.left_eq
    have hg8 : ss.length ≤ 1000000 := by have := HLN.out; omega
    clear hbk
    go_wp2_with (first | (at_next; go_loud (refine wpList_next_ranges _ rfl _ rfl 9 law9 RH Value.string id (fun key kl hkey => enter_str hkey) (fun v y _ => ⟨v, rfl⟩) b w1.heap.size names.length (tab names gs) _ _ rfl HRA.out ?_ ?_; (intro hc0 hl0; have HL0 := Aside0.mk hl0; clear hc0 hl0); rotate_left; (rintro nm c kl ⟨da, lm⟩ w2 cnt1 hk hh hR hat hrg1 hlt hg1 hs1 hen; obtain rfl : kl = keyL nm := key_str hk; have HR1 := Aside0.mk hrg1; have HB2 := Aside0.mk (HB.out.grown hg1 HB.out.size (fun k hk => by cases hk; exact HB1.out.size)); have HW2 := Aside0.mk (Kd.R_grown1 HR.out rfl hg1 HRI.out); have HCO1 := Aside0.mk (HCO.out.step hh hat); have HLT := Aside0.mk hlt; clear hk hh hR hat hrg1 hlt hg1 hs1); rotate_left)) | ((with_reducible refine gate_builtin (b := .append) (xs := #[.tmp 14, .tmp 16]) rfl ?_); at_builtin; go_loud (refine Kd.R_append Kd.string (w0 := w) w.heap.size rfl (.tmp 14) (.tmp 16) 27 9 (.string ⟨#[]⟩) 16 rfl Try.underlying27 info9 rfl (by decide) (by omega) u ss nm [Value.string nm] (fun _ => True) (fun k => True ∧ some k ≠ u.ownBlock) rfl rfl ?aP (fun _ hk => hk) (fun _ _ => trivial) ?aO ?aB ?aS ?aL ?_; (case aP => exact rfl); (case aO => exact HW2.out); (case aB => exact HB2.out); (case aS => exact HB2.out.size); (case aL => omega); intro v2 w4 ho hb hg1 hat1; have HO4 := Aside0.mk ho; have HB4 := Aside0.mk hb; have HG4 := Aside0.mk hg1; have HA4 := Aside0.mk hat1; clear ho hb hg1 hat1)))
    · have hP1 := HCO.out.perm HRA.out.owns law9 Try.underlying9 HL0.out
      have hP2 := tab_perm HG.out hnd HM.out
      have hP : (ss.map bytesOf).Perm (names.map bytesOf) := hP1.trans hP2.symm
      have hlen : ss.length = names.length := by have := hP.length_eq; simpa using this
      have hsort : ((ss.map bytesOf).mergeSort fun x y => decide (x ≤ y)) = (names.map bytesOf).mergeSort fun x y => decide (x ≤ y) := mergeSort_of_perm hP
      have hown := Kd.own_of_R HR.out
      have hown2 := hown.2
      rcases hown2 with ⟨rfl, _⟩ | ⟨g2, cap, cur, rfl, hbase, hbk, h1, h2, h3, h4⟩
      · simp [Value.ownBlock] at hg
      · have henc : encs Value.string ss = (ss.map bytesOf).map encStr := by simp [encs, bytesOf, encStr]
        have hcall := Try.sort_Strings g2 0 cap (ss.map bytesOf) wr (holds_of_block hbk (by rw [List.length_map, ← henc]; simpa using h4)) (Array.getElem?_eq_some_iff.1 hbk).1 (by rw [List.length_map]; omega)
        rw [List.length_map] at hcall
        refine hcall.mono ?_
        rintro e w5 ⟨rfl, n5, os5, rfl⟩
        have hw5 := ownsRow_sorted (n := n5) (os := os5) (ss := ss.map bytesOf) (ts := (ss.map bytesOf).mergeSort fun x y => decide (x ≤ y)) (by simp) hbase hbk (by simpa using h1) h2 h3
        have hgr5 := grownBy_sorted (w := wr) (g := g2) (n := n5) (os := os5) ((ss.map bytesOf).mergeSort fun x y => decide (x ≤ y)).toArray
        have HB5 := Aside0.mk (HB.out.grown hgr5 HB.out.size (fun k hk => by cases hk; exact hbase))
        have HC5 := Aside0.mk (C_own (xs := sortedN names) (by
          rw [show (sortedN names).map Value.string = ((ss.map bytesOf).mergeSort fun x y => decide (x ≤ y)).map encStr by rw [hsort]; simp [sortedN, ofBytes, encStr]]
          exact hw5) (by rw [sortedN_length]; omega))
        have HLEN := Aside0.mk hlen
        generalize grow (putRow encStr (Sort.ahead wr n5) g2 0 ((ss.map bytesOf).mergeSort fun x y => decide (x ≤ y)).toArray) os5 = w5 at HB5 HC5 ⊢
        clear hw5 hgr5 hcall hown hP hP1 hP2 hsort henc h1 h2 h3 h4 hbk hlen
        go_wp2_with fail
        go_ret
        rw [HLEN.out]
        have := HC5.out
        rw [sortedN_length] at this
        exact ⟨_, _, rfl, this, HB5.out⟩
    · have hrg4 := HR1.out.kept HG4.out (by
        intro e
        exact HBK.out b e.symm rfl) HRI.out
      refine ⟨⟨_, ss ++ [nm], _, cnt1, rfl, ?_, ⟨by have := HLN.out; have := HLT.out; simp; omega⟩, HO4, ⟨hrg4⟩, ⟨by rw [List.map_append]; exact HCO1.out⟩, HB4⟩, ?_⟩
      · rcases HA4.out with h | ⟨k, h, _⟩
        · exact ⟨g, h.trans hg⟩
        · exact ⟨k, h⟩
      · rw [hrg4.left_eq, HLE.out]
        exact HLT.out

end Go.Proofs.Ytagandfneflcbaa
