/- Plain laws: the reference's order of the columns is that of their names, sorted; what colsN says of columns that are all said. No program in sight. -/
import Derived.Test.YtagandfneflcbaaU
import Derived.Test.YtagandfneflcbaaM
import Derived.Test.YtagandfneflcbaaPFnLtx5
import Derived.Lib.Join
namespace Go.Proofs.Ytagandfneflcbaa
open Go.RowKit Go.Proofs.YtagandfneflcbaaW.PrintWords Go.Proofs.YtagandfneflcbaaW.PrintLast Go.Proofs.YtagandfneflcbaaW.PrintMore
open Go.Proofs.Ytagandfneflcbaa.PFnLt
open Go.Maps Go.Sort

def keyN (names : List ByteArray) (j : Int) : List UInt8 := bytesOf (rdOf ByteArray.empty names j)
/-- x3 lists the first m columns, in the order of their names. -/
structure Good (names : List ByteArray) (x3 : List Int) (m : Nat) : Prop where
  perm : x3.Perm ((List.range m).map Int.ofNat)
  srt : x3.Pairwise fun i j => keyN names i ≤ keyN names j

theorem good_rng {m n : Nat} {x3 : List Int} (h : x3.Perm ((List.range m).map Int.ofNat)) (hm : m ≤ n) : ∀ j, j ∈ x3 → 0 ≤ j ∧ j < n := by
  intro j hj
  have := h.mem_iff.1 hj
  simp only [List.mem_map, List.mem_range] at this
  obtain ⟨i, hi, rfl⟩ := this
  exact ⟨Int.natCast_nonneg i, by simp; omega⟩

theorem rd_mid (a b : List Int) (e : Int) : rd (a ++ e :: b) (a.length : Int) = e := by
  simp [YtagandfneflcbaaW.PrintWords.rd, List.getD_eq_getElem?_getD]

section
variable (names : List ByteArray)
set_option maxRecDepth 10000 in
theorem l1_tells (hn : names.length ≤ 8) (m : Nat) (hm : m < names.length)
    (next : ∀ x3, Good names x3 (m + 1) → ∃ k r, spec_ByName.l0 k names x3 (m + 1 : Int) = some r ∧ Good names r names.length) :
    ∀ (d : Nat) (a b : List Int) (e : Int), a.length = d → (a ++ e :: b).Perm ((List.range (m + 1)).map Int.ofNat) → (a ++ b).Pairwise (fun i j => keyN names i ≤ keyN names j) → (∀ x, x ∈ b → keyN names e ≤ keyN names x) →
      ∃ k r, spec_ByName.l1 k names (a ++ e :: b) (m : Int) (d : Int) = some r ∧ Good names r names.length
  | 0, a, b, e, ha, hp, hs, hb => by
    obtain rfl := List.eq_nil_of_length_eq_zero ha
    obtain ⟨k, r, h1, h2⟩ := next (e :: b) ⟨hp, List.pairwise_cons.2 ⟨fun x hx => hb x hx, hs⟩⟩
    refine ⟨k + 1, r, ?_, h2⟩
    simp only [spec_ByName.l1, List.nil_append]
    rw [if_neg (by decide), show wrap64 ((m : Int) + 1) = (m : Int) + 1 from by unfold wrap64; omega]
    exact h1
  | d + 1, a, b, e, ha, hp, hs, hb => by
    obtain ⟨a', c, rfl⟩ : ∃ a' c, a = a' ++ [c] := by
      rcases List.eq_nil_or_concat a with h | ⟨l, x, h⟩
      · rw [h] at ha; simp at ha
      · exact ⟨l, x, by simpa using h⟩
    have hd : a'.length = d := by simp at ha; exact ha
    have hlen : (a' ++ [c] ++ e :: b).length = m + 1 := by rw [hp.length_eq]; simp
    have hre : rd (a' ++ [c] ++ e :: b) ((d + 1 : Nat) : Int) = e := by
      have := rd_mid (a' ++ [c]) b e
      rwa [ha] at this
    have hrc : rd (a' ++ [c] ++ e :: b) (wrap64 (((d + 1 : Nat) : Int) - 1)) = c := by
      have hw : wrap64 (((d + 1 : Nat) : Int) - 1) = (a'.length : Int) := by
        have : d + 1 ≤ 8 := by simp at hlen; omega
        unfold wrap64; omega
      rw [hw]
      have := rd_mid a' (e :: b) c
      simpa using this
    have hw : wrap64 (((d + 1 : Nat) : Int) - 1) = (d : Int) := by
      have : d + 1 ≤ 8 := by simp at hlen; omega
      unfold wrap64; omega
    have he := good_rng hp (show m + 1 ≤ names.length by omega) e (by simp)
    have hc := good_rng hp (show m + 1 ≤ names.length by omega) c (by simp)
    have hll : ((d + 1 : Nat) : Int) < ((a' ++ [c] ++ e :: b).length : Int) := by rw [hlen]; simp at hlen; omega
    by_cases hlt : keyN names e < keyN names c
    · obtain ⟨k, r, h1, h2⟩ := l1_tells hn m hm next d a' (c :: b) e hd (by
          refine List.Perm.trans ?_ hp
          rw [List.append_assoc]
          refine List.Perm.append_left a' ?_
          exact List.Perm.swap c e b) (by simpa using hs) (by
          intro x hx
          rcases List.mem_cons.1 hx with rfl | hx
          · exact List.le_of_lt hlt
          · exact hb x hx)
      refine ⟨k + 1, r, ?_, h2⟩
      simp only [spec_ByName.l1]
      rw [hre, hrc, if_pos (by omega), if_pos (by omega), if_pos hll, if_pos he.1, if_pos he.2, hw, if_pos (by omega), if_pos (by omega), if_pos hc.1, if_pos hc.2]
      rw [if_pos (by rw [bytesLess_eq, ByteArray.toList_eq, ByteArray.toList_eq]; exact decide_eq_true hlt)]
      rw [show ((((a' ++ [c] ++ e :: b).set (((d + 1 : Nat) : Int)).toNat c).set ((d : Int)).toNat e)) = a' ++ e :: c :: b from by
        rw [Int.toNat_natCast, Int.toNat_natCast, ← ha, ← hd]
        rw [List.set_append_right _ _ (by simp)]
        simp]
      exact h1
    · obtain ⟨k, r, h1, h2⟩ := next (a' ++ [c] ++ e :: b) ⟨hp, by
        have hce : keyN names c ≤ keyN names e := List.not_lt.1 hlt
        rw [List.pairwise_append] at hs ⊢
        obtain ⟨s1, s2, s3⟩ := hs
        refine ⟨s1, List.pairwise_cons.2 ⟨fun x hx => hb x hx, s2⟩, fun x hx y hy => ?_⟩
        rcases List.mem_cons.1 hy with rfl | hy
        · rcases List.mem_append.1 hx with hx | hx
          · have : keyN names x ≤ keyN names c := (List.pairwise_append.1 s1).2.2 x hx c (by simp)
            exact List.le_trans this hce
          · obtain rfl : x = c := by simpa using hx
            exact hce
        · exact s3 x hx y hy⟩
      refine ⟨k + 1, r, ?_, h2⟩
      simp only [spec_ByName.l1]
      rw [hre, hrc, if_pos (by omega), if_pos (by omega), if_pos hll, if_pos he.1, if_pos he.2, hw, if_pos (by omega), if_pos (by omega), if_pos hc.1, if_pos hc.2]
      rw [if_neg (by rw [bytesLess_eq, ByteArray.toList_eq, ByteArray.toList_eq, decide_eq_true_eq]; exact hlt)]
      rw [show wrap64 ((m : Int) + 1) = (m : Int) + 1 from by unfold wrap64; omega]
      exact h1

theorem l0_tells (hn : names.length ≤ 8) : ∀ (d m : Nat) (x3 : List Int), names.length - m = d → m ≤ names.length → Good names x3 m → ∃ k r, spec_ByName.l0 k names x3 (m : Int) = some r ∧ Good names r names.length
  | 0, m, x3, hd, hm, hg => by
    obtain rfl : m = names.length := by omega
    refine ⟨1, x3, ?_, hg⟩
    simp only [spec_ByName.l0]
    rw [if_neg (by omega)]
  | d + 1, m, x3, hd, hm, hg => by
    have hl : x3.length = m := by rw [hg.perm.length_eq]; simp
    obtain ⟨k, r, h1, h2⟩ := l1_tells names hn m (by omega) (fun y hy => by
      have := l0_tells hn d (m + 1) y (by omega) (by omega) hy
      simpa using this) m x3 [] (m : Int) hl (by
        rw [List.range_succ, List.map_append]
        exact List.Perm.append_right _ hg.perm) (by simpa using hg.srt) (by simp)
    refine ⟨k + 1, r, ?_, h2⟩
    simp only [spec_ByName.l0]
    rw [if_pos (by omega), if_pos (by omega)]
    exact h1

theorem byName_any (hn : names.length ≤ 8) : ∃ k r, spec_ByName.f k names = some r ∧ Good names r names.length := by
  have := l0_tells names hn names.length 0 [] (by simp) (by omega) ⟨by simp, List.Pairwise.nil⟩
  simpa [spec_ByName.f] using this
end

theorem good_ok {names : List ByteArray} {r : List Int} (h : Good names r names.length) : OrdOk names r := by
  have hl : r.length = names.length := by rw [h.perm.length_eq]; simp
  refine ⟨hl, fun i hi => ?_⟩
  have : rd r (i : Int) = r[i] := by simp [YtagandfneflcbaaW.PrintWords.rd, List.getD_eq_getElem?_getD, List.getElem?_eq_getElem hi]
  rw [this]
  exact good_rng h.perm (Nat.le_refl _) _ (List.getElem_mem hi)

theorem good_sorted {names : List ByteArray} {r : List Int} (h : Good names r names.length) : r.map (rdOf ByteArray.empty names) = sortedN names := by
  have hp : (r.map (rdOf ByteArray.empty names)).Perm names := by
    refine (h.perm.map _).trans ?_
    rw [List.map_map]
    have : (List.range names.length).map (rdOf ByteArray.empty names ∘ Int.ofNat) = names := by
      apply List.ext_getElem (by simp)
      intro i h1 h2
      simp [rdOf, List.getD_eq_getElem?_getD, List.getElem?_eq_getElem h2]
    rw [this]
  have hs : ((r.map (rdOf ByteArray.empty names)).map bytesOf).Pairwise fun a b => leB a b = true := by
    rw [List.map_map, List.pairwise_map]
    exact h.srt.imp fun hle => decide_eq_true hle
  have h1 : (r.map (rdOf ByteArray.empty names)).map bytesOf = (names.map bytesOf).mergeSort leB := by
    rw [← mergeSort_of_perm (hp.map bytesOf)]
    exact (List.mergeSort_of_pairwise hs).symm
  have h2 := congrArg (List.map ofBytes) h1
  rw [List.map_map] at h2
  have h3 : (ofBytes ∘ bytesOf) = id := funext of_bytes
  rw [h3, List.map_id] at h2
  exact h2

end Go.Proofs.Ytagandfneflcbaa
