/- squirrel's Like.toSql over a map of one column, and its four ToSql. Conditions: the map is the call's own (ownsMap), of one key. -/
import Derived.Test.YtagandfneflcbaaG
import Derived.Test.YtagandfneflcbaaH
import Derived.Maps.RangeWalk
namespace Go.Proofs.Ytagandfneflcbaa
open Go.RowKit Go.Proofs.YtagandfneflcbaaW.PrintWords Go.Proofs.YtagandfneflcbaaW.PrintLast Go.Proofs.YtagandfneflcbaaW.PrintMore
open Go.Proofs.Ytagandfneflcbaa.PFnLt
open Go.Maps

theorem join_one (s sep : ByteArray) (A : Option Addr) (c : Nat) (w : World) (h : Kd.string.C w A 1 [s]) : Calls Try.prog 73 #[.slice A 1 c, .string sep] w fun e w' => e = .returned (.string s) ∧ w' = w := by
  obtain ⟨ad, rfl, x0⟩ := Kd.at_string h 0 (by omega) (by omega)
  have x1 : w.cell? ad = some (.string s) := x0
  clear h x0
  go_enter Try.func73, Try.ntmps73
  go_wp2_with fail
  go_ret
  exact ⟨rfl, rfl⟩

def LikeOk (t : ByteArray) (x0 : I0) (w : World) (e : Ending) (w' : World) : Prop := ∃ A c, e = .returned (.tuple #[.string t, .slice A 1 c, .nilIface]) ∧ kI0.C w' A 1 [x0] ∧ Below w.heap.size w w'
def LikeErr (w : World) (e : Ending) (w' : World) : Prop := ∃ s v a, e = .returned (.tuple #[.string s, v, .iface 106 (.pointer a)]) ∧ Below w.heap.size w w'

theorem key_str {x : ByteArray} {kl : Lit} (h : keyOf Try.prog 9 (.string x) = some kl) : kl = keyL x := by
  simp [keyOf, Try.underlying9, mapKey] at h
  exact h.2.symm
theorem tab_one (name : ByteArray) (g : Value) : tab [name] [g] = (DataW.map []).put (keyL name) (.held g) := rfl
theorem tab_one_has {name : ByteArray} {g : Value} {kl : Lit} (h : has (tab [name] [g]) kl = true) : kl = keyL name := by
  rw [tab_one] at h
  by_cases e : kl = keyL name
  · exact e
  · rw [has_put_other e] at h
    simp [has] at h
theorem tab_one_size (name : ByteArray) (g : Value) : size (tab [name] [g]) = 1 := by rfl
theorem tab_one_at (name : ByteArray) (g : Value) (z : DataW Value) : (tab [name] [g]).atKey (keyL name) z = .held g := mapTo_at (names := [name]) (gs := [g]) rfl (by simp) z 0 1 (Nat.le_refl _) (by omega)
theorem tab_one_in (name : ByteArray) (g : Value) : has (tab [name] [g]) (keyL name) = true := (mapTo_has (names := [name]) (gs := [g]) rfl name 1 (Nat.le_refl _)).2 (by simp)
theorem RH_held {c : Value} {a : DataW Value} {l : List MemPlace} (h : RH c = some (a, l)) : a = .held c := by simp [RH] at h; exact h.1.symm
theorem enter_str {key : Value} {kl : Lit} (h : keyOf Try.prog 9 key = some kl) : ∃ x, key = Value.string x := by
  cases key <;> simp [keyOf, Try.underlying9, mapKey] at h
  exact ⟨_, rfl⟩

set_option maxRecDepth 100000 in
set_option maxHeartbeats 4000000 in
theorem like_yes (name o : ByteArray) (hn : name.size ≤ 40) (ho : o.size ≤ 10) (x0 : I0) (hx : x0 ≠ .nil) (b : Nat) (w : World) (hm : w.ownsMap Try.prog 9 RH b 1 (tab [name] [enc0 x0])) :
    Calls Try.prog 62 #[.map (some b), .string o] w (LikeOk (name ++ ⟨#[32]⟩ ++ o ++ ⟨#[32, 63]⟩) x0 w) := by
  obtain ⟨g, hg⟩ : ∃ g, g = enc0 x0 := ⟨_, rfl⟩
  rw [← hg] at hm
  have HM := Aside0.mk hm
  clear hm
  have s1 : (name ++ (⟨#[32]⟩ : ByteArray)).size = name.size + 1 := by rw [ByteArray.size_append]; rfl
  have s2 : (name ++ (⟨#[32]⟩ : ByteArray) ++ o).size = name.size + 1 + o.size := by rw [ByteArray.size_append, s1]
  have e1 := eq_false (show ¬ (9223372036854775807 < name.size + 1) by omega)
  have e2 := eq_false (show ¬ (9223372036854775807 < (name ++ (⟨#[32]⟩ : ByteArray)).size + o.size) by omega)
  have e3 := eq_false (show ¬ (9223372036854775807 < (name ++ (⟨#[32]⟩ : ByteArray) ++ o).size + 2) by omega)
  have e4 := eq_false (show ¬ (9223372036854775807 < name.size + 1 + o.size) by omega)
  have e5 := eq_false (show ¬ (9223372036854775807 < name.size + 1 + o.size + 2) by omega)
  clear s1 s2 hn ho
  cases x0 with
  | nil => exact absurd rfl hx
  | int n =>
    clear hx
    simp only [enc0] at hg
    go_enter Try.func62, Try.ntmps62
    go_wp2_with (first | (at_range; refine wpList_range_own _ rfl _ 64 rfl 9 20 law9 Try.underlying64 RH b 1 (tab [name] [g]) rfl HM.out ?_; intro w0 hrg0 hg0 hs0))
    refine wp_loop_rounds 2 ?_
    rw [rounds_succ]
    go_wp2_with (first | (at_next; go_loud (refine wpList_next_ranges _ rfl _ rfl 9 law9 RH Value.string id (fun key kl hkey => enter_str hkey) (fun v y _ => ⟨v, rfl⟩) b w.heap.size 1 (tab [name] [g]) _ _ rfl hrg0 (fun _ hl => absurd (tab_one_in name g) (by rw [hl]; simp)) ?_; rintro nm c kl ⟨da, lm⟩ w1 cnt1 hk hh hR hat hrg1 hlt hg1 hs1 hen; obtain rfl : name = nm := keyL_inj ((tab_one_has hh).symm.trans (key_str hk)); obtain rfl : kl = keyL name := key_str hk; obtain rfl : c = g := (by have h1 := hat (.map []); rw [tab_one_at, RH_held hR] at h1; injection h1 with h1; exact h1.symm); rw [tab_one_size] at hlt; replace hg0 := Aside0.mk (show Below w.heap.size w w1 from ((Below.refl _ _).grown hg0 (Nat.le_refl _) (fun k hk => by cases hk)).grown hg1 (by omega) (fun k hk => by cases hk; exact Nat.le_refl _)); replace hrg1 := Aside0.mk hrg1; clear hrg0 hk hh hR hat hg1 hs0 hs1; subst hg)))
    refine (isList_sc (.int n) _).mono ?_
    rintro e w2 ⟨rfl, rfl⟩
    go_wp2_with (first | ((with_reducible refine gate_builtin (b := .append) (xs := #[.tmp 29, .tmp 31]) rfl ?_); at_builtin; go_loud (refine Kd.R_append kI0 (w0 := w) w.heap.size rfl (.tmp 29) (.tmp 31) 57 20 .nilIface 16 rfl Try.underlying57 info20 rfl (by decide) (by omega) (.slice none 0 0) ([] : List I0) (.int n) [enc0 (.int n)] (fun _ => True) (fun k => True ∧ some k ≠ (Value.slice none 0 0).ownBlock) rfl rfl ?aP (fun _ hk => hk) (fun _ _ => trivial) ?aO ?aB ?aS ?aL ?_; (case aP => exact rfl); (case aO => exact Kd.R_nil _ _ _ _ _); (case aB => exact hg0.out); (case aS => exact hg0.out.size); (case aL => (simp)); intro v1 w3 ho hb hg1 hat1; have HO3 := Aside0.mk ho; have HB3 := Aside0.mk hb; have HG3 := Aside0.mk hg1; clear ho hb hg1 hat1)) | ((with_reducible refine gate_builtin (b := .append) (xs := #[.tmp 33, .tmp 35]) rfl ?_); at_builtin; go_loud (refine Kd.R_append (W := w3) Kd.string (w0 := w3) w3.heap.size rfl (.tmp 33) (.tmp 35) 27 9 (.string ⟨#[]⟩) 16 rfl Try.underlying27 info9 rfl (by decide) (by omega) (.slice none 0 0) ([] : List ByteArray) (name ++ (⟨#[32]⟩ : ByteArray) ++ o ++ (⟨#[32, 63]⟩ : ByteArray)) [Value.string (name ++ (⟨#[32]⟩ : ByteArray) ++ o ++ (⟨#[32, 63]⟩ : ByteArray))] (fun _ => True) (fun k => True ∧ some k ≠ (Value.slice none 0 0).ownBlock) rfl rfl ?aP (fun _ hk => hk) (fun _ _ => trivial) ?aO ?aB ?aS ?aL ?_; (case aP => exact rfl); (case aO => exact Kd.R_nil _ _ _ _ _); (case aB => exact Below.refl _ _); (case aS => exact Nat.le_refl _); (case aL => (simp)); intro v2 w4 ho hb hg1 hat1; have HO4 := Aside0.mk ho; have HB4 := Aside0.mk hb; clear ho hb hg1 hat1)))
    have hb24 : Below w2.heap.size w2 w4 := by
      refine below_step ((Below.refl _ _).grown HG3.out (Nat.le_refl _) (fun k hk => ?_)) HB4.out
      simp [Value.ownBlock] at hk
    have hrg2 := hrg1.out.kept (grown_of_below hb24 none) (by simp) (by simp)
    have HB5 := Aside0.mk (below_step HB3.out HB4.out)
    have HO5 := Aside0.mk (Kd.R_reads (Kd.R_below HO3.out HB4.out))
    clear hrg1 HM hb24
    rw [rounds_succ]
    go_wp2_with (first | (at_next; go_loud (refine wpList_next_ranges _ rfl _ rfl 9 law9 RH Value.string id (fun key kl hkey => enter_str hkey) (fun v y _ => ⟨v, rfl⟩) b w.heap.size 1 _ _ _ rfl hrg2 (fun _ _ => ?_) (fun _ _ _ _ _ cnt2 _ _ _ _ _ hlt2 _ _ _ => absurd hlt2 (by omega)); clear hrg2)))
    obtain ⟨A2, c2, rfl, _, hC2⟩ := Kd.R_reads HO4.out
    refine (join_one _ _ A2 c2 _ hC2).mono ?_
    rintro e w5 ⟨rfl, rfl⟩
    obtain ⟨A1, c1, rfl, hl1, hC1⟩ := HO5.out
    have HC1 := Aside0.mk hC1
    clear hC1 hC2 hl1
    go_wp2_with fail
    go_ret3
    exact ⟨A1, c1, rfl, HC1.out, HB5.out⟩
  | str n =>
    clear hx
    simp only [enc0] at hg
    go_enter Try.func62, Try.ntmps62
    go_wp2_with (first | (at_range; refine wpList_range_own _ rfl _ 64 rfl 9 20 law9 Try.underlying64 RH b 1 (tab [name] [g]) rfl HM.out ?_; intro w0 hrg0 hg0 hs0))
    refine wp_loop_rounds 2 ?_
    rw [rounds_succ]
    go_wp2_with (first | (at_next; go_loud (refine wpList_next_ranges _ rfl _ rfl 9 law9 RH Value.string id (fun key kl hkey => enter_str hkey) (fun v y _ => ⟨v, rfl⟩) b w.heap.size 1 (tab [name] [g]) _ _ rfl hrg0 (fun _ hl => absurd (tab_one_in name g) (by rw [hl]; simp)) ?_; rintro nm c kl ⟨da, lm⟩ w1 cnt1 hk hh hR hat hrg1 hlt hg1 hs1 hen; obtain rfl : name = nm := keyL_inj ((tab_one_has hh).symm.trans (key_str hk)); obtain rfl : kl = keyL name := key_str hk; obtain rfl : c = g := (by have h1 := hat (.map []); rw [tab_one_at, RH_held hR] at h1; injection h1 with h1; exact h1.symm); rw [tab_one_size] at hlt; replace hg0 := Aside0.mk (show Below w.heap.size w w1 from ((Below.refl _ _).grown hg0 (Nat.le_refl _) (fun k hk => by cases hk)).grown hg1 (by omega) (fun k hk => by cases hk; exact Nat.le_refl _)); replace hrg1 := Aside0.mk hrg1; clear hrg0 hk hh hR hat hg1 hs0 hs1; subst hg)))
    refine (isList_sc (.str n) _).mono ?_
    rintro e w2 ⟨rfl, rfl⟩
    go_wp2_with (first | ((with_reducible refine gate_builtin (b := .append) (xs := #[.tmp 29, .tmp 31]) rfl ?_); at_builtin; go_loud (refine Kd.R_append kI0 (w0 := w) w.heap.size rfl (.tmp 29) (.tmp 31) 57 20 .nilIface 16 rfl Try.underlying57 info20 rfl (by decide) (by omega) (.slice none 0 0) ([] : List I0) (.str n) [enc0 (.str n)] (fun _ => True) (fun k => True ∧ some k ≠ (Value.slice none 0 0).ownBlock) rfl rfl ?aP (fun _ hk => hk) (fun _ _ => trivial) ?aO ?aB ?aS ?aL ?_; (case aP => exact rfl); (case aO => exact Kd.R_nil _ _ _ _ _); (case aB => exact hg0.out); (case aS => exact hg0.out.size); (case aL => (simp)); intro v1 w3 ho hb hg1 hat1; have HO3 := Aside0.mk ho; have HB3 := Aside0.mk hb; have HG3 := Aside0.mk hg1; clear ho hb hg1 hat1)) | ((with_reducible refine gate_builtin (b := .append) (xs := #[.tmp 33, .tmp 35]) rfl ?_); at_builtin; go_loud (refine Kd.R_append (W := w3) Kd.string (w0 := w3) w3.heap.size rfl (.tmp 33) (.tmp 35) 27 9 (.string ⟨#[]⟩) 16 rfl Try.underlying27 info9 rfl (by decide) (by omega) (.slice none 0 0) ([] : List ByteArray) (name ++ (⟨#[32]⟩ : ByteArray) ++ o ++ (⟨#[32, 63]⟩ : ByteArray)) [Value.string (name ++ (⟨#[32]⟩ : ByteArray) ++ o ++ (⟨#[32, 63]⟩ : ByteArray))] (fun _ => True) (fun k => True ∧ some k ≠ (Value.slice none 0 0).ownBlock) rfl rfl ?aP (fun _ hk => hk) (fun _ _ => trivial) ?aO ?aB ?aS ?aL ?_; (case aP => exact rfl); (case aO => exact Kd.R_nil _ _ _ _ _); (case aB => exact Below.refl _ _); (case aS => exact Nat.le_refl _); (case aL => (simp)); intro v2 w4 ho hb hg1 hat1; have HO4 := Aside0.mk ho; have HB4 := Aside0.mk hb; clear ho hb hg1 hat1)))
    have hb24 : Below w2.heap.size w2 w4 := by
      refine below_step ((Below.refl _ _).grown HG3.out (Nat.le_refl _) (fun k hk => ?_)) HB4.out
      simp [Value.ownBlock] at hk
    have hrg2 := hrg1.out.kept (grown_of_below hb24 none) (by simp) (by simp)
    have HB5 := Aside0.mk (below_step HB3.out HB4.out)
    have HO5 := Aside0.mk (Kd.R_reads (Kd.R_below HO3.out HB4.out))
    clear hrg1 HM hb24
    rw [rounds_succ]
    go_wp2_with (first | (at_next; go_loud (refine wpList_next_ranges _ rfl _ rfl 9 law9 RH Value.string id (fun key kl hkey => enter_str hkey) (fun v y _ => ⟨v, rfl⟩) b w.heap.size 1 _ _ _ rfl hrg2 (fun _ _ => ?_) (fun _ _ _ _ _ cnt2 _ _ _ _ _ hlt2 _ _ _ => absurd hlt2 (by omega)); clear hrg2)))
    obtain ⟨A2, c2, rfl, _, hC2⟩ := Kd.R_reads HO4.out
    refine (join_one _ _ A2 c2 _ hC2).mono ?_
    rintro e w5 ⟨rfl, rfl⟩
    obtain ⟨A1, c1, rfl, hl1, hC1⟩ := HO5.out
    have HC1 := Aside0.mk hC1
    clear hC1 hC2 hl1
    go_wp2_with fail
    go_ret3
    exact ⟨A1, c1, rfl, HC1.out, HB5.out⟩
  | bool n =>
    clear hx
    simp only [enc0] at hg
    go_enter Try.func62, Try.ntmps62
    go_wp2_with (first | (at_range; refine wpList_range_own _ rfl _ 64 rfl 9 20 law9 Try.underlying64 RH b 1 (tab [name] [g]) rfl HM.out ?_; intro w0 hrg0 hg0 hs0))
    refine wp_loop_rounds 2 ?_
    rw [rounds_succ]
    go_wp2_with (first | (at_next; go_loud (refine wpList_next_ranges _ rfl _ rfl 9 law9 RH Value.string id (fun key kl hkey => enter_str hkey) (fun v y _ => ⟨v, rfl⟩) b w.heap.size 1 (tab [name] [g]) _ _ rfl hrg0 (fun _ hl => absurd (tab_one_in name g) (by rw [hl]; simp)) ?_; rintro nm c kl ⟨da, lm⟩ w1 cnt1 hk hh hR hat hrg1 hlt hg1 hs1 hen; obtain rfl : name = nm := keyL_inj ((tab_one_has hh).symm.trans (key_str hk)); obtain rfl : kl = keyL name := key_str hk; obtain rfl : c = g := (by have h1 := hat (.map []); rw [tab_one_at, RH_held hR] at h1; injection h1 with h1; exact h1.symm); rw [tab_one_size] at hlt; replace hg0 := Aside0.mk (show Below w.heap.size w w1 from ((Below.refl _ _).grown hg0 (Nat.le_refl _) (fun k hk => by cases hk)).grown hg1 (by omega) (fun k hk => by cases hk; exact Nat.le_refl _)); replace hrg1 := Aside0.mk hrg1; clear hrg0 hk hh hR hat hg1 hs0 hs1; subst hg)))
    refine (isList_sc (.bool n) _).mono ?_
    rintro e w2 ⟨rfl, rfl⟩
    go_wp2_with (first | ((with_reducible refine gate_builtin (b := .append) (xs := #[.tmp 29, .tmp 31]) rfl ?_); at_builtin; go_loud (refine Kd.R_append kI0 (w0 := w) w.heap.size rfl (.tmp 29) (.tmp 31) 57 20 .nilIface 16 rfl Try.underlying57 info20 rfl (by decide) (by omega) (.slice none 0 0) ([] : List I0) (.bool n) [enc0 (.bool n)] (fun _ => True) (fun k => True ∧ some k ≠ (Value.slice none 0 0).ownBlock) rfl rfl ?aP (fun _ hk => hk) (fun _ _ => trivial) ?aO ?aB ?aS ?aL ?_; (case aP => exact rfl); (case aO => exact Kd.R_nil _ _ _ _ _); (case aB => exact hg0.out); (case aS => exact hg0.out.size); (case aL => (simp)); intro v1 w3 ho hb hg1 hat1; have HO3 := Aside0.mk ho; have HB3 := Aside0.mk hb; have HG3 := Aside0.mk hg1; clear ho hb hg1 hat1)) | ((with_reducible refine gate_builtin (b := .append) (xs := #[.tmp 33, .tmp 35]) rfl ?_); at_builtin; go_loud (refine Kd.R_append (W := w3) Kd.string (w0 := w3) w3.heap.size rfl (.tmp 33) (.tmp 35) 27 9 (.string ⟨#[]⟩) 16 rfl Try.underlying27 info9 rfl (by decide) (by omega) (.slice none 0 0) ([] : List ByteArray) (name ++ (⟨#[32]⟩ : ByteArray) ++ o ++ (⟨#[32, 63]⟩ : ByteArray)) [Value.string (name ++ (⟨#[32]⟩ : ByteArray) ++ o ++ (⟨#[32, 63]⟩ : ByteArray))] (fun _ => True) (fun k => True ∧ some k ≠ (Value.slice none 0 0).ownBlock) rfl rfl ?aP (fun _ hk => hk) (fun _ _ => trivial) ?aO ?aB ?aS ?aL ?_; (case aP => exact rfl); (case aO => exact Kd.R_nil _ _ _ _ _); (case aB => exact Below.refl _ _); (case aS => exact Nat.le_refl _); (case aL => (simp)); intro v2 w4 ho hb hg1 hat1; have HO4 := Aside0.mk ho; have HB4 := Aside0.mk hb; clear ho hb hg1 hat1)))
    have hb24 : Below w2.heap.size w2 w4 := by
      refine below_step ((Below.refl _ _).grown HG3.out (Nat.le_refl _) (fun k hk => ?_)) HB4.out
      simp [Value.ownBlock] at hk
    have hrg2 := hrg1.out.kept (grown_of_below hb24 none) (by simp) (by simp)
    have HB5 := Aside0.mk (below_step HB3.out HB4.out)
    have HO5 := Aside0.mk (Kd.R_reads (Kd.R_below HO3.out HB4.out))
    clear hrg1 HM hb24
    rw [rounds_succ]
    go_wp2_with (first | (at_next; go_loud (refine wpList_next_ranges _ rfl _ rfl 9 law9 RH Value.string id (fun key kl hkey => enter_str hkey) (fun v y _ => ⟨v, rfl⟩) b w.heap.size 1 _ _ _ rfl hrg2 (fun _ _ => ?_) (fun _ _ _ _ _ cnt2 _ _ _ _ _ hlt2 _ _ _ => absurd hlt2 (by omega)); clear hrg2)))
    obtain ⟨A2, c2, rfl, _, hC2⟩ := Kd.R_reads HO4.out
    refine (join_one _ _ A2 c2 _ hC2).mono ?_
    rintro e w5 ⟨rfl, rfl⟩
    obtain ⟨A1, c1, rfl, hl1, hC1⟩ := HO5.out
    have HC1 := Aside0.mk hC1
    clear hC1 hC2 hl1
    go_wp2_with fail
    go_ret3
    exact ⟨A1, c1, rfl, HC1.out, HB5.out⟩

end Go.Proofs.Ytagandfneflcbaa
