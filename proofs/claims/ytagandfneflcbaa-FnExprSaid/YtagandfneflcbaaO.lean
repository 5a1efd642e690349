/- squirrel's Like.toSql where it refuses, the four ToSql, impl.LikeOf and its three kin. Conditions: the value is right (VR); the map is the call's own. -/
import Derived.Test.YtagandfneflcbaaN
import Derived.Test.YtagandfneflcbaaK
import Derived.Test.YtagandfneflcbaaL
namespace Go.Proofs.Ytagandfneflcbaa
open Go.RowKit Go.Proofs.YtagandfneflcbaaW.PrintWords Go.Proofs.YtagandfneflcbaaW.PrintLast Go.Proofs.YtagandfneflcbaaW.PrintMore
open Go.Proofs.Ytagandfneflcbaa.PFnLt
open Go.Maps

set_option maxRecDepth 100000 in
set_option maxHeartbeats 4000000 in
theorem like_no_nil (name o : ByteArray) (b : Nat) (w : World) (hm : w.ownsMap Try.prog 9 RH b 1 (tab [name] [.nilIface])) :
    Calls Try.prog 62 #[.map (some b), .string o] w (LikeErr w) := by
  have HM := Aside0.mk hm
  clear hm
  go_enter Try.func62, Try.ntmps62
  go_wp2_with (first | (at_range; refine wpList_range_own _ rfl _ 64 rfl 9 20 law9 Try.underlying64 RH b 1 (tab [name] [.nilIface]) rfl HM.out ?_; intro w0 hrg0 hg0 hs0))
  refine wp_loop_rounds 2 ?_
  rw [rounds_succ]
  go_wp2_with (first | (at_next; go_loud (refine wpList_next_ranges _ rfl _ rfl 9 law9 RH Value.string id (fun key kl hkey => enter_str hkey) (fun v y _ => ⟨v, rfl⟩) b w.heap.size 1 (tab [name] [.nilIface]) _ _ rfl hrg0 (fun _ hl => absurd (tab_one_in name (.nilIface)) (by rw [hl]; simp)) ?_; rintro nm c kl ⟨da, lm⟩ w1 cnt1 hk hh hR hat hrg1 hlt hg1 hs1 hen; obtain rfl : name = nm := keyL_inj ((tab_one_has hh).symm.trans (key_str hk)); obtain rfl : kl = keyL name := key_str hk; obtain rfl : c = .nilIface := (by have h1 := hat (.map []); rw [tab_one_at, RH_held hR] at h1; injection h1 with h1; exact h1.symm); rw [tab_one_size] at hlt; replace hg0 := Aside0.mk (show Below w.heap.size w w1 from ((Below.refl _ _).grown hg0 (Nat.le_refl _) (fun k hk => by cases hk)).grown hg1 (by omega) (fun k hk => by cases hk; exact Nat.le_refl _)); clear hrg0 hk hh hR hat hg1 hs0 hs1 hrg1)))
  refine (errorsNew_any _ _).mono ?_
  rintro e w2 ⟨rfl, rfl⟩
  go_wp2_with fail
  go_ret3
  exact ⟨_, _, _, rfl, hg0.out.alloc hg0.out.size _⟩

set_option maxRecDepth 100000 in
set_option maxHeartbeats 4000000 in
theorem like_no_lst (name o : ByteArray) (v : Value) (b : Nat) (w : World) (hm : w.ownsMap Try.prog 9 RH b 1 (tab [name] [.iface 57 v])) :
    Calls Try.prog 62 #[.map (some b), .string o] w (LikeErr w) := by
  have HM := Aside0.mk hm
  clear hm
  go_enter Try.func62, Try.ntmps62
  go_wp2_with (first | (at_range; refine wpList_range_own _ rfl _ 64 rfl 9 20 law9 Try.underlying64 RH b 1 (tab [name] [.iface 57 v]) rfl HM.out ?_; intro w0 hrg0 hg0 hs0))
  refine wp_loop_rounds 2 ?_
  rw [rounds_succ]
  go_wp2_with (first | (at_next; go_loud (refine wpList_next_ranges _ rfl _ rfl 9 law9 RH Value.string id (fun key kl hkey => enter_str hkey) (fun v y _ => ⟨v, rfl⟩) b w.heap.size 1 (tab [name] [.iface 57 v]) _ _ rfl hrg0 (fun _ hl => absurd (tab_one_in name (.iface 57 v)) (by rw [hl]; simp)) ?_; rintro nm c kl ⟨da, lm⟩ w1 cnt1 hk hh hR hat hrg1 hlt hg1 hs1 hen; obtain rfl : name = nm := keyL_inj ((tab_one_has hh).symm.trans (key_str hk)); obtain rfl : kl = keyL name := key_str hk; obtain rfl : c = .iface 57 v := (by have h1 := hat (.map []); rw [tab_one_at, RH_held hR] at h1; injection h1 with h1; exact h1.symm); rw [tab_one_size] at hlt; replace hg0 := Aside0.mk (show Below w.heap.size w w1 from ((Below.refl _ _).grown hg0 (Nat.le_refl _) (fun k hk => by cases hk)).grown hg1 (by omega) (fun k hk => by cases hk; exact Nat.le_refl _)); clear hrg0 hk hh hR hat hg1 hs0 hs1 hrg1)))
  refine (isList_lst v _).mono ?_
  rintro e w2 ⟨rfl, rfl⟩
  go_wp2_with fail
  refine (errorsNew_any _ _).mono ?_
  rintro e w2 ⟨rfl, rfl⟩
  go_wp2_with fail
  go_ret3
  exact ⟨_, _, _, rfl, hg0.out.alloc hg0.out.size _⟩

def ToSqlPost (k : Int) (name : ByteArray) (x : S24) (w : World) (e : Ending) (w' : World) : Prop := if x.f0 = 0 ∨ x.f0 = 5 then LikeErr w e w' else LikeOk (cmpT k name) (ofS0 x) w e w'
theorem like_all (k : Int) (name : ByteArray) (hn : name.size ≤ 40) (x : S24) (hx : VR x) (g : Value) (w0 : World) (hg : kI.K w0 (ofS x) [g]) (b : Nat) (w : World) (hm : w.ownsMap Try.prog 9 RH b 1 (tab [name] [g])) :
    Calls Try.prog 62 #[.map (some b), .string (sgn k)] w (ToSqlPost k name x w) := by
  cases hx with
  | one h =>
    have h1 : ofS x = .sc (ofS0 x) := by cases h <;> rfl
    rw [h1] at hg
    have h2 : g = enc0 (ofS0 x) := by have h3 : [g] = [enc0 (ofS0 x)] := hg; simpa using h3
    subst h2
    by_cases h0 : x.f0 = 0
    · have : ofS0 x = .nil := by cases h <;> first | rfl | simp at h0
      rw [this] at hm
      have hp : ToSqlPost k name x w = LikeErr w := by funext e w'; unfold ToSqlPost; rw [if_pos (.inl h0)]
      rw [hp]
      exact like_no_nil name _ b w hm
    · have hp : ToSqlPost k name x w = LikeOk (cmpT k name) (ofS0 x) w := by
        funext e w'; unfold ToSqlPost; rw [if_neg]
        cases h <;> simp at h0 ⊢
      rw [hp]
      exact like_yes name (sgn k) hn (sgn_size k) (ofS0 x) (by cases h <;> first | (simp at h0; done) | (unfold ofS0; simp)) b w hm
  | list l hl h =>
    obtain ⟨A, c, h2, _⟩ := hg
    obtain rfl : g = .iface 57 (.slice A (l.map ofS0).length c) := by simpa using h2
    have hp : ToSqlPost k name ⟨5, 0, ⟨#[]⟩, l⟩ w = LikeErr w := by funext e w'; unfold ToSqlPost; rw [if_pos (.inr rfl)]
    rw [hp]
    exact like_no_lst name _ _ b w hm
theorem toSql_42 (name : ByteArray) (hn : name.size ≤ 40) (x : S24) (hx : VR x) (g : Value) (w0 : World) (hg : kI.K w0 (ofS x) [g]) (b : Nat) (w : World) (hm : w.ownsMap Try.prog 9 RH b 1 (tab [name] [g])) :
    Calls Try.prog 42 #[.map (some b)] w (ToSqlPost 8 name x w) := by
  have H := Aside0.mk (like_all 8 name hn x hx g w0 hg b w hm)
  clear hg hm hn hx
  go_enter Try.func42, Try.ntmps42
  go_wp2_with fail
  refine H.out.mono ?_
  rintro e w2 hp
  unfold ToSqlPost at hp
  by_cases h0 : x.f0 = 0 ∨ x.f0 = 5
  · rw [if_pos h0] at hp
    obtain ⟨s, v, a, rfl, hb⟩ := hp
    have HB := Aside0.mk hb
    clear hb
    go_wp2_with fail
    go_ret3
    unfold ToSqlPost
    rw [if_pos h0]
    exact ⟨_, _, _, rfl, HB.out⟩
  · rw [if_neg h0] at hp
    obtain ⟨A, c, rfl, hC, hb⟩ := hp
    have HB := Aside0.mk hb
    have HC := Aside0.mk hC
    clear hb hC
    go_wp2_with fail
    go_ret3
    unfold ToSqlPost
    rw [if_neg h0]
    exact ⟨_, _, rfl, HC.out, HB.out⟩
theorem toSql_44 (name : ByteArray) (hn : name.size ≤ 40) (x : S24) (hx : VR x) (g : Value) (w0 : World) (hg : kI.K w0 (ofS x) [g]) (b : Nat) (w : World) (hm : w.ownsMap Try.prog 9 RH b 1 (tab [name] [g])) :
    Calls Try.prog 44 #[.map (some b)] w (ToSqlPost 9 name x w) := by
  have H := Aside0.mk (like_all 9 name hn x hx g w0 hg b w hm)
  clear hg hm hn hx
  go_enter Try.func44, Try.ntmps44
  go_wp2_with fail
  refine H.out.mono ?_
  rintro e w2 hp
  unfold ToSqlPost at hp
  by_cases h0 : x.f0 = 0 ∨ x.f0 = 5
  · rw [if_pos h0] at hp
    obtain ⟨s, v, a, rfl, hb⟩ := hp
    have HB := Aside0.mk hb
    clear hb
    go_wp2_with fail
    go_ret3
    unfold ToSqlPost
    rw [if_pos h0]
    exact ⟨_, _, _, rfl, HB.out⟩
  · rw [if_neg h0] at hp
    obtain ⟨A, c, rfl, hC, hb⟩ := hp
    have HB := Aside0.mk hb
    have HC := Aside0.mk hC
    clear hb hC
    go_wp2_with fail
    go_ret3
    unfold ToSqlPost
    rw [if_neg h0]
    exact ⟨_, _, rfl, HC.out, HB.out⟩
theorem toSql_40 (name : ByteArray) (hn : name.size ≤ 40) (x : S24) (hx : VR x) (g : Value) (w0 : World) (hg : kI.K w0 (ofS x) [g]) (b : Nat) (w : World) (hm : w.ownsMap Try.prog 9 RH b 1 (tab [name] [g])) :
    Calls Try.prog 40 #[.map (some b)] w (ToSqlPost 10 name x w) := by
  have H := Aside0.mk (like_all 10 name hn x hx g w0 hg b w hm)
  clear hg hm hn hx
  go_enter Try.func40, Try.ntmps40
  go_wp2_with fail
  refine H.out.mono ?_
  rintro e w2 hp
  unfold ToSqlPost at hp
  by_cases h0 : x.f0 = 0 ∨ x.f0 = 5
  · rw [if_pos h0] at hp
    obtain ⟨s, v, a, rfl, hb⟩ := hp
    have HB := Aside0.mk hb
    clear hb
    go_wp2_with fail
    go_ret3
    unfold ToSqlPost
    rw [if_pos h0]
    exact ⟨_, _, _, rfl, HB.out⟩
  · rw [if_neg h0] at hp
    obtain ⟨A, c, rfl, hC, hb⟩ := hp
    have HB := Aside0.mk hb
    have HC := Aside0.mk hC
    clear hb hC
    go_wp2_with fail
    go_ret3
    unfold ToSqlPost
    rw [if_neg h0]
    exact ⟨_, _, rfl, HC.out, HB.out⟩
theorem toSql_43 (name : ByteArray) (hn : name.size ≤ 40) (x : S24) (hx : VR x) (g : Value) (w0 : World) (hg : kI.K w0 (ofS x) [g]) (b : Nat) (w : World) (hm : w.ownsMap Try.prog 9 RH b 1 (tab [name] [g])) :
    Calls Try.prog 43 #[.map (some b)] w (ToSqlPost 11 name x w) := by
  have H := Aside0.mk (like_all 11 name hn x hx g w0 hg b w hm)
  clear hg hm hn hx
  go_enter Try.func43, Try.ntmps43
  go_wp2_with fail
  refine H.out.mono ?_
  rintro e w2 hp
  unfold ToSqlPost at hp
  by_cases h0 : x.f0 = 0 ∨ x.f0 = 5
  · rw [if_pos h0] at hp
    obtain ⟨s, v, a, rfl, hb⟩ := hp
    have HB := Aside0.mk hb
    clear hb
    go_wp2_with fail
    go_ret3
    unfold ToSqlPost
    rw [if_pos h0]
    exact ⟨_, _, _, rfl, HB.out⟩
  · rw [if_neg h0] at hp
    obtain ⟨A, c, rfl, hC, hb⟩ := hp
    have HB := Aside0.mk hb
    have HC := Aside0.mk hC
    clear hb hC
    go_wp2_with fail
    go_ret3
    unfold ToSqlPost
    rw [if_neg h0]
    exact ⟨_, _, rfl, HC.out, HB.out⟩

theorem C_name {w : World} {g : Nat} {s : ByteArray} (hb : w.heap[g]? = some (.cells #[.string s] 9 (0, 0))) : Kd.string.C w (some ⟨g, 0, none⟩) 1 [s] := by
  refine ⟨rfl, by decide, fun _ => ⟨_, rfl, fun j p hj => ?_⟩⟩
  cases j with
  | succ j => simp at hj
  | zero =>
    obtain rfl : s = p := by simpa using hj
    refine ⟨[.string s], rfl, rfl, fun j u hu => ?_⟩
    rw [Nat.zero_mul, Nat.zero_add, add_plain, blk_cell hb, ← hu]
    exact List.getElem?_toArray

/-- What the thin package answers: refused, or a text and its arguments. -/
def OfPost (p : ByteArray × List S24 × Int) (w : World) (e : Ending) (w' : World) : Prop := (p.2.2 = 0 ∧ e = .returned (.tuple #[.string ⟨#[]⟩, .slice none 0 0, .bool false]) ∨ p.2.2 = 1 ∧ ∃ v, e = .returned (.tuple #[.string p.1, v, .bool true]) ∧ k24.R 24 w' w.heap.size (fun _ => True) v p.2.1) ∧ Below w.heap.size w w'
set_option maxRecDepth 100000 in
set_option maxHeartbeats 4000000 in
theorem of_19 (name : ByteArray) (x : S24) (hcr : CR [name] [x]) (A : Option Addr) (c : Nat) (hl : x.f3.length ≤ c) (w : World) (hC : k24.C w A x.f3.length x.f3) (p : ByteArray × List S24 × Int) (hp : p = if x.f0 = 0 ∨ x.f0 = 5 then (⟨#[]⟩, [], 0) else (cmpT 8 name, [x], 1)) :
    Calls Try.prog 19 #[.string name, .agg #[.int .i64 x.f0, .int .i64 x.f1, .string x.f2, .slice A x.f3.length c]] w (OfPost p w) := by
  have HC := Aside0.mk hC
  have HR := Aside0.mk hcr
  have HL := Aside0.mk hl
  have HP := Aside0.mk hp
  clear hC hcr hl hp
  go_enter Try.func19, Try.ntmps19
  go_wp2_with fail
  all_goals
    have hb3 : Below w.heap.size w (((w.alloc (Obj.cells #[Value.int IntKind.i64 x.f0, Value.int IntKind.i64 x.f1, Value.string x.f2, Value.slice A x.f3.length c] 24)).alloc (Obj.cells #[Value.string name] 9)).alloc (Obj.cells #[Value.int IntKind.i64 x.f0, Value.int IntKind.i64 x.f1, Value.string x.f2, Value.slice A x.f3.length c] 24)) := (((Below.refl w.heap.size w).alloc (Nat.le_refl _) _).alloc (by simp) _).alloc (by simp; omega) _
    refine (tableOf_any [name] [x] HR.out _ _ _ _ _ (C_name (blk_alloc (by have := blk_new (w.alloc (Obj.cells #[Value.int IntKind.i64 x.f0, Value.int IntKind.i64 x.f1, Value.string x.f2, Value.slice A x.f3.length c] 24)) (Obj.cells #[Value.string name] 9); simpa using this) _)) (C_box (blk_new2 w _ _ _) HL.out (Kd.C_below HC.out hb3))).mono ?_
    rintro e w1 ⟨b, gs, rfl, hgl, hown, hK, hbb, hb⟩
    obtain ⟨g, rfl⟩ : ∃ g, gs = [g] := by
      match gs, hgl with
      | [g], _ => exact ⟨g, rfl⟩
    have HB := Aside0.mk (below_step hb3 hb)
    have HK := Aside0.mk (hK 0 (by simp) (by simp))
    have HO := Aside0.mk hown
    clear hb3 hgl hown hK hbb hb
    go_wp2_with fail
    refine (toSql_42 name (HR.out.pos name (by simp)).2 x (HR.out.vr x (by simp)) g w1 HK.out b _ HO.out).mono ?_
    rintro e w2 hp
    unfold ToSqlPost at hp
    by_cases h0 : x.f0 = 0 ∨ x.f0 = 5
    · rw [if_pos h0] at hp
      have HE := Aside0.mk (HP.out.trans (if_pos h0))
      obtain ⟨s, v, a, rfl, hb⟩ := hp
      have HB2 := Aside0.mk (below_step HB.out hb)
      clear hb
      go_wp2_with fail
      refine (answer_err s v a _).mono ?_
      rintro e w3 ⟨rfl, rfl⟩
      go_wp2_with fail
      go_ret3
      rw [HE.out]
      exact ⟨.inl ⟨rfl, rfl⟩, HB2.out⟩
    · rw [if_neg h0] at hp
      have HE := Aside0.mk (HP.out.trans (if_neg h0))
      obtain ⟨A1, c1, rfl, hC1, hb⟩ := hp
      have HB2 := Aside0.mk (below_step HB.out hb)
      have HC1 := Aside0.mk hC1
      clear hb hC1
      go_wp2_with fail
      refine (answer_ok (cmpT 8 name) (.slice A1 1 c1) ([ofS0 x].map toS0) _ (valuesOf_flat [ofS0 x] (by simp) A1 c1 _ HC1.out)).mono ?_
      rintro e w3 ⟨v, rfl, hr, hb⟩
      have hx : [ofS0 x].map toS0 = [x] := by
        have hv := HR.out.vr x (by simp)
        cases hv with
        | one h => simp [toS0_ofS0 h]
        | list l hl h => simp at h0
      rw [hx] at hr
      have HR3 := Aside0.mk hr
      have HB3 := Aside0.mk (below_step HB2.out hb)
      have HS3 := Aside0.mk HB2.out.size
      clear hr hb
      go_wp2_with fail
      go_ret3
      rw [HE.out]
      exact ⟨.inr ⟨rfl, v, rfl, Kd.R_lower HR3.out HS3.out⟩, HB3.out⟩
set_option maxRecDepth 100000 in
set_option maxHeartbeats 4000000 in
theorem of_21 (name : ByteArray) (x : S24) (hcr : CR [name] [x]) (A : Option Addr) (c : Nat) (hl : x.f3.length ≤ c) (w : World) (hC : k24.C w A x.f3.length x.f3) (p : ByteArray × List S24 × Int) (hp : p = if x.f0 = 0 ∨ x.f0 = 5 then (⟨#[]⟩, [], 0) else (cmpT 9 name, [x], 1)) :
    Calls Try.prog 21 #[.string name, .agg #[.int .i64 x.f0, .int .i64 x.f1, .string x.f2, .slice A x.f3.length c]] w (OfPost p w) := by
  have HC := Aside0.mk hC
  have HR := Aside0.mk hcr
  have HL := Aside0.mk hl
  have HP := Aside0.mk hp
  clear hC hcr hl hp
  go_enter Try.func21, Try.ntmps21
  go_wp2_with fail
  all_goals
    have hb3 : Below w.heap.size w (((w.alloc (Obj.cells #[Value.int IntKind.i64 x.f0, Value.int IntKind.i64 x.f1, Value.string x.f2, Value.slice A x.f3.length c] 24)).alloc (Obj.cells #[Value.string name] 9)).alloc (Obj.cells #[Value.int IntKind.i64 x.f0, Value.int IntKind.i64 x.f1, Value.string x.f2, Value.slice A x.f3.length c] 24)) := (((Below.refl w.heap.size w).alloc (Nat.le_refl _) _).alloc (by simp) _).alloc (by simp; omega) _
    refine (tableOf_any [name] [x] HR.out _ _ _ _ _ (C_name (blk_alloc (by have := blk_new (w.alloc (Obj.cells #[Value.int IntKind.i64 x.f0, Value.int IntKind.i64 x.f1, Value.string x.f2, Value.slice A x.f3.length c] 24)) (Obj.cells #[Value.string name] 9); simpa using this) _)) (C_box (blk_new2 w _ _ _) HL.out (Kd.C_below HC.out hb3))).mono ?_
    rintro e w1 ⟨b, gs, rfl, hgl, hown, hK, hbb, hb⟩
    obtain ⟨g, rfl⟩ : ∃ g, gs = [g] := by
      match gs, hgl with
      | [g], _ => exact ⟨g, rfl⟩
    have HB := Aside0.mk (below_step hb3 hb)
    have HK := Aside0.mk (hK 0 (by simp) (by simp))
    have HO := Aside0.mk hown
    clear hb3 hgl hown hK hbb hb
    go_wp2_with fail
    refine (toSql_44 name (HR.out.pos name (by simp)).2 x (HR.out.vr x (by simp)) g w1 HK.out b _ HO.out).mono ?_
    rintro e w2 hp
    unfold ToSqlPost at hp
    by_cases h0 : x.f0 = 0 ∨ x.f0 = 5
    · rw [if_pos h0] at hp
      have HE := Aside0.mk (HP.out.trans (if_pos h0))
      obtain ⟨s, v, a, rfl, hb⟩ := hp
      have HB2 := Aside0.mk (below_step HB.out hb)
      clear hb
      go_wp2_with fail
      refine (answer_err s v a _).mono ?_
      rintro e w3 ⟨rfl, rfl⟩
      go_wp2_with fail
      go_ret3
      rw [HE.out]
      exact ⟨.inl ⟨rfl, rfl⟩, HB2.out⟩
    · rw [if_neg h0] at hp
      have HE := Aside0.mk (HP.out.trans (if_neg h0))
      obtain ⟨A1, c1, rfl, hC1, hb⟩ := hp
      have HB2 := Aside0.mk (below_step HB.out hb)
      have HC1 := Aside0.mk hC1
      clear hb hC1
      go_wp2_with fail
      refine (answer_ok (cmpT 9 name) (.slice A1 1 c1) ([ofS0 x].map toS0) _ (valuesOf_flat [ofS0 x] (by simp) A1 c1 _ HC1.out)).mono ?_
      rintro e w3 ⟨v, rfl, hr, hb⟩
      have hx : [ofS0 x].map toS0 = [x] := by
        have hv := HR.out.vr x (by simp)
        cases hv with
        | one h => simp [toS0_ofS0 h]
        | list l hl h => simp at h0
      rw [hx] at hr
      have HR3 := Aside0.mk hr
      have HB3 := Aside0.mk (below_step HB2.out hb)
      have HS3 := Aside0.mk HB2.out.size
      clear hr hb
      go_wp2_with fail
      go_ret3
      rw [HE.out]
      exact ⟨.inr ⟨rfl, v, rfl, Kd.R_lower HR3.out HS3.out⟩, HB3.out⟩
set_option maxRecDepth 100000 in
set_option maxHeartbeats 4000000 in
theorem of_17 (name : ByteArray) (x : S24) (hcr : CR [name] [x]) (A : Option Addr) (c : Nat) (hl : x.f3.length ≤ c) (w : World) (hC : k24.C w A x.f3.length x.f3) (p : ByteArray × List S24 × Int) (hp : p = if x.f0 = 0 ∨ x.f0 = 5 then (⟨#[]⟩, [], 0) else (cmpT 10 name, [x], 1)) :
    Calls Try.prog 17 #[.string name, .agg #[.int .i64 x.f0, .int .i64 x.f1, .string x.f2, .slice A x.f3.length c]] w (OfPost p w) := by
  have HC := Aside0.mk hC
  have HR := Aside0.mk hcr
  have HL := Aside0.mk hl
  have HP := Aside0.mk hp
  clear hC hcr hl hp
  go_enter Try.func17, Try.ntmps17
  go_wp2_with fail
  all_goals
    have hb3 : Below w.heap.size w (((w.alloc (Obj.cells #[Value.int IntKind.i64 x.f0, Value.int IntKind.i64 x.f1, Value.string x.f2, Value.slice A x.f3.length c] 24)).alloc (Obj.cells #[Value.string name] 9)).alloc (Obj.cells #[Value.int IntKind.i64 x.f0, Value.int IntKind.i64 x.f1, Value.string x.f2, Value.slice A x.f3.length c] 24)) := (((Below.refl w.heap.size w).alloc (Nat.le_refl _) _).alloc (by simp) _).alloc (by simp; omega) _
    refine (tableOf_any [name] [x] HR.out _ _ _ _ _ (C_name (blk_alloc (by have := blk_new (w.alloc (Obj.cells #[Value.int IntKind.i64 x.f0, Value.int IntKind.i64 x.f1, Value.string x.f2, Value.slice A x.f3.length c] 24)) (Obj.cells #[Value.string name] 9); simpa using this) _)) (C_box (blk_new2 w _ _ _) HL.out (Kd.C_below HC.out hb3))).mono ?_
    rintro e w1 ⟨b, gs, rfl, hgl, hown, hK, hbb, hb⟩
    obtain ⟨g, rfl⟩ : ∃ g, gs = [g] := by
      match gs, hgl with
      | [g], _ => exact ⟨g, rfl⟩
    have HB := Aside0.mk (below_step hb3 hb)
    have HK := Aside0.mk (hK 0 (by simp) (by simp))
    have HO := Aside0.mk hown
    clear hb3 hgl hown hK hbb hb
    go_wp2_with fail
    refine (toSql_40 name (HR.out.pos name (by simp)).2 x (HR.out.vr x (by simp)) g w1 HK.out b _ HO.out).mono ?_
    rintro e w2 hp
    unfold ToSqlPost at hp
    by_cases h0 : x.f0 = 0 ∨ x.f0 = 5
    · rw [if_pos h0] at hp
      have HE := Aside0.mk (HP.out.trans (if_pos h0))
      obtain ⟨s, v, a, rfl, hb⟩ := hp
      have HB2 := Aside0.mk (below_step HB.out hb)
      clear hb
      go_wp2_with fail
      refine (answer_err s v a _).mono ?_
      rintro e w3 ⟨rfl, rfl⟩
      go_wp2_with fail
      go_ret3
      rw [HE.out]
      exact ⟨.inl ⟨rfl, rfl⟩, HB2.out⟩
    · rw [if_neg h0] at hp
      have HE := Aside0.mk (HP.out.trans (if_neg h0))
      obtain ⟨A1, c1, rfl, hC1, hb⟩ := hp
      have HB2 := Aside0.mk (below_step HB.out hb)
      have HC1 := Aside0.mk hC1
      clear hb hC1
      go_wp2_with fail
      refine (answer_ok (cmpT 10 name) (.slice A1 1 c1) ([ofS0 x].map toS0) _ (valuesOf_flat [ofS0 x] (by simp) A1 c1 _ HC1.out)).mono ?_
      rintro e w3 ⟨v, rfl, hr, hb⟩
      have hx : [ofS0 x].map toS0 = [x] := by
        have hv := HR.out.vr x (by simp)
        cases hv with
        | one h => simp [toS0_ofS0 h]
        | list l hl h => simp at h0
      rw [hx] at hr
      have HR3 := Aside0.mk hr
      have HB3 := Aside0.mk (below_step HB2.out hb)
      have HS3 := Aside0.mk HB2.out.size
      clear hr hb
      go_wp2_with fail
      go_ret3
      rw [HE.out]
      exact ⟨.inr ⟨rfl, v, rfl, Kd.R_lower HR3.out HS3.out⟩, HB3.out⟩
set_option maxRecDepth 100000 in
set_option maxHeartbeats 4000000 in
theorem of_20 (name : ByteArray) (x : S24) (hcr : CR [name] [x]) (A : Option Addr) (c : Nat) (hl : x.f3.length ≤ c) (w : World) (hC : k24.C w A x.f3.length x.f3) (p : ByteArray × List S24 × Int) (hp : p = if x.f0 = 0 ∨ x.f0 = 5 then (⟨#[]⟩, [], 0) else (cmpT 11 name, [x], 1)) :
    Calls Try.prog 20 #[.string name, .agg #[.int .i64 x.f0, .int .i64 x.f1, .string x.f2, .slice A x.f3.length c]] w (OfPost p w) := by
  have HC := Aside0.mk hC
  have HR := Aside0.mk hcr
  have HL := Aside0.mk hl
  have HP := Aside0.mk hp
  clear hC hcr hl hp
  go_enter Try.func20, Try.ntmps20
  go_wp2_with fail
  all_goals
    have hb3 : Below w.heap.size w (((w.alloc (Obj.cells #[Value.int IntKind.i64 x.f0, Value.int IntKind.i64 x.f1, Value.string x.f2, Value.slice A x.f3.length c] 24)).alloc (Obj.cells #[Value.string name] 9)).alloc (Obj.cells #[Value.int IntKind.i64 x.f0, Value.int IntKind.i64 x.f1, Value.string x.f2, Value.slice A x.f3.length c] 24)) := (((Below.refl w.heap.size w).alloc (Nat.le_refl _) _).alloc (by simp) _).alloc (by simp; omega) _
    refine (tableOf_any [name] [x] HR.out _ _ _ _ _ (C_name (blk_alloc (by have := blk_new (w.alloc (Obj.cells #[Value.int IntKind.i64 x.f0, Value.int IntKind.i64 x.f1, Value.string x.f2, Value.slice A x.f3.length c] 24)) (Obj.cells #[Value.string name] 9); simpa using this) _)) (C_box (blk_new2 w _ _ _) HL.out (Kd.C_below HC.out hb3))).mono ?_
    rintro e w1 ⟨b, gs, rfl, hgl, hown, hK, hbb, hb⟩
    obtain ⟨g, rfl⟩ : ∃ g, gs = [g] := by
      match gs, hgl with
      | [g], _ => exact ⟨g, rfl⟩
    have HB := Aside0.mk (below_step hb3 hb)
    have HK := Aside0.mk (hK 0 (by simp) (by simp))
    have HO := Aside0.mk hown
    clear hb3 hgl hown hK hbb hb
    go_wp2_with fail
    refine (toSql_43 name (HR.out.pos name (by simp)).2 x (HR.out.vr x (by simp)) g w1 HK.out b _ HO.out).mono ?_
    rintro e w2 hp
    unfold ToSqlPost at hp
    by_cases h0 : x.f0 = 0 ∨ x.f0 = 5
    · rw [if_pos h0] at hp
      have HE := Aside0.mk (HP.out.trans (if_pos h0))
      obtain ⟨s, v, a, rfl, hb⟩ := hp
      have HB2 := Aside0.mk (below_step HB.out hb)
      clear hb
      go_wp2_with fail
      refine (answer_err s v a _).mono ?_
      rintro e w3 ⟨rfl, rfl⟩
      go_wp2_with fail
      go_ret3
      rw [HE.out]
      exact ⟨.inl ⟨rfl, rfl⟩, HB2.out⟩
    · rw [if_neg h0] at hp
      have HE := Aside0.mk (HP.out.trans (if_neg h0))
      obtain ⟨A1, c1, rfl, hC1, hb⟩ := hp
      have HB2 := Aside0.mk (below_step HB.out hb)
      have HC1 := Aside0.mk hC1
      clear hb hC1
      go_wp2_with fail
      refine (answer_ok (cmpT 11 name) (.slice A1 1 c1) ([ofS0 x].map toS0) _ (valuesOf_flat [ofS0 x] (by simp) A1 c1 _ HC1.out)).mono ?_
      rintro e w3 ⟨v, rfl, hr, hb⟩
      have hx : [ofS0 x].map toS0 = [x] := by
        have hv := HR.out.vr x (by simp)
        cases hv with
        | one h => simp [toS0_ofS0 h]
        | list l hl h => simp at h0
      rw [hx] at hr
      have HR3 := Aside0.mk hr
      have HB3 := Aside0.mk (below_step HB2.out hb)
      have HS3 := Aside0.mk HB2.out.size
      clear hr hb
      go_wp2_with fail
      go_ret3
      rw [HE.out]
      exact ⟨.inr ⟨rfl, v, rfl, Kd.R_lower HR3.out HS3.out⟩, HB3.out⟩

end Go.Proofs.Ytagandfneflcbaa
