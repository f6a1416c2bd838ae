/- FnPathJoin, walked by hand. -/
import Derived.Test.YtepealmdnaondaaDoorJoinF
import Derived.Test.YtepealmdnaondaaDoorShelf
namespace Go.Proofs.YtepealmdnaondaaDoor.Join
set_option maxRecDepth 100000
open Go Go.RowKit Go.Proofs.YtepealmdnaondaaDoor.PSpl Go.Proofs.YtepealmdnaondaaDoorW.PrintWords Go.Proofs.YtepealmdnaondaaDoorW.PrintLast Go.Proofs.YtepealmdnaondaaDoorW.PrintMore Go.Proofs.YtepealmdnaondaaDoor.Given

theorem two_new (w : World) (cs : Array Value) (t : TypeId) : (w.alloc (.cells cs t)).heap[w.heap.size]? = some (.cells cs t (0, 0)) := by
  show (w.heap.push _)[w.heap.size]? = _
  exact Array.getElem?_push_size
theorem path_empty (s : ByteArray) (w : World) : Calls Tryd.prog 7 #[.string (⟨#[]⟩ : ByteArray), .string s] w fun e w' => e = .returned (.string s) ∧ Below w.heap.size w w' := by
  have HB := Aside0.mk (Below.refl w.heap.size w)
  go_enter Tryd.func7, Tryd.ntmps7
  go_wp2_with fail
  go_ret
  exact ⟨rfl, HB.out⟩
theorem path_home (s t : ByteArray) (k : Nat) (r : ByteArray) (w : World) (hs : dwarf_splitDrive.f k s = some ((⟨#[]⟩ : ByteArray), s)) (h0 : s.size ≠ 0) (hsz : s.size < 1000000) (htz : t.size < 1000000)
    (hr : (⟨(Go.Lib.Pa.joinL [by_ s, by_ t]).toArray⟩ : ByteArray) = r) :
    Calls Tryd.prog 7 #[.string s, .string t] w fun e w' => e = .returned (.string r) ∧ Below w.heap.size w w' := by
  have f3 : decide ((s.size : Int) = 0) = false := decide_eq_false (by omega)
  have HB := Aside0.mk (Below.refl w.heap.size w)
  have H1 := Aside0.mk hs
  go_enter Tryd.func7, Tryd.ntmps7
  go_wp2_with fail
  refine (dwarf_splitDrive.calls k s _ s _ H1.out).mono ?_
  rintro e w1 ⟨rfl, hb⟩
  have n0_ := Aside0.mk (HB.out.trans (hb.mono HB.out.size))
  clear HB hb
  have HB := n0_
  clear n0_
  go_wp2_with fail
  have hA : ∀ (j : Nat) x, [s, t][j]? = some x → (w1.alloc (.cells #[.string s, .string t] 9)).cell? ⟨w1.heap.size, 0 + j, none⟩ = some (.string x) := by
    intro j x hx
    have hlt : j < 2 := (List.getElem?_eq_some_iff.1 hx).1
    rw [Nat.zero_add, blk_cell (two_new w1 _ 9) j]
    rcases j with _ | _ | j
    · cases hx; rfl
    · cases hx; rfl
    · omega
  have HB2 : Aside0 (Below w.heap.size w (w1.alloc (.cells #[.string s, .string t] 9))) := ⟨HB.out.alloc HB.out.size _⟩
  clear HB
  have HB := HB2
  clear HB2
  have hC := Tryd.path_Join w1.heap.size 0 2 [s, t] (w1.alloc (.cells #[.string s, .string t] 9)) hA (by show w1.heap.size < (w1.heap.push _).size; rw [Array.size_push]; exact Nat.lt_succ_self _) (by
    show Go.Lib.Pa.lens [by_ s, by_ t] + 2 ≤ _
    simp only [Go.Lib.Pa.lens, List.map_cons, List.map_nil, List.sum_cons, List.sum_nil, by_length]
    omega)
  rw [show (⟨(Go.Lib.Pa.joinL ([s, t].map (·.data.toList))).toArray⟩ : ByteArray) = r from hr] at hC
  refine (hC).mono ?_
  rintro e w2 ⟨rfl, hb⟩
  have n0_ := Aside0.mk (HB.out.trans (hb.mono HB.out.size))
  clear HB hb
  have HB := n0_
  clear n0_
  go_wp2_with fail
  go_ret
  exact ⟨rfl, HB.out⟩
theorem up6 (s t r : ByteArray) (w : World) (h : ∀ w, Calls Tryd.prog 7 #[.string s, .string t] w fun e w' => e = .returned (.string r) ∧ Below w.heap.size w w') :
    Calls Tryd.prog 6 #[.string s, .string t] w fun e w' => e = .returned (.string r) ∧ Below w.heap.size w w' := by
  have HB := Aside0.mk (Below.refl w.heap.size w)
  have H1 := Aside0.mk h
  clear h
  go_enter Tryd.func6, Tryd.ntmps6
  go_wp2_with fail
  refine (H1.out _).mono ?_
  rintro e w1 ⟨rfl, hb⟩
  have n0_ := Aside0.mk (HB.out.trans (hb.mono HB.out.size))
  clear HB hb
  have HB := n0_
  clear n0_
  go_wp2_with fail
  go_ret
  exact ⟨rfl, HB.out⟩
theorem up5 (s t r : ByteArray) (w : World) (h : ∀ w, Calls Tryd.prog 6 #[.string s, .string t] w fun e w' => e = .returned (.string r) ∧ Below w.heap.size w w') :
    Calls Tryd.prog 5 #[.string s, .string t] w fun e w' => e = .returned (.string r) ∧ Below w.heap.size w w' := by
  have HB := Aside0.mk (Below.refl w.heap.size w)
  have H1 := Aside0.mk h
  clear h
  go_enter Tryd.func5, Tryd.ntmps5
  go_wp2_with fail
  refine (H1.out _).mono ?_
  rintro e w1 ⟨rfl, hb⟩
  have n0_ := Aside0.mk (HB.out.trans (hb.mono HB.out.size))
  clear HB hb
  have HB := n0_
  clear n0_
  go_wp2_with fail
  go_ret
  exact ⟨rfl, HB.out⟩
theorem join_empty (s : ByteArray) (w : World) : Calls Tryd.prog 5 #[.string (⟨#[]⟩ : ByteArray), .string s] w fun e w' => e = .returned (.string s) ∧ Below w.heap.size w w' :=
  up5 _ _ _ _ fun w => up6 _ _ _ _ fun w => path_empty s w
theorem join_home (d n : ByteArray) (hd : lowB (by_ d) = true) (hn : lowB (by_ n) = true) (d0 : d.size > 0) (n0 : n.size > 0) (hdz : d.size ≤ 65536) (hnz : n.size ≤ 65536) (w : World) :
    Calls Tryd.prog 5 #[.string ((⟨#[47]⟩ : ByteArray) ++ d), .string n] w fun e w' => e = .returned (.string ((((⟨#[47]⟩ : ByteArray) ++ d) ++ (⟨#[47]⟩ : ByteArray)) ++ n)) ∧ Below w.heap.size w w' := by
  have hD := (lowB_iff _).1 hd
  have hN := (lowB_iff _).1 hn
  have e1 : by_ ((⟨#[47]⟩ : ByteArray) ++ d) = 47 :: by_ d := by rw [by_append]; rfl
  obtain ⟨k, hk⟩ := sd_home e1 hD
  refine up5 _ _ _ _ fun w => up6 _ _ _ _ fun w => path_home _ _ k _ w (hk k (Nat.le_refl _)) ?_ ?_ (by omega) ?_
  · rw [ByteArray.size_append]; show 1 + d.size ≠ 0; omega
  · rw [ByteArray.size_append]; show 1 + d.size < _; omega
  · apply by_ext
    rw [e1, join_two hD hN (by intro e; rw [← by_length, e] at d0; simp at d0) (by intro e; rw [← by_length, e] at n0; simp at n0)]
    rw [by_append, by_append, by_append]
    simp [by_]
theorem law_big0 (a0 a1 : ByteArray) (w : World) (h : a0.size > 2147483647) : Calls Tryd.prog 3 #[.string a0, .string a1] w fun e w' => e = .returned (.bool true) ∧ Below w.heap.size w w' := by
  have f1 : decide ((a0.size : Int) > 2147483647) = true := decide_eq_true (by omega)
  have HB := Aside0.mk (Below.refl w.heap.size w)
  clear h
  go_enter Tryd.func3, Tryd.ntmps3
  go_wp2_with fail
  go_ret
  exact ⟨rfl, HB.out⟩
theorem law_big1 (a0 a1 : ByteArray) (w : World) (h0 : ¬ a0.size > 2147483647) (h : a1.size > 2147483647) : Calls Tryd.prog 3 #[.string a0, .string a1] w fun e w' => e = .returned (.bool true) ∧ Below w.heap.size w w' := by
  have f1 : decide ((a0.size : Int) > 2147483647) = false := decide_eq_false (by omega)
  have f2 : decide ((a1.size : Int) > 2147483647) = true := decide_eq_true (by omega)
  have HB := Aside0.mk (Below.refl w.heap.size w)
  clear h0 h
  go_enter Tryd.func3, Tryd.ntmps3
  go_wp2_with fail
  go_ret
  exact ⟨rfl, HB.out⟩
theorem law_mid0 (a0 a1 : ByteArray) (w : World) (g0 : ¬ a0.size > 2147483647) (g1 : ¬ a1.size > 2147483647) (h : a0.size > 65536) : Calls Tryd.prog 3 #[.string a0, .string a1] w fun e w' => e = .returned (.bool true) ∧ Below w.heap.size w w' := by
  have f1 : decide ((a0.size : Int) > 2147483647) = false := decide_eq_false (by omega)
  have f2 : decide ((a1.size : Int) > 2147483647) = false := decide_eq_false (by omega)
  have f3 : decide ((a0.size : Int) > 65536) = true := decide_eq_true (by omega)
  have HB := Aside0.mk (Below.refl w.heap.size w)
  clear g0 g1 h
  go_enter Tryd.func3, Tryd.ntmps3
  go_wp2_with fail
  go_ret
  exact ⟨rfl, HB.out⟩
theorem law_mid1 (a0 a1 : ByteArray) (w : World) (g0 : ¬ a0.size > 2147483647) (g1 : ¬ a1.size > 2147483647) (h0 : ¬ a0.size > 65536) (h : a1.size > 65536) : Calls Tryd.prog 3 #[.string a0, .string a1] w fun e w' => e = .returned (.bool true) ∧ Below w.heap.size w w' := by
  have f1 : decide ((a0.size : Int) > 2147483647) = false := decide_eq_false (by omega)
  have f2 : decide ((a1.size : Int) > 2147483647) = false := decide_eq_false (by omega)
  have f3 : decide ((a0.size : Int) > 65536) = false := decide_eq_false (by omega)
  have f4 : decide ((a1.size : Int) > 65536) = true := decide_eq_true (by omega)
  have HB := Aside0.mk (Below.refl w.heap.size w)
  clear g0 g1 h0 h
  go_enter Tryd.func3, Tryd.ntmps3
  go_wp2_with fail
  go_ret
  exact ⟨rfl, HB.out⟩
theorem law_no0 (a0 a1 : ByteArray) (w : World) (g0 : ¬ a0.size > 65536) (g1 : ¬ a1.size > 65536) (k : Nat) (hk : spec_IsName.f k a0 = some false) : Calls Tryd.prog 3 #[.string a0, .string a1] w fun e w' => e = .returned (.bool true) ∧ Below w.heap.size w w' := by
  have f1 : decide ((a0.size : Int) > 2147483647) = false := decide_eq_false (by omega)
  have f2 : decide ((a1.size : Int) > 2147483647) = false := decide_eq_false (by omega)
  have f3 : decide ((a0.size : Int) > 65536) = false := decide_eq_false (by omega)
  have f4 : decide ((a1.size : Int) > 65536) = false := decide_eq_false (by omega)
  have H1 := Aside0.mk hk
  have HB := Aside0.mk (Below.refl w.heap.size w)
  clear g0 g1 hk
  go_enter Tryd.func3, Tryd.ntmps3
  go_wp2_with fail
  refine (spec_IsName.calls k a0 false _ H1.out).mono ?_
  rintro e w1 ⟨rfl, hb⟩
  have n0_ := Aside0.mk (HB.out.trans (hb.below.mono HB.out.size))
  clear HB hb
  have HB := n0_
  clear n0_
  go_wp2_with fail
  go_ret
  exact ⟨rfl, HB.out⟩
theorem law_no1 (a0 a1 : ByteArray) (w : World) (g0 : ¬ a0.size > 65536) (g1 : ¬ a1.size > 65536) (k : Nat) (hk : spec_IsName.f k a0 = some true) (k1 : Nat) (hk1 : spec_IsName.f k1 a1 = some false) : Calls Tryd.prog 3 #[.string a0, .string a1] w fun e w' => e = .returned (.bool true) ∧ Below w.heap.size w w' := by
  have f1 : decide ((a0.size : Int) > 2147483647) = false := decide_eq_false (by omega)
  have f2 : decide ((a1.size : Int) > 2147483647) = false := decide_eq_false (by omega)
  have f3 : decide ((a0.size : Int) > 65536) = false := decide_eq_false (by omega)
  have f4 : decide ((a1.size : Int) > 65536) = false := decide_eq_false (by omega)
  have H1 := Aside0.mk hk
  have H2 := Aside0.mk hk1
  have HB := Aside0.mk (Below.refl w.heap.size w)
  clear g0 g1 hk hk1
  go_enter Tryd.func3, Tryd.ntmps3
  go_wp2_with fail
  refine (spec_IsName.calls k a0 true _ H1.out).mono ?_
  rintro e w1 ⟨rfl, hb⟩
  have n0_ := Aside0.mk (HB.out.trans (hb.below.mono HB.out.size))
  clear HB hb
  have HB := n0_
  clear n0_
  go_wp2_with fail
  refine (spec_IsName.calls k1 a1 false _ H2.out).mono ?_
  rintro e w2 ⟨rfl, hb⟩
  have n0_ := Aside0.mk (HB.out.trans (hb.below.mono HB.out.size))
  clear HB hb
  have HB := n0_
  clear n0_
  go_wp2_with fail
  go_ret
  exact ⟨rfl, HB.out⟩
theorem law_yes (a0 a1 : ByteArray) (w : World) (g0 : a0.size ≤ 65536) (g1 : a1.size ≤ 65536) (k : Nat) (hk : spec_IsName.f k a0 = some true) (k1 : Nat) (hk1 : spec_IsName.f k1 a1 = some true) (hj : ∀ w, Calls Tryd.prog 5 #[.string ((⟨#[47]⟩ : ByteArray) ++ a0), .string a1] w fun e w' => e = .returned (.string ((((⟨#[47]⟩ : ByteArray) ++ a0) ++ (⟨#[47]⟩ : ByteArray)) ++ a1)) ∧ Below w.heap.size w w') : Calls Tryd.prog 3 #[.string a0, .string a1] w fun e w' => e = .returned (.bool true) ∧ Below w.heap.size w w' := by
  have f1 : decide ((a0.size : Int) > 2147483647) = false := decide_eq_false (by omega)
  have f2 : decide ((a1.size : Int) > 2147483647) = false := decide_eq_false (by omega)
  have f3 : decide ((a0.size : Int) > 65536) = false := decide_eq_false (by omega)
  have f4 : decide ((a1.size : Int) > 65536) = false := decide_eq_false (by omega)
  have H1 := Aside0.mk hk
  have H2 := Aside0.mk hk1
  have H3 := Aside0.mk hj
  have HB := Aside0.mk (Below.refl w.heap.size w)
  clear hk hk1 hj
  go_enter Tryd.func3, Tryd.ntmps3
  go_wp2_with fail
  refine (spec_IsName.calls k a0 true _ H1.out).mono ?_
  rintro e w1 ⟨rfl, hb⟩
  have n0_ := Aside0.mk (HB.out.trans (hb.below.mono HB.out.size))
  clear HB hb
  have HB := n0_
  clear n0_
  go_wp2_with fail
  refine (spec_IsName.calls k1 a1 true _ H2.out).mono ?_
  rintro e w2 ⟨rfl, hb⟩
  have n0_ := Aside0.mk (HB.out.trans (hb.below.mono HB.out.size))
  clear HB hb
  have HB := n0_
  clear n0_
  go_wp2_with fail
  refine (H3.out _).mono ?_
  rintro e w3 ⟨rfl, hb⟩
  have n0_ := Aside0.mk (HB.out.trans (hb.mono HB.out.size))
  clear HB hb
  have HB := n0_
  clear n0_
  go_wp2_with fail
  refine (join_empty a1 _).mono ?_
  rintro e w4 ⟨rfl, hb⟩
  have n0_ := Aside0.mk (HB.out.trans (hb.mono HB.out.size))
  clear HB hb
  have HB := n0_
  clear n0_
  go_wp2_with fail
  go_ret
  exact ⟨rfl, HB.out⟩
theorem join_walk (a0 a1 : ByteArray) (w : World) : Calls Tryd.prog 3 #[.string a0, .string a1] w fun e w' => e = .returned (.bool true) ∧ Below w.heap.size w w' := by
  by_cases c0 : a0.size > 2147483647
  · exact law_big0 _ _ _ c0
  by_cases c1 : a1.size > 2147483647
  · exact law_big1 _ _ _ c0 c1
  by_cases c2 : a0.size > 65536
  · exact law_mid0 _ _ _ c0 c1 c2
  by_cases c3 : a1.size > 65536
  · exact law_mid1 _ _ _ c0 c1 c2 c3
  obtain ⟨k, hk⟩ := name_f a0 (by omega)
  obtain ⟨k1, hk1⟩ := name_f a1 (by omega)
  cases e0 : (lowB (by_ a0) && decide ((a0.size : Int) > 0)) with
  | false => rw [e0] at hk; exact law_no0 _ _ _ c2 c3 k (hk k (Nat.le_refl _))
  | true =>
    rw [e0] at hk
    cases e1 : (lowB (by_ a1) && decide ((a1.size : Int) > 0)) with
    | false => rw [e1] at hk1; exact law_no1 _ _ _ c2 c3 k (hk k (Nat.le_refl _)) k1 (hk1 k1 (Nat.le_refl _))
    | true =>
      rw [e1] at hk1
      rw [Bool.and_eq_true, decide_eq_true_eq] at e0 e1
      exact law_yes _ _ _ (by omega) (by omega) k (hk k (Nat.le_refl _)) k1 (hk1 k1 (Nat.le_refl _)) (join_home a0 a1 e0.1 e1.1 (by omega) (by omega) (by omega) (by omega))
end Go.Proofs.YtepealmdnaondaaDoor.Join
