/- The contract of impl.AppendRange, proved by hand. -/
import Derived.Test.YtepealmdnaondaaLink
import Derived.Test.YtepealmdnaondaaPAllx4
import Derived.Deep.RegionWith
import Derived.Deep.RegionLaw
namespace Go.Proofs.Ytepealmdnaondaa.PAll
open Go.RowKit Go.Proofs.YtepealmdnaondaaW.PrintWords Go.Proofs.YtepealmdnaondaaW.PrintLast Go.Proofs.YtepealmdnaondaaW.PrintMore Go.Proofs.Ytepealmdnaondaa.Ranges Go.Proofs.Ytepealmdnaondaa.Link

/-- What a scope has when a range was added. -/
def added (l : List (Int × Int)) (b0 b1 : Int) : List (Int × Int) :=
  if b1 ≤ b0 then l else match l.getLast? with
    | some z => if z.2 = b0 then l.dropLast ++ [(z.1, b1)] else l ++ [(b0, b1)]
    | none => l ++ [(b0, b1)]
def impl_AppendRange.f (l0 : List S24) (b0 b1 : Int) : Option (List S24) := if l0.length < 4000000000000 then some (Link.up (added (pl l0) b0 b1)) else none

/-- No range: nothing. -/
theorem scope_add_none (gs : Nat) (b0 b1 : Int) (h : b1 ≤ b0) (w : World) :
    Calls Try.prog 24 #[.pointer (some ⟨gs, 0, none⟩), .agg #[.int .i64 b0, .int .i64 b1]] w fun e w' => e = .returned (.tuple #[]) ∧ w' = w.alloc (.cells #[.int .i64 b0, .int .i64 b1] 56) := by
  go_enter Try.func24, Try.ntmps24
  go_wp2
  refine bodyPost_ret (results_none rfl _ _ _) rfl ⟨rfl, rfl⟩

/-- A range that begins where the last one ends. -/
theorem scope_add_set (gs g cap m : Nat) (z1 b0 b1 : Int) (h : b0 < b1) (w : World)
    (q0 : w.cell? ⟨gs, 0, none⟩ = some (.slice (some ⟨g, 0, none⟩) (m + 1) cap)) (q1 : w.cell? ⟨g, m * 2, none⟩ = some (.int .i64 z1)) (q2 : w.cell? ⟨g, m * 2 + 1, none⟩ = some (.int .i64 b0)) (q3 : w.frozen? ⟨g, m * 2 + 1, none⟩ = false)
    (hm : m < 4000000000000) (_hc : m + 1 ≤ cap) :
    Calls Try.prog 24 #[.pointer (some ⟨gs, 0, none⟩), .agg #[.int .i64 b0, .int .i64 b1]] w fun e w' => e = .returned (.tuple #[]) ∧ ∃ n, w' = ((w.alloc (.cells #[.int .i64 b0, .int .i64 b1] 56)).drewN n).setCell ⟨g, m * 2 + 1, none⟩ (.int .i64 b1) := by
  have d1 : decide (b1 ≤ b0) = false := by simpa using h
  have d2 : (0 : Int) ≤ (m : Int) := by omega
  have d3 : (m : Int) < (m : Int) + 1 := by omega
  have d4 : decide ((0 : Int) < (m : Int) + 1) = true := by simp
  have n0 : gs < w.heap.size := World.block_lt_of_cell? w _ q0
  have n1 : g < w.heap.size := World.block_lt_of_cell? w _ q1
  go_enter Try.func24, Try.ntmps24
  go_wp2
  go_quiet (fail)
  go_wp2
  go_region
  all_goals go_wp2
  all_goals exact bodyPost_ret (results_none rfl _ _ _) rfl ⟨rfl, _, rfl⟩


set_option maxHeartbeats 400000 in
/-- A range behind the last one, or the first one. -/
theorem scope_add_new (gs base : Nat) (A : Option Addr) (cap : Nat) (xs : List S56) (b0 b1 : Int) (h : b0 < b1) (w : World)
    (hs : w.heap[gs]? = some (.cells #[.slice A xs.length cap] 53 (0, 0))) (HO : Kd.R k56 56 w base (fun _ => True) (.slice A xs.length cap) xs) (hbase : base ≤ w.heap.size) (hl : xs.length < 4000000000000)
    (hx : xs = [] ∨ ∃ g m z1 z2, A = some ⟨g, 0, none⟩ ∧ xs.length = m + 1 ∧ w.cell? ⟨g, m * 2, none⟩ = some (.int .i64 z1) ∧ w.cell? ⟨g, m * 2 + 1, none⟩ = some (.int .i64 z2) ∧ z2 ≠ b0) :
    Calls Try.prog 24 #[.pointer (some ⟨gs, 0, none⟩), .agg #[.int .i64 b0, .int .i64 b1]] w fun e w' => e = .returned (.tuple #[]) ∧ ∃ v1 w1, Kd.R k56 56 w1 base (fun _ => True) v1 (xs ++ [⟨b0, b1⟩]) ∧ Below base w w1 ∧ w1.heap[gs]? = some (.cells #[.slice A xs.length cap] 53 (0, 0)) ∧ w' = w1.setCell ⟨gs, 0, none⟩ v1 := by
  have d1 : decide (b1 ≤ b0) = false := by simpa using h
  have q0 : w.cell? ⟨gs, 0, none⟩ = some (.slice A xs.length cap) := (blk_cell hs 0).trans rfl
  have n0 : gs < w.heap.size := World.block_lt_of_cell? w _ q0
  have HO1 := Aside0.mk HO
  have HS := Aside0.mk hs
  have HB0 : Aside0 (Below base w w) := ⟨(Below.refl _ _).mono hbase⟩
  rcases hx with hx | ⟨g, m, z1, z2, rfl, hm, q1, q2, hz⟩
  · subst hx
    clear HO hs
    go_enter Try.func24, Try.ntmps24
    go_wp2
    go_quiet (fail)
    go_wp2
    have gr := Aside0.mk (Kd.R_drewN (Kd.R_alloc HO1.out (.cells #[.int .i64 b0, .int .i64 b1] 56)) nq)
    go_region_law ((refine Kd.R_append_step k56 (w0 := w) base (by rfl) (.tmp 45) (.tmp 47) 50 56 (.agg #[.int .i64 0, .int .i64 0]) 16 rfl Try.underlying50 info56 rfl (by decide) (by omega) (.slice A 0 cap) [] ⟨b0, b1⟩ _ (fun _ => True) (fun _ => False) rfl ?aX ?aP (fun _ hk => hk.elim) (fun _ _ => trivial) ?aO ?aB ?aS ?aL ?_); (case aX => first | (go_simp; done) | (go_simp; rfl)); (case aP => exact k56_mkM _ _ _ (⟨b0, b1⟩ : S56)); (case aO => exact Kd.R_drewN (Kd.R_alloc HO1.out _) _); (case aB => have b1_ := HB0.out.alloc hbase (.cells #[.int .i64 b0, .int .i64 b1] 56); exact ⟨b1_.os, b1_.tape, b1_.output, b1_.size, b1_.block⟩); (case aS => show base ≤ (w.alloc _).heap.size; simp; omega); (case aL => simp only [List.length_nil]; omega); intro v1 w1 ho hb hg hat; obtain ⟨A3, c3, hv3⟩ := Kd.R_slice ho; subst hv3; have GS := Aside0.mk (blk_grown (blk_drewN (blk_alloc HS.out _) _) hg (Kd.R_ne HO1.out HS.out (by decide))); have HO := Aside0.mk ho; have HB := Aside0.mk hb; have q5 := blk_cell GS.out 0; have q6 := blk_frozen GS.out 0; clear ho hb hg hat)
    all_goals go_wp2
    all_goals (go_end0; exact ⟨rfl, _, _, HO.out, HB.out, GS.out, rfl⟩)
  · clear HO hs
    have n1 : g < w.heap.size := World.block_lt_of_cell? w _ q1
    have d3 : decide ((0 : Int) < (m : Int) + 1) = true := by simp
    have d4 : decide (z2 = b0) = false := by simpa using hz
    rw [hm] at HO1 HS hl
    have hm' := hm
    rw [hm] at q0
    clear hm
    go_enter Try.func24, Try.ntmps24
    go_wp2
    go_quiet (fail)
    go_wp2
    have gr := Aside0.mk (Kd.R_drewN (Kd.R_alloc HO1.out (.cells #[.int .i64 b0, .int .i64 b1] 56)) nq)
    go_region_law ((refine Kd.R_append_step k56 (w0 := w) base (by rfl) (.tmp 45) (.tmp 47) 50 56 (.agg #[.int .i64 0, .int .i64 0]) 16 rfl Try.underlying50 info56 rfl (by decide) (by omega) (.slice (some ⟨g, 0, none⟩) (m + 1) cap) xs ⟨b0, b1⟩ _ (fun _ => True) (fun _ => False) rfl ?aX ?aP (fun _ hk => hk.elim) (fun _ _ => trivial) ?aO ?aB ?aS ?aL ?_); (case aX => first | (go_simp; done) | (go_simp; rfl)); (case aP => exact k56_mkM _ _ _ (⟨b0, b1⟩ : S56)); (case aO => exact Kd.R_drewN (Kd.R_alloc HO1.out _) _); (case aB => have b1_ := HB0.out.alloc hbase (.cells #[.int .i64 b0, .int .i64 b1] 56); exact ⟨b1_.os, b1_.tape, b1_.output, b1_.size, b1_.block⟩); (case aS => show base ≤ (w.alloc _).heap.size; simp; omega); (case aL => rw [hm']; omega); intro v1 w1 ho hb hg hat; obtain ⟨A3, c3, hv3⟩ := Kd.R_slice ho; subst hv3; have GS := Aside0.mk (blk_grown (blk_drewN (blk_alloc HS.out _) _) hg (Kd.R_ne HO1.out HS.out (by decide))); have HO := Aside0.mk ho; have HB := Aside0.mk hb; have q5 := blk_cell GS.out 0; have q6 := blk_frozen GS.out 0; clear ho hb hg hat)
    all_goals go_wp2
    all_goals (go_end0; exact ⟨rfl, _, _, HO.out, HB.out, by rw [hm']; exact GS.out, by simp [hm']⟩)

/-- What AppendRange makes of a scope. -/
theorem scope_add (gs base : Nat) (A : Option Addr) (cap : Nat) (l : List (Int × Int)) (b0 b1 : Int) (w : World)
    (hs : w.heap[gs]? = some (.cells #[.slice A (uk l).length cap] 53 (0, 0))) (HO : Kd.R k56 56 w base (fun _ => True) (.slice A (uk l).length cap) (uk l)) (hbase : base ≤ w.heap.size) (hgs : base ≤ gs) (hl : l.length < 4000000000000) :
    Calls Try.prog 24 #[.pointer (some ⟨gs, 0, none⟩), .agg #[.int .i64 b0, .int .i64 b1]] w fun e w' => e = .returned (.tuple #[]) ∧ ∃ v1, Kd.R k56 56 w' base (fun _ => True) v1 (uk (added l b0 b1)) ∧ Below base w w' ∧ w'.heap[gs]? = some (.cells #[v1] 53 (0, 0)) := by
  have hul := uk_length l
  by_cases h : b1 ≤ b0
  · refine (scope_add_none gs b0 b1 h w).mono ?_
    rintro e w' ⟨rfl, rfl⟩
    refine ⟨rfl, _, ?_, ((Below.refl _ _).mono hbase).alloc hbase _, blk_alloc hs _⟩
    have e : added l b0 b1 = l := by simp [added, h]
    rw [e]
    exact Kd.R_alloc HO _
  · have h' : b0 < b1 := by omega
    have fin : added l b0 b1 = l ++ [(b0, b1)] → (uk l = [] ∨ ∃ g m z1 z2, A = some ⟨g, 0, none⟩ ∧ (uk l).length = m + 1 ∧ w.cell? ⟨g, m * 2, none⟩ = some (.int .i64 z1) ∧ w.cell? ⟨g, m * 2 + 1, none⟩ = some (.int .i64 z2) ∧ z2 ≠ b0) →
        Calls Try.prog 24 #[.pointer (some ⟨gs, 0, none⟩), .agg #[.int .i64 b0, .int .i64 b1]] w fun e w' => e = .returned (.tuple #[]) ∧ ∃ v1, Kd.R k56 56 w' base (fun _ => True) v1 (uk (added l b0 b1)) ∧ Below base w w' ∧ w'.heap[gs]? = some (.cells #[v1] 53 (0, 0)) := by
      intro e hx
      refine (scope_add_new gs base A cap (uk l) b0 b1 h' w hs HO hbase (by rw [hul]; exact hl) hx).mono ?_
      rintro e' w' ⟨rfl, v1, w1, ho, hb, hs1, rfl⟩
      refine ⟨rfl, v1, ?_, Below.setCell hb hgs _, blk_set hs1 0 v1⟩
      rw [e]
      have : uk (l ++ [(b0, b1)]) = uk l ++ [⟨b0, b1⟩] := by simp [uk]
      rw [this]
      exact Kd.R_set ho hs1 (by decide) 0 v1
    rcases List.eq_nil_or_concat l with hn | ⟨l', z, hn⟩
    · subst hn
      exact fin (by simp [added, h]) (.inl rfl)
    · have hlen : (uk l).length = l'.length + 1 := by rw [uk_length, hn]; simp
      obtain ⟨g, cap', hv, hb, hlt, _⟩ := Kd.R_form HO (by omega)
      injection hv with hA hn2 hc2
      subst hA
      obtain ⟨c, hcl, hM, hcc, hcf⟩ := Kd.R_elem HO z56 (l'.length : Int) (by omega) (by omega)
      have hz : (uk l).getD (l'.length : Int).toNat z56 = ⟨z.1, z.2⟩ := by rw [hn]; simp [uk]
      rw [hz] at hM
      have hk : c = [.int .i64 z.1, .int .i64 z.2] := by
        obtain ⟨a, b, hc, ha, hb⟩ := hM
        subst hc
        rw [ha, hb]
        rfl
      subst hk
      have q1 : w.cell? ⟨g, l'.length * 2, none⟩ = some (.int .i64 z.1) := hcc 0 _ rfl
      have q2 : w.cell? ⟨g, l'.length * 2 + 1, none⟩ = some (.int .i64 z.2) := hcc 1 _ rfl
      by_cases hzb : z.2 = b0
      · have e : added l b0 b1 = l' ++ [(z.1, b1)] := by rw [hn]; simp [added, h, hzb]
        rw [hlen] at hs
        have hcap : l'.length + 1 ≤ cap := by have := (Kd.R_reads' HO).2.1; omega
        refine (scope_add_set gs g cap l'.length z.1 b0 b1 h' w ((blk_cell hs 0).trans rfl) q1 (by rw [q2, hzb]) (hcf 1) (by rw [hn] at hl; simp at hl; omega) hcap).mono ?_
        rintro e' w' ⟨rfl, n, rfl⟩
        have HO' : Kd.R k56 56 ((w.alloc (.cells #[.int .i64 b0, .int .i64 b1] 56)).drewN n) base (fun _ => True) (.slice (some ⟨g, 0, none⟩) (uk l).length cap) (uk l) := Kd.R_drewN (Kd.R_alloc HO _) n
        have hi : (l'.length : Int).toNat = l'.length := by simp
        have hseg := (Kd.R_seg HO' (l'.length : Int) (by omega) (by omega) (c := [.int .i64 z.1, .int .i64 z.2]) (seg := [.int .i64 b1]) (j := 1) (okp := fun _ => False) (x' := ⟨z.1, b1⟩) rfl (fun j u hu => ?hcc) (Nat.le_refl 2) (k56_mkM _ _ _ ⟨z.1, b1⟩) (fun _ hk => hk.elim)).1
        case hcc =>
          have h1 := hcc j u hu
          exact pw_cell_below ((Below.refl w.heap.size w).alloc (Nat.le_refl _) (.cells #[.int .i64 b0, .int .i64 b1] 56)) h1
        have hset : (uk l).set (l'.length : Int).toNat ⟨z.1, b1⟩ = uk (l' ++ [(z.1, b1)]) := by rw [hn]; simp [uk]
        rw [hset] at hseg
        have hne : gs ≠ g := fun he => Kd.R_ne HO hs (by decide) (by rw [he]; rfl)
        refine ⟨rfl, .slice (some ⟨g, 0, none⟩) (uk l).length cap, ?_, ?_, ?_⟩
        · rw [e]
          exact hseg
        · have b1_ := ((Below.refl base w).alloc hbase (.cells #[.int .i64 b0, .int .i64 b1] 56))
          exact Below.setCell (w := (w.alloc (.cells #[.int .i64 b0, .int .i64 b1] 56)).drewN n) ⟨b1_.os, b1_.tape, b1_.output, b1_.size, b1_.block⟩ hb _
        · rw [hlen]
          exact (setCells_far [.int .i64 b1] (l'.length * 2 + 1) gs hne).trans (blk_drewN (blk_alloc hs _) n)
      · refine fin (by rw [hn]; simp [added, h, hzb]) (.inr ⟨g, l'.length, z.1, z.2, rfl, hlen, q1, q2, hzb⟩)

set_option maxHeartbeats 400000 in
theorem impl_AppendRange.calls (A0 : Option Addr) (c0 : Nat) (l0 : List S24) (a1_0 a1_1 : Int) (r : List S24) (w : World) (hr0 : Kd.C k24 w A0 l0.length l0) (hc0 : l0.length ≤ c0) (h : impl_AppendRange.f l0 a1_0 a1_1 = some r) :
    Calls Try.prog 11 #[.slice A0 l0.length c0, .agg #[.int .i64 a1_0, .int .i64 a1_1]] w fun e w' => ∃ v0_ : Value, e = .returned (v0_) ∧ Kd.R k24 24 w' w.heap.size (fun _ => True) v0_ r ∧ Below w.heap.size w w' := by
  unfold impl_AppendRange.f at h
  by_cases hl : l0.length < 4000000000000
  · rw [if_pos hl] at h
    obtain rfl := Option.some.inj h
    have hm : (added (pl l0) a1_0 a1_1).length ≤ l0.length + 1 := by
      have h0 := pl_length l0
      unfold added
      split
      · omega
      · split
        · split
          · simp; omega
          · simp [h0]
        · simp [h0]
    obtain ⟨k1, hk1⟩ := Ev.rounds (to_f l0 (by omega))
    obtain ⟨k3, hk3⟩ := Ev.rounds (of_f (added (pl l0) a1_0 a1_1) (by omega))
    have HK1 := Aside0.mk hk1
    have HK3 := Aside0.mk hk3
    have HR0 := Aside0.mk hr0
    have HC0 := Aside0.mk hc0
    have HL := Aside0.mk hl
    clear h hm hk1 hk3 hr0 hc0 hl
    go_enter Try.func11, Try.ntmps11
    go_wp2_with fail
    refine (impl_rangesTo.calls k1 A0 c0 l0 (uk (pl l0)) _ (Kd.C_below HR0.out (below_alloc (Below.refl _ _) _)) HC0.out HK1.out).mono ?_
    rintro e w1 ⟨v1, rfl, ho1, hb1⟩
    obtain ⟨B1, d1, hv1⟩ := Kd.R_slice ho1
    subst hv1
    have hbx : w1.heap[w.heap.size]? = some (.cells #[.int .i64 a1_0, .int .i64 a1_1] 24 (0, 0)) := (hb1.block _ (by simp)).trans (heap_alloc_new w _)
    have q0 : w1.cell? ⟨w.heap.size, 0, none⟩ = some (.int .i64 a1_0) := (blk_cell hbx 0).trans rfl
    have q1 : w1.cell? ⟨w.heap.size, 1, none⟩ = some (.int .i64 a1_1) := (blk_cell hbx 1).trans rfl
    have n0 : w.heap.size < w1.heap.size := blk_lt hbx
    have HO1 := Aside0.mk (Kd.R_lower ho1 (by simp : w.heap.size ≤ _))
    have HB1 := Aside0.mk (below_step (below_alloc (Below.refl w.heap.size w) _) hb1)
    clear ho1 hb1 hbx
    go_wp2_with fail
    refine (scope_add w1.heap.size w.heap.size B1 d1 (pl l0) a1_0 a1_1 _ (heap_alloc_new w1 _) (Kd.R_alloc HO1.out _) (by simp; omega) (by omega) (by rw [pl_length]; exact HL.out)).mono ?_
    rintro e w2 ⟨rfl, v2, ho2, hb2, hs2⟩
    obtain ⟨B3, d3, hv3⟩ := Kd.R_slice ho2
    subst hv3
    have q5 : w2.cell? ⟨w1.heap.size, 0, none⟩ = some (.slice B3 (uk (added (pl l0) a1_0 a1_1)).length d3) := (blk_cell hs2 0).trans rfl
    have HBB : Aside0 (Below w.heap.size w w2) := ⟨(HB1.out.alloc (by omega) _).trans hb2⟩
    have HO2 := Aside0.mk (Kd.R_reads' ho2)
    clear ho2 hb2 hs2
    go_wp2_with fail
    refine (impl_rangesOf.calls k3 B3 d3 (uk (added (pl l0) a1_0 a1_1)) (Link.up (added (pl l0) a1_0 a1_1)) _ HO2.out.2.2 HO2.out.2.1 HK3.out).mono ?_
    rintro e w6 ⟨v6, rfl, ho6, hb6⟩
    have HO6 := Aside0.mk (Kd.R_lower ho6 (below_size HBB.out))
    have HB6 := Aside0.mk (below_step HBB.out hb6)
    clear ho6 hb6
    go_wp2_with fail
    go_ret
    exact ⟨_, rfl, HO6.out, HB6.out⟩
  · rw [if_neg hl] at h
    cases h

end Go.Proofs.Ytepealmdnaondaa.PAll
