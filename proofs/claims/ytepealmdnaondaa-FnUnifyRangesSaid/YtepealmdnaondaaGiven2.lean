/- The contract of impl.UnifyRanges, proved by hand. -/
import Derived.Test.YtepealmdnaondaaLink
import Derived.Test.YtepealmdnaondaaPAllx4
import Derived.Test.YtepealmdnaondaaPAllx5
import Derived.Deep.RegionWith
namespace Go.Proofs.Ytepealmdnaondaa.PAll
open Go.RowKit Go.Proofs.YtepealmdnaondaaW.PrintWords Go.Proofs.YtepealmdnaondaaW.PrintLast Go.Proofs.YtepealmdnaondaaW.PrintMore Go.Proofs.Ytepealmdnaondaa.Ranges Go.Proofs.Ytepealmdnaondaa.Link

def impl_UnifyRanges.f (l0 l1 : List S24) : Option (List S24) := if l0.length < 4000000000000 ∧ l1.length < 4000000000000 then some (Link.up (merged (pl l0) (pl l1))) else none

set_option maxHeartbeats 400000 in
theorem scope_unify (gs gc : Nat) (A1 A2 : Option Addr) (c1 c2 : Nat) (l1 l2 : List (Int × Int)) (w : World)
    (hs : w.heap[gs]? = some (.cells #[.slice A1 (uk l1).length c1] 53 (0, 0))) (hc : w.heap[gc]? = some (.cells #[.slice A2 (uk l2).length c2] 53 (0, 0)))
    (h1 : Kd.C k56 w A1 (uk l1).length (uk l1)) (h2 : Kd.C k56 w A2 (uk l2).length (uk l2)) (hc1 : (uk l1).length ≤ c1) (hc2 : (uk l2).length ≤ c2) (hl1 : l1.length < 4000000000000) (hl2 : l2.length < 4000000000000) :
    Calls Try.prog 27 #[.pointer (some ⟨gs, 0, none⟩), .pointer (some ⟨gc, 0, none⟩)] w fun e w' => e = .returned (.tuple #[]) ∧ ∃ v3 w1, Below w.heap.size w w1 ∧ Kd.R k56 56 w1 w.heap.size (fun _ => True) v3 (uk (merged l1 l2)) ∧ w' = w1.setCell ⟨gs, 0, none⟩ v3 := by
  obtain ⟨k, hk⟩ := Ev.rounds (merge_f l1 l2 hl1 hl2)
  have HK := Aside0.mk hk
  have H1 := Aside0.mk h1
  have H2 := Aside0.mk h2
  have HC1 := Aside0.mk hc1
  have HC2 := Aside0.mk hc2
  have HS := Aside0.mk hs
  have q1 : w.cell? ⟨gs, 0, none⟩ = some (.slice A1 (uk l1).length c1) := (blk_cell hs 0).trans rfl
  have q2 : w.cell? ⟨gc, 0, none⟩ = some (.slice A2 (uk l2).length c2) := (blk_cell hc 0).trans rfl
  clear hk h1 h2 hc1 hc2 hs hc hl1 hl2
  go_enter Try.func27, Try.ntmps27
  go_wp2
  go_region_with (go_at_call 26; refine (dwarfwrite_MergeRanges.calls k A1 c1 (uk l1) A2 c2 (uk l2) (uk (merged l1 l2)) _ ?_ HC1.out ?_ HC2.out HK.out).mono ?_; (exact H1.out); (exact H2.out); rintro e w1 ⟨v3, rfl, ho, hb⟩; obtain ⟨A3, c3, hv3⟩ := Kd.R_slice ho; subst hv3; have HO := Aside0.mk ho; have HB := Aside0.mk hb; have q3 : w1.cell? ⟨gs, 0, none⟩ = some (.slice A1 (uk l1).length c1) := pw_cell_below hb q1; have q4 : w1.frozen? ⟨gs, 0, none⟩ = false := (hb.frozen (blk_lt HS.out)).trans (blk_frozen HS.out 0); clear ho hb)
  all_goals (go_end0; exact ⟨rfl, _, w1, ⟨HB.out.os, HB.out.tape, HB.out.output, HB.out.size, HB.out.block⟩, HO.out, rfl⟩)

theorem c_up {l : List S24} {A : Option Addr} {w : World} (h : Kd.C k24 w A l.length l) : Kd.C k24 w A (Link.up (pl l)).length (Link.up (pl l)) := by rw [up_pl]; exact h

set_option maxHeartbeats 400000 in
theorem impl_UnifyRanges.calls (A0 : Option Addr) (c0 : Nat) (l0 : List S24) (A1 : Option Addr) (c1 : Nat) (l1 : List S24) (r : List S24) (w : World) (hr0 : Kd.C k24 w A0 l0.length l0) (hc0 : l0.length ≤ c0) (hr1 : Kd.C k24 w A1 l1.length l1) (hc1 : l1.length ≤ c1) (h : impl_UnifyRanges.f l0 l1 = some r) :
    Calls Try.prog 17 #[.slice A0 l0.length c0, .slice A1 l1.length c1] w fun e w' => ∃ v0_ : Value, e = .returned (v0_) ∧ Kd.R k24 24 w' w.heap.size (fun _ => True) v0_ r ∧ Below w.heap.size w w' := by
  unfold impl_UnifyRanges.f at h
  by_cases hl : l0.length < 4000000000000 ∧ l1.length < 4000000000000
  · rw [if_pos hl] at h
    obtain rfl := Option.some.inj h
    have hm := merged_length (pl l0) (pl l1)
    rw [pl_length, pl_length] at hm
    obtain ⟨k1, hk1⟩ := Ev.rounds (to_f l0 (by omega))
    obtain ⟨k2, hk2⟩ := Ev.rounds (to_f l1 (by omega))
    obtain ⟨k3, hk3⟩ := Ev.rounds (of_f (merged (pl l0) (pl l1)) (by omega))
    have HK1 := Aside0.mk hk1
    have HK2 := Aside0.mk hk2
    have HK3 := Aside0.mk hk3
    have HR0 := Aside0.mk hr0
    have HR1 := Aside0.mk hr1
    have HC0 := Aside0.mk hc0
    have HC1 := Aside0.mk hc1
    have HL := Aside0.mk hl
    clear h hm hk1 hk2 hk3 hr0 hr1 hc0 hc1 hl
    go_enter Try.func17, Try.ntmps17
    go_wp2_with fail
    refine (impl_rangesTo.calls k1 A0 c0 l0 (uk (pl l0)) _ HR0.out HC0.out HK1.out).mono ?_
    rintro e w1 ⟨v1, rfl, ho1, hb1⟩
    obtain ⟨B1, d1, hv1, hd1, hC1⟩ := Kd.R_reads ho1
    subst hv1
    have HO1 := Aside0.mk hC1
    have HD1 := Aside0.mk hd1
    have HB1 := Aside0.mk hb1
    clear ho1 hb1 hC1 hd1
    go_wp2_with fail
    refine (impl_rangesTo.calls k2 A1 c1 l1 (uk (pl l1)) _ (Kd.C_below HR1.out (below_alloc HB1.out _)) HC1.out HK2.out).mono ?_
    rintro e w2 ⟨v2, rfl, ho2, hb2⟩
    obtain ⟨B2, d2, hv2, hd2, hC2⟩ := Kd.R_reads ho2
    subst hv2
    have HO2 := Aside0.mk hC2
    have HD2 := Aside0.mk hd2
    have HB2 := Aside0.mk hb2
    have BK1 : Aside0 (w2.heap[w1.heap.size]? = some (.cells #[.slice B1 (uk (pl l0)).length d1] 53 (0, 0))) := ⟨(hb2.block _ (by simp)).trans (heap_alloc_new w1 _)⟩
    clear ho2 hb2 hC2 hd2
    go_wp2_with fail
    have hs : (w2.alloc (.cells #[.slice B2 (uk (pl l1)).length d2] 53)).heap[w1.heap.size]? = some (.cells #[.slice B1 (uk (pl l0)).length d1] 53 (0, 0)) := (Below.heap_alloc w2 _ _ (blk_lt BK1.out)).trans BK1.out
    have hcx : (w2.alloc (.cells #[.slice B2 (uk (pl l1)).length d2] 53)).heap[w2.heap.size]? = some (.cells #[.slice B2 (uk (pl l1)).length d2] 53 (0, 0)) := heap_alloc_new w2 _
    have hb12 : Below w1.heap.size w1 w2 := (below_alloc (Below.refl _ _) _).trans (HB2.out.mono (by simp))
    refine (scope_unify w1.heap.size w2.heap.size B1 B2 d1 d2 (pl l0) (pl l1) _ hs hcx (Kd.C_below (Kd.C_below HO1.out hb12) (below_alloc (Below.refl _ _) _)) (Kd.C_below HO2.out (below_alloc (Below.refl _ _) _)) HD1.out HD2.out (by rw [pl_length]; exact HL.out.1) (by rw [pl_length]; exact HL.out.2)).mono ?_
    rintro e w3 ⟨rfl, v3, w4, hb4, ho4, rfl⟩
    obtain ⟨B3, d3, hv3, hd3, hC3⟩ := Kd.R_reads ho4
    subst hv3
    have hs4 : w4.heap[w1.heap.size]? = some (.cells #[.slice B1 (uk (pl l0)).length d1] 53 (0, 0)) := (hb4.block _ (blk_lt hs)).trans hs
    have hs5 := blk_set hs4 0 (.slice B3 (uk (merged (pl l0) (pl l1))).length d3)
    have q5 : (w4.setCell ⟨w1.heap.size, 0, none⟩ (.slice B3 (uk (merged (pl l0) (pl l1))).length d3)).cell? ⟨w1.heap.size, 0, none⟩ = some (.slice B3 (uk (merged (pl l0) (pl l1))).length d3) := (blk_cell hs5 0).trans rfl
    have HQ : Aside0 (Kd.R k56 56 (w4.setCell ⟨w1.heap.size, 0, none⟩ (.slice B3 (uk (merged (pl l0) (pl l1))).length d3)) (w2.heap.size + 1) (fun k => w2.heap.size < k) (.slice B3 (uk (merged (pl l0) (pl l1))).length d3) (uk (merged (pl l0) (pl l1)))) := by
      have h12 := hb12.size
      refine ⟨Kd.R_far (Kd.R_mono (Kd.R_bound (base := w2.heap.size + 1) (by simpa using ho4)) (fun k hk => ?_)) (fun k hk => ?_) _⟩
      · have := hk.2.1
        omega
      · show k ≠ w1.heap.size
        omega
    have HBB : Aside0 (Below w.heap.size w (w4.setCell ⟨w1.heap.size, 0, none⟩ (.slice B3 (uk (merged (pl l0) (pl l1))).length d3))) := by
      refine ⟨Below.setCell ?_ HB1.out.size _⟩
      exact below_step (below_alloc (below_step HB1.out hb12) _) hb4
    have HD3 := Aside0.mk hd3
    clear hs hcx hb12 hb4 ho4 hC3 hs4 hs5 hd3
    go_wp2_with fail
    refine (impl_rangesOf.calls k3 B3 d3 (uk (merged (pl l0) (pl l1))) (Link.up (merged (pl l0) (pl l1))) _ (Kd.R_reads' HQ.out).2.2 HD3.out HK3.out).mono ?_
    rintro e w6 ⟨v6, rfl, ho6, hb6⟩
    have HO6 := Aside0.mk (Kd.R_lower ho6 (below_size HBB.out))
    have HB6 := Aside0.mk (below_step HBB.out hb6)
    clear ho6 hb6
    go_wp2_with fail
    go_ret
    exact ⟨_, rfl, HO6.out, HB6.out⟩
  · rw [if_neg hl] at h
    cases h

end Go.Proofs.Ytepealmdnaondaa.PAll
