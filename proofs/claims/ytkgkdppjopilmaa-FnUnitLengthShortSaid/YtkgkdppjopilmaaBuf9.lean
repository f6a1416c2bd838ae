/- The reader of bytes (package dwarf, type buf) as a state: numbers of a fixed size. -/
import Derived.Test.YtkgkdppjopilmaaProg
import Derived.Below
import Derived.Deep.Draws
import Derived.Deep.AppendLies
import Derived.Maps.AppendAt
import Derived.OwnWalk
import Derived.Laws.BytesArg
import Derived.Laws.MakeOwn
import Derived.Laws.OwnMore
import Derived.Deep.OwnRows
import Derived.Tactics
import Derived.Lib.ConvBytes
import Derived.Laws.Slices
import Derived.WalkKit
import Derived.KernelRfl
import Derived.RowKit3
import Derived.Deep.LoopGhost
import Derived.Deep.QuietTactic
import Derived.BigQuiet
import Derived.WideLaws
import Derived.Deep.DeepCutAuto
import Derived.Deep.CutBlock
import Derived.Deep.RegionHeld3
import Derived.Laws.Rows
import Derived.Lib.AppendStr
import Derived.ArgAppend
import Derived.Laws.IdiomCopy
import Derived.OrdersHeld
import Derived.Laws.BitsLemmas
import Derived.RowKit
import Derived.Test.YtkgkdppjopilmaaWWords
import Derived.Test.YtkgkdppjopilmaaWLast
import Derived.Test.YtkgkdppjopilmaaWTab
import Derived.Test.YtkgkdppjopilmaaWFour
import Derived.Test.YtkgkdppjopilmaaWQPut
import Derived.Test.YtkgkdppjopilmaaWApart
import Derived.Test.YtkgkdppjopilmaaWArr
import Derived.Test.YtkgkdppjopilmaaWZeros
import Derived.Test.YtkgkdppjopilmaaWFoot
import Derived.Test.YtkgkdppjopilmaaWKept
import Derived.Test.YtkgkdppjopilmaaWShare
import Derived.Test.YtkgkdppjopilmaaWN
import Derived.Test.YtkgkdppjopilmaaWFootNe
import Derived.Test.YtkgkdppjopilmaaWAt
import Derived.Test.YtkgkdppjopilmaaWEqStruct
import Derived.Test.YtkgkdppjopilmaaWRepsOne
import Derived.Test.YtkgkdppjopilmaaWInv
import Derived.Test.YtkgkdppjopilmaaWInvWords
import Derived.Test.YtkgkdppjopilmaaWGuard
import Derived.Test.YtkgkdppjopilmaaWNEv
import Derived.Test.YtkgkdppjopilmaaWMore
import Derived.Test.YtkgkdppjopilmaaBuf8
namespace Go.Proofs.Ytkgkdppjopilmaa.Buf
open Go.RowKit Go.Proofs.YtkgkdppjopilmaaW.PrintWords Go.Proofs.YtkgkdppjopilmaaW.PrintLast Go.Proofs.YtkgkdppjopilmaaW.PrintMore Go.Proofs.Ytkgkdppjopilmaa.Leb

theorem Has.below {w w' : World} {g t : Nat} {rest : Array Value} {c : BC} {s : S} (h : Has w g t rest c s) (hb : Below w.heap.size w w') : Has w' g t rest c s := by
  obtain ⟨A, cap, ev, hg, hC, hc, he⟩ := h.at_
  exact ⟨⟨A, cap, ev, (hb.block g (blk_lt hg)).trans hg, Kd.C_below hC hb, hc, he⟩, h.len, h.byte, h.nil_⟩

/-- uint32, as a state. -/
def S.u32 (big : Bool) (s : S) : Int × S := match s.l with
  | b0 :: b1 :: b2 :: b3 :: _ => (four big b0 b1 b2 b3, s.adv 4)
  | _ => (0, s.fail)
/-- uint64, as a state. -/
def S.u64 (big : Bool) (s : S) : Int × S := match s.l with
  | b0 :: b1 :: b2 :: b3 :: b4 :: b5 :: b6 :: b7 :: _ => (eight big b0 b1 b2 b3 b4 b5 b6 b7, s.adv 8)
  | _ => (0, s.fail)

set_option maxRecDepth 10000 in
theorem uint32_has {w : World} {g t : Nat} {rest : Array Value} {c : BC} {s : S} (hH : Has w g t rest c s) :
    Calls Try.prog 45 #[.pointer (some ⟨g, 0, none⟩)] w fun e w' => e = .returned (.int .u32 (s.u32 c.big).1) ∧ Has w' g t rest c (s.u32 c.big).2 ∧ Kp w w' g := by
  have HV := Aside0.mk (bytes_has hH 4 (by decide))
  have HB := Aside0.mk hH.byte
  have en := fun W => eql_nil W
  by_cases hc : 4 ≤ s.l.length
  · obtain ⟨b0, b1, b2, b3, r, hl⟩ : ∃ b0 b1 b2 b3 r, s.l = b0 :: b1 :: b2 :: b3 :: r := by
      rcases hs : s.l with _ | ⟨b0, _ | ⟨b1, _ | ⟨b2, _ | ⟨b3, r⟩⟩⟩⟩ <;> first | (rw [hs] at hc; simp at hc; done) | exact ⟨_, _, _, _, _, rfl⟩
    have HR : Aside0 (s.u32 c.big = (four c.big b0 b1 b2 b3, s.adv 4) ∧ s.bytes 4 = s.adv 4) := ⟨by unfold S.u32; rw [hl], by unfold S.bytes; rw [if_pos hc]⟩
    have HC := Aside0.mk hc
    have HL := Aside0.mk hl
    clear hH hc hl
    go_enter Try.func45, Try.ntmps45
    go_wp2_with fail
    refine HV.out.mono ?_
    rintro e w1 ⟨⟨v, rfl, hb⟩, hh, hk⟩
    unfold BRes at hb
    rw [if_pos HC.out] at hb
    obtain ⟨hrow, hsm⟩ := hb
    obtain ⟨ad, cap, rfl⟩ := hsm (by decide)
    obtain ⟨A', cap', hv, hC, hcp⟩ := hrow
    injection hv with e1 e2 e3
    subst e1
    subst e3
    have hlen : (s.l.take 4).length = 4 := by rw [List.length_take]; have := HC.out; omega
    rw [HR.out.2] at hh
    rw [hlen] at hcp
    obtain ⟨A2, cap2, ev2, q1, _, _, q5, _, _, fz, _, _⟩ := hh.parts
    have n1 : g < w1.heap.size := World.block_lt_of_cell? w1 _ q1
    have HH := Aside0.mk hh
    have HK := Aside0.mk hk
    have HCP := Aside0.mk hcp
    have HC1 := Aside0.mk hC
    clear hh hk hC hcp q5 fz e2
    go_wp2_with fail
    have hb0 := HB.out b0 (by rw [HL.out]; simp)
    have hb1 := HB.out b1 (by rw [HL.out]; simp)
    have hb2 := HB.out b2 (by rw [HL.out]; simp)
    have hb3 := HB.out b3 (by rw [HL.out]; simp)
    have at_ : ∀ i (h : i < 4), w1.cell? (ad.add i) = some (.int .u8 ((s.l.take 4)[i]'(by rw [hlen]; exact h))) := fun i h => by
      obtain ⟨ad', e2, hx⟩ := at_nat HC1.out i (by rw [hlen]; exact h)
      cases e2
      exact hx
    simp only [HL.out, List.take_succ_cons, List.take_zero] at at_
    refine (Uint32_calls c.big ad cap 4 b0 b1 b2 b3 w1 hb0 hb1 hb2 hb3 (by decide) HCP.out (at_ 0 (by decide)) (at_ 1 (by decide)) (at_ 2 (by decide)) (at_ 3 (by decide))).mono ?_
    rintro e w2 ⟨rfl, hb⟩
    have HB2 := Aside0.mk hb
    clear hb
    go_wp2_with fail
    go_ret
    rw [HR.out.1]
    exact ⟨rfl, HH.out.below HB2.out, HK.out.trans (Kp.of_below HB2.out)⟩
  · have HR : Aside0 (s.u32 c.big = (0, s.fail) ∧ s.bytes 4 = s.fail) := ⟨by
      unfold S.u32
      rcases hs : s.l with _ | ⟨b0, _ | ⟨b1, _ | ⟨b2, _ | ⟨b3, r⟩⟩⟩⟩ <;> first | rfl | (rw [hs] at hc; simp at hc), by unfold S.bytes; rw [if_neg hc]⟩
    have HC := Aside0.mk hc
    clear hH hc
    go_enter Try.func45, Try.ntmps45
    go_wp2_with fail
    refine HV.out.mono ?_
    rintro e w1 ⟨⟨v, rfl, hb⟩, hh, hk⟩
    unfold BRes at hb
    rw [if_neg HC.out] at hb
    subst hb
    rw [HR.out.2] at hh
    have HH := Aside0.mk hh
    have HK := Aside0.mk hk
    clear hh hk
    go_wp2_with fail
    go_ret
    rw [HR.out.1]
    exact ⟨rfl, HH.out, HK.out⟩
set_option maxRecDepth 10000 in
theorem uint64_has {w : World} {g t : Nat} {rest : Array Value} {c : BC} {s : S} (hH : Has w g t rest c s) :
    Calls Try.prog 46 #[.pointer (some ⟨g, 0, none⟩)] w fun e w' => e = .returned (.int .u64 (s.u64 c.big).1) ∧ Has w' g t rest c (s.u64 c.big).2 ∧ Kp w w' g := by
  have HV := Aside0.mk (bytes_has hH 8 (by decide))
  have HB := Aside0.mk hH.byte
  have en := fun W => eql_nil W
  by_cases hc : 8 ≤ s.l.length
  · obtain ⟨b0, b1, b2, b3, b4, b5, b6, b7, r, hl⟩ : ∃ b0 b1 b2 b3 b4 b5 b6 b7 r, s.l = b0 :: b1 :: b2 :: b3 :: b4 :: b5 :: b6 :: b7 :: r := by
      rcases hs : s.l with _ | ⟨b0, _ | ⟨b1, _ | ⟨b2, _ | ⟨b3, _ | ⟨b4, _ | ⟨b5, _ | ⟨b6, _ | ⟨b7, r⟩⟩⟩⟩⟩⟩⟩⟩ <;> first | (rw [hs] at hc; simp at hc; done) | exact ⟨_, _, _, _, _, _, _, _, _, rfl⟩
    have HR : Aside0 (s.u64 c.big = (eight c.big b0 b1 b2 b3 b4 b5 b6 b7, s.adv 8) ∧ s.bytes 8 = s.adv 8) := ⟨by unfold S.u64; rw [hl], by unfold S.bytes; rw [if_pos hc]⟩
    have HC := Aside0.mk hc
    have HL := Aside0.mk hl
    clear hH hc hl
    go_enter Try.func46, Try.ntmps46
    go_wp2_with fail
    refine HV.out.mono ?_
    rintro e w1 ⟨⟨v, rfl, hb⟩, hh, hk⟩
    unfold BRes at hb
    rw [if_pos HC.out] at hb
    obtain ⟨hrow, hsm⟩ := hb
    obtain ⟨ad, cap, rfl⟩ := hsm (by decide)
    obtain ⟨A', cap', hv, hC, hcp⟩ := hrow
    injection hv with e1 e2 e3
    subst e1
    subst e3
    have hlen : (s.l.take 8).length = 8 := by rw [List.length_take]; have := HC.out; omega
    rw [HR.out.2] at hh
    rw [hlen] at hcp
    obtain ⟨A2, cap2, ev2, q1, _, _, q5, _, _, fz, _, _⟩ := hh.parts
    have n1 : g < w1.heap.size := World.block_lt_of_cell? w1 _ q1
    have HH := Aside0.mk hh
    have HK := Aside0.mk hk
    have HCP := Aside0.mk hcp
    have HC1 := Aside0.mk hC
    clear hh hk hC hcp q5 fz e2
    go_wp2_with fail
    have hb0 := HB.out b0 (by rw [HL.out]; simp)
    have hb1 := HB.out b1 (by rw [HL.out]; simp)
    have hb2 := HB.out b2 (by rw [HL.out]; simp)
    have hb3 := HB.out b3 (by rw [HL.out]; simp)
    have hb4 := HB.out b4 (by rw [HL.out]; simp)
    have hb5 := HB.out b5 (by rw [HL.out]; simp)
    have hb6 := HB.out b6 (by rw [HL.out]; simp)
    have hb7 := HB.out b7 (by rw [HL.out]; simp)
    have at_ : ∀ i (h : i < 8), w1.cell? (ad.add i) = some (.int .u8 ((s.l.take 8)[i]'(by rw [hlen]; exact h))) := fun i h => by
      obtain ⟨ad', e2, hx⟩ := at_nat HC1.out i (by rw [hlen]; exact h)
      cases e2
      exact hx
    simp only [HL.out, List.take_succ_cons, List.take_zero] at at_
    refine (Uint64_calls c.big ad cap 8 b0 b1 b2 b3 b4 b5 b6 b7 w1 hb0 hb1 hb2 hb3 hb4 hb5 hb6 hb7 (by decide) HCP.out (at_ 0 (by decide)) (at_ 1 (by decide)) (at_ 2 (by decide)) (at_ 3 (by decide)) (at_ 4 (by decide)) (at_ 5 (by decide)) (at_ 6 (by decide)) (at_ 7 (by decide))).mono ?_
    rintro e w2 ⟨rfl, hb⟩
    have HB2 := Aside0.mk hb
    clear hb
    go_wp2_with fail
    go_ret
    rw [HR.out.1]
    exact ⟨rfl, HH.out.below HB2.out, HK.out.trans (Kp.of_below HB2.out)⟩
  · have HR : Aside0 (s.u64 c.big = (0, s.fail) ∧ s.bytes 8 = s.fail) := ⟨by
      unfold S.u64
      rcases hs : s.l with _ | ⟨b0, _ | ⟨b1, _ | ⟨b2, _ | ⟨b3, _ | ⟨b4, _ | ⟨b5, _ | ⟨b6, _ | ⟨b7, r⟩⟩⟩⟩⟩⟩⟩⟩ <;> first | rfl | (rw [hs] at hc; simp at hc), by unfold S.bytes; rw [if_neg hc]⟩
    have HC := Aside0.mk hc
    clear hH hc
    go_enter Try.func46, Try.ntmps46
    go_wp2_with fail
    refine HV.out.mono ?_
    rintro e w1 ⟨⟨v, rfl, hb⟩, hh, hk⟩
    unfold BRes at hb
    rw [if_neg HC.out] at hb
    subst hb
    rw [HR.out.2] at hh
    have HH := Aside0.mk hh
    have HK := Aside0.mk hk
    clear hh hk
    go_wp2_with fail
    go_ret
    rw [HR.out.1]
    exact ⟨rfl, HH.out, HK.out⟩

/-- unitLength, as a state. -/
def S.unit (big : Bool) (s : S) : Int × Bool × S :=
  if (s.u32 big).1 = 4294967295 then ((((s.u32 big).2.u64 big).1) % 4294967296, true, ((s.u32 big).2.u64 big).2)
  else if (s.u32 big).1 ≥ 4294967280 then ((s.u32 big).1, false, (s.u32 big).2.fail)
  else ((s.u32 big).1, false, (s.u32 big).2)

theorem unit_has {w : World} {g t : Nat} {rest : Array Value} {c : BC} {s : S} (hH : Has w g t rest c s) :
    Calls Try.prog 40 #[.pointer (some ⟨g, 0, none⟩)] w fun e w' => e = .returned (.tuple #[.int .u32 (s.unit c.big).1, .bool (s.unit c.big).2.1]) ∧ Has w' g t rest c (s.unit c.big).2.2 ∧ Kp w w' g := by
  have HV := Aside0.mk (uint32_has hH)
  have n0 : g < w.heap.size := by obtain ⟨A, cap, ev, hg, _⟩ := hH.at_; exact blk_lt hg
  clear hH
  obtain ⟨v, hv⟩ : ∃ v, (s.u32 c.big).1 = v := ⟨_, rfl⟩
  by_cases h1 : v = 4294967295
  · subst h1
    have HR : Aside0 (s.unit c.big = ((((s.u32 c.big).2.u64 c.big).1) % 4294967296, true, ((s.u32 c.big).2.u64 c.big).2)) := ⟨by unfold S.unit; rw [if_pos hv]⟩
    go_enter Try.func40, Try.ntmps40
    go_wp2_with fail
    refine HV.out.mono ?_
    rw [hv]
    clear hv
    rintro e w1 ⟨rfl, hh, hk⟩
    have HK := Aside0.mk hk
    have HW := Aside0.mk (uint64_has hh)
    clear hh hk
    go_wp2_with fail
    refine HW.out.mono ?_
    obtain ⟨u, hu⟩ : ∃ u, ((s.u32 c.big).2.u64 c.big).1 = u := ⟨_, rfl⟩
    rw [hu]
    have HU := Aside0.mk hu
    clear hu
    rintro e w2 ⟨rfl, hh, hk⟩
    have HK2 := Aside0.mk hk
    have HH := Aside0.mk hh
    clear hh hk
    have hw : IntKind.u32.wrap u = u % 4294967296 := by simp [IntKind.wrap, IntKind.signed, IntKind.bits]
    go_wp2_with fail
    go_ret2
    rw [HR.out, HU.out]
    exact ⟨rfl, HH.out, HK.out.trans HK2.out⟩
  · have e1 : (v == 4294967295) = false := beq_eq_false_iff_ne.2 h1
    have e2 : decide (v = 4294967295) = false := decide_eq_false h1
    by_cases h2 : v ≥ 4294967280
    · have HR : Aside0 (s.unit c.big = (v, false, (s.u32 c.big).2.fail)) := ⟨by unfold S.unit; rw [hv, if_neg h1, if_pos h2]⟩
      have e3 : decide (4294967280 ≤ v) = true := decide_eq_true h2
      go_enter Try.func40, Try.ntmps40
      go_wp2_with fail
      refine HV.out.mono ?_
      rw [hv]
      clear hv
      rintro e w1 ⟨rfl, hh, hk⟩
      have HK := Aside0.mk hk
      have HW := Aside0.mk (fun m => fail_calls hh m)
      clear hh hk
      go_wp2_with fail
      refine (HW.out _).mono ?_
      rintro e w2 ⟨rfl, hh, hk⟩
      have HK2 := Aside0.mk hk
      have HH := Aside0.mk hh
      clear hh hk
      go_wp2_with fail
      go_ret2
      rw [HR.out]
      exact ⟨rfl, HH.out, HK.out.trans HK2.out⟩
    · have HR : Aside0 (s.unit c.big = (v, false, (s.u32 c.big).2)) := ⟨by unfold S.unit; rw [hv, if_neg h1, if_neg h2]⟩
      have e3 : decide (4294967280 ≤ v) = false := decide_eq_false h2
      go_enter Try.func40, Try.ntmps40
      go_wp2_with fail
      refine HV.out.mono ?_
      rw [hv]
      clear hv
      rintro e w1 ⟨rfl, hh, hk⟩
      have HK := Aside0.mk hk
      have HH := Aside0.mk hh
      clear hh hk
      go_wp2_with fail
      go_ret2
      rw [HR.out]
      exact ⟨rfl, HH.out, HK.out⟩
end Go.Proofs.Ytkgkdppjopilmaa.Buf
