/- The contract of dwarf.UnitLength, proved by hand. -/
import Derived.Test.YtkgkdppjopilmaaProg
import Derived.Below
import Derived.Deep.Draws
import Derived.Deep.AppendLies
import Derived.Maps.AppendAt
import Derived.OwnWalk
import Derived.Laws.BytesArg
import Derived.Laws.MakeOwn
import Derived.Laws.OwnMore
import Derived.Deep.OwnRows
import Derived.Tactics
import Derived.Lib.ConvBytes
import Derived.Laws.Slices
import Derived.WalkKit
import Derived.KernelRfl
import Derived.RowKit3
import Derived.Deep.LoopGhost
import Derived.Deep.QuietTactic
import Derived.BigQuiet
import Derived.WideLaws
import Derived.Deep.DeepCutAuto
import Derived.Deep.CutBlock
import Derived.Deep.RegionHeld3
import Derived.Laws.Rows
import Derived.Lib.AppendStr
import Derived.ArgAppend
import Derived.Laws.IdiomCopy
import Derived.OrdersHeld
import Derived.Laws.BitsLemmas
import Derived.RowKit
import Derived.Test.YtkgkdppjopilmaaWWords
import Derived.Test.YtkgkdppjopilmaaWLast
import Derived.Test.YtkgkdppjopilmaaWTab
import Derived.Test.YtkgkdppjopilmaaWFour
import Derived.Test.YtkgkdppjopilmaaWQPut
import Derived.Test.YtkgkdppjopilmaaWApart
import Derived.Test.YtkgkdppjopilmaaWArr
import Derived.Test.YtkgkdppjopilmaaWZeros
import Derived.Test.YtkgkdppjopilmaaWFoot
import Derived.Test.YtkgkdppjopilmaaWKept
import Derived.Test.YtkgkdppjopilmaaWShare
import Derived.Test.YtkgkdppjopilmaaWN
import Derived.Test.YtkgkdppjopilmaaWFootNe
import Derived.Test.YtkgkdppjopilmaaWAt
import Derived.Test.YtkgkdppjopilmaaWEqStruct
import Derived.Test.YtkgkdppjopilmaaWRepsOne
import Derived.Test.YtkgkdppjopilmaaWInv
import Derived.Test.YtkgkdppjopilmaaWInvWords
import Derived.Test.YtkgkdppjopilmaaWGuard
import Derived.Test.YtkgkdppjopilmaaWNEv
import Derived.Test.YtkgkdppjopilmaaWMore
import Derived.Test.YtkgkdppjopilmaaBuf9
namespace Go.Proofs.Ytkgkdppjopilmaa.Buf
open Go.RowKit Go.Proofs.YtkgkdppjopilmaaW.PrintWords Go.Proofs.YtkgkdppjopilmaaW.PrintLast Go.Proofs.YtkgkdppjopilmaaW.PrintMore Go.Proofs.Ytkgkdppjopilmaa.Leb

/-- dwarf.UnitLength: the length, whether it is wide, how many bytes it has, whether there is one. -/
def unitOf (big : Bool) (l : List Int) : Int × Bool × Int × Bool :=
  (((S.mk 0 l true).unit big).1, ((S.mk 0 l true).unit big).2.1, ((S.mk 0 l true).unit big).2.2.off, ((S.mk 0 l true).unit big).2.2.ok)

theorem off_lt (s : S) (h : 0 ≤ s.off ∧ s.off < 4294967296) (big : Bool) : 0 ≤ (s.unit big).2.2.off ∧ (s.unit big).2.2.off < 4294967296 := by
  have h32 : ∀ s : S, 0 ≤ s.off ∧ s.off < 4294967296 → 0 ≤ (s.u32 big).2.off ∧ (s.u32 big).2.off < 4294967296 := fun s h => by
    unfold S.u32
    split
    · simp only [S.adv]; omega
    · exact h
  have h64 : ∀ s : S, 0 ≤ s.off ∧ s.off < 4294967296 → 0 ≤ (s.u64 big).2.off ∧ (s.u64 big).2.off < 4294967296 := fun s h => by
    unfold S.u64
    split
    · simp only [S.adv]; omega
    · exact h
  unfold S.unit
  split
  · exact h64 _ (h32 _ h)
  · split
    · exact h32 _ h
    · exact h32 _ h

theorem results_tmp4 {fn : Func} {t u v x : Tmp} (h : fn.results = #[.tmp t, .tmp u, .tmp v, .tmp x]) (tmps : Array Value) (P : Program) (w : World) :
    (results fn tmps).run P w = .ok (.tuple #[tmps.getD t undef, tmps.getD u undef, tmps.getD v undef, tmps.getD x undef]) w := by
  simp [results, h]

theorem UnitLength_calls (A : Option Addr) (cap : Nat) (l : List Int) (big : Bool) (w : World) (hl : l.length < 2147483648) (hb : Bytes l) (HR : Kd.C u8s w A l.length l) (hcap : l.length ≤ cap) :
    Calls Try.prog 35 #[.slice A l.length cap, .bool big] w fun e w' => e = .returned (.tuple #[.int .u32 (unitOf big l).1, .bool (unitOf big l).2.1, .int .i64 (unitOf big l).2.2.1, .bool (unitOf big l).2.2.2]) ∧ Below w.heap.size w w' := by
  have HR0 := Aside0.mk HR
  have HL0 := Aside0.mk hl
  have HB := Aside0.mk hb
  have HCAP := Aside0.mk hcap
  clear HR hl hcap hb
  go_enter Try.func35, Try.ntmps35
  go_wp2_with fail
  refine (bare_calls A cap l.length big w).mono ?_
  rintro e w1 ⟨gd, rfl, hb1⟩
  have HB1 := Aside0.mk hb1
  clear hb1
  go_wp2_with fail
  have hHas : Has (w1.alloc (.cells #[.pointer (some ⟨gd, 0, none⟩), .bool big, .iface 82 (.agg #[]), .string (ByteArray.mk #[105, 110, 102, 111]), .int .u32 0, .slice A l.length cap, .nilIface] 69)) w1.heap.size 69 #[] ⟨.pointer (some ⟨gd, 0, none⟩), big, .iface 82 (.agg #[]), ByteArray.mk #[105, 110, 102, 111]⟩ ⟨0, l, true⟩ :=
    ⟨⟨A, cap, .nilIface, heap_alloc_new w1 _, Kd.C_below HR0.out (below_alloc HB1.out _), HCAP.out, rfl⟩, HL0.out, HB.out, fun h => by cases h⟩
  refine (unit_has hHas).mono ?_
  obtain ⟨s', hs'⟩ : ∃ s', ((S.mk 0 l true).unit big).2.2 = s' := ⟨_, rfl⟩
  obtain ⟨V, hV⟩ : ∃ V, ((S.mk 0 l true).unit big).1 = V := ⟨_, rfl⟩
  obtain ⟨D, hD⟩ : ∃ D, ((S.mk 0 l true).unit big).2.1 = D := ⟨_, rfl⟩
  have ho := off_lt (S.mk 0 l true) ⟨Int.le_refl 0, (by decide : (0 : Int) < 4294967296)⟩ big
  rw [hs'] at ho ⊢
  rw [hV, hD]
  have HU : Aside0 (unitOf big l = (V, D, s'.off, s'.ok)) := ⟨by unfold unitOf; rw [hV, hD, hs']⟩
  rintro e w2 ⟨rfl, hh, hk⟩
  obtain ⟨A2, cap2, ev2, _, _, q4, _, q6, he, _, _, _⟩ := hh.parts
  have n0 : w1.heap.size < w2.heap.size := World.block_lt_of_cell? w2 _ q4
  have HB2 : Aside0 (Below w.heap.size w w2) := ⟨(below_alloc HB1.out _).trans (hk.below (by have := HB1.out.size; omega) (by have := HB1.out.size; simp; omega))⟩
  obtain ⟨O, hO⟩ : ∃ O, s'.off = O := ⟨_, rfl⟩
  rw [hO] at q4 ho HU
  obtain ⟨K, hK⟩ : ∃ K, s'.ok = K := ⟨_, rfl⟩
  rw [hK] at he HU
  have hO1 : IntKind.i64.wrap O = O := by simp [IntKind.wrap, IntKind.signed, IntKind.bits]; omega
  unfold ErrIs at he
  clear hh hk hO hK hs' hV hD hHas ho
  cases K with
  | true =>
    rw [if_pos rfl] at he
    subst he
    go_wp2_with fail
    go_quiet (fail)
    go_wp2
    refine bodyPost_ret (results_tmp4 rfl _ _ _) rfl ?_
    rw [HU.out]
    exact ⟨rfl, pw_below_drewN HB2.out _⟩
  | false =>
    rw [if_neg (by decide)] at he
    obtain ⟨t, x, rfl⟩ := he
    go_wp2_with fail
    go_quiet (fail)
    go_wp2
    refine bodyPost_ret (results_tmp4 rfl _ _ _) rfl ?_
    rw [HU.out]
    exact ⟨rfl, pw_below_drewN HB2.out _⟩
end Go.Proofs.Ytkgkdppjopilmaa.Buf
