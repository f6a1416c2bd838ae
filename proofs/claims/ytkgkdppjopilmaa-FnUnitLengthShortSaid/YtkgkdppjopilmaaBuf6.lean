/- The contracts of the reader of bytes (package dwarf, type buf), proved by hand: numbers of eight bytes. -/
import Derived.Test.YtkgkdppjopilmaaProg
import Derived.Below
import Derived.Deep.Draws
import Derived.Deep.AppendLies
import Derived.Maps.AppendAt
import Derived.OwnWalk
import Derived.Laws.BytesArg
import Derived.Laws.MakeOwn
import Derived.Laws.OwnMore
import Derived.Deep.OwnRows
import Derived.Tactics
import Derived.Lib.ConvBytes
import Derived.Laws.Slices
import Derived.WalkKit
import Derived.KernelRfl
import Derived.RowKit3
import Derived.Deep.LoopGhost
import Derived.Deep.QuietTactic
import Derived.BigQuiet
import Derived.WideLaws
import Derived.Deep.DeepCutAuto
import Derived.Deep.CutBlock
import Derived.Deep.RegionHeld3
import Derived.Laws.Rows
import Derived.Lib.AppendStr
import Derived.ArgAppend
import Derived.Laws.IdiomCopy
import Derived.OrdersHeld
import Derived.Laws.BitsLemmas
import Derived.RowKit
import Derived.Test.YtkgkdppjopilmaaWWords
import Derived.Test.YtkgkdppjopilmaaWLast
import Derived.Test.YtkgkdppjopilmaaWTab
import Derived.Test.YtkgkdppjopilmaaWFour
import Derived.Test.YtkgkdppjopilmaaWQPut
import Derived.Test.YtkgkdppjopilmaaWApart
import Derived.Test.YtkgkdppjopilmaaWArr
import Derived.Test.YtkgkdppjopilmaaWZeros
import Derived.Test.YtkgkdppjopilmaaWFoot
import Derived.Test.YtkgkdppjopilmaaWKept
import Derived.Test.YtkgkdppjopilmaaWShare
import Derived.Test.YtkgkdppjopilmaaWN
import Derived.Test.YtkgkdppjopilmaaWFootNe
import Derived.Test.YtkgkdppjopilmaaWAt
import Derived.Test.YtkgkdppjopilmaaWEqStruct
import Derived.Test.YtkgkdppjopilmaaWRepsOne
import Derived.Test.YtkgkdppjopilmaaWInv
import Derived.Test.YtkgkdppjopilmaaWInvWords
import Derived.Test.YtkgkdppjopilmaaWGuard
import Derived.Test.YtkgkdppjopilmaaWNEv
import Derived.Test.YtkgkdppjopilmaaWMore
import Derived.Test.YtkgkdppjopilmaaBuf5
namespace Go.Proofs.Ytkgkdppjopilmaa.Buf
open Go.RowKit Go.Proofs.YtkgkdppjopilmaaW.PrintWords Go.Proofs.YtkgkdppjopilmaaW.PrintLast Go.Proofs.YtkgkdppjopilmaaW.PrintMore Go.Proofs.Ytkgkdppjopilmaa.Leb

/-- Eight bytes in an order. -/
def eight (big : Bool) (b0 b1 b2 b3 b4 b5 b6 b7 : Int) : Int := if big then four big b4 b5 b6 b7 + 4294967296 * four big b0 b1 b2 b3 else four big b0 b1 b2 b3 + 4294967296 * four big b4 b5 b6 b7
set_option maxHeartbeats 1000000 in
theorem Uint64_calls (big : Bool) (ad : Addr) (cap N : Nat) (b0 b1 b2 b3 b4 b5 b6 b7 : Int) (w : World) (h0 : 0 ≤ b0 ∧ b0 < 256) (h1 : 0 ≤ b1 ∧ b1 < 256) (h2 : 0 ≤ b2 ∧ b2 < 256) (h3 : 0 ≤ b3 ∧ b3 < 256) (h4 : 0 ≤ b4 ∧ b4 < 256) (h5 : 0 ≤ b5 ∧ b5 < 256) (h6 : 0 ≤ b6 ∧ b6 < 256) (h7 : 0 ≤ b7 ∧ b7 < 256) (hN : 8 ≤ N) (hcap : N ≤ cap)
    (hx0 : w.cell? ad = some (.int .u8 b0)) (hx1 : w.cell? ⟨ad.block, ad.off + 1, none⟩ = some (.int .u8 b1)) (hx2 : w.cell? ⟨ad.block, ad.off + 2, none⟩ = some (.int .u8 b2)) (hx3 : w.cell? ⟨ad.block, ad.off + 3, none⟩ = some (.int .u8 b3)) (hx4 : w.cell? ⟨ad.block, ad.off + 4, none⟩ = some (.int .u8 b4)) (hx5 : w.cell? ⟨ad.block, ad.off + 5, none⟩ = some (.int .u8 b5)) (hx6 : w.cell? ⟨ad.block, ad.off + 6, none⟩ = some (.int .u8 b6)) (hx7 : w.cell? ⟨ad.block, ad.off + 7, none⟩ = some (.int .u8 b7)) :
    Calls Try.prog 50 #[.agg #[.bool big], .slice (some ad) N cap] w fun e w' => e = .returned (.int .u64 (eight big b0 b1 b2 b3 b4 b5 b6 b7)) ∧ Below w.heap.size w w' := by
  have n0 : ad.block < w.heap.size := World.block_lt_of_cell? w _ hx0
  obtain ⟨T1, hT1⟩ : ∃ T, four big b0 b1 b2 b3 = T := ⟨_, rfl⟩
  obtain ⟨T2, hT2⟩ : ∃ T, four big b4 b5 b6 b7 = T := ⟨_, rfl⟩
  have r1 := four_lt big h0 h1 h2 h3
  have r2 := four_lt big h4 h5 h6 h7
  rw [hT1] at r1
  rw [hT2] at r2
  obtain ⟨W0, hW0⟩ : ∃ W, w.alloc (.cells #[.bool big] 63) = W := ⟨_, rfl⟩
  have HB0 : Below w.heap.size w W0 := hW0 ▸ (Below.refl _ _).alloc (Nat.le_refl _) _
  have C1 : Aside0 (∀ W, Below W0.heap.size W0 W → Calls Try.prog 49 #[.agg #[.bool big], .slice (some ad) N cap] W fun e w' => e = .returned (.int .u32 T1) ∧ Below W0.heap.size W0 w') := ⟨fun W hB => by
    have hBw : Below w.heap.size w W := HB0.trans (hB.mono HB0.size)
    have h := Uint32_calls big ad cap N b0 b1 b2 b3 W h0 h1 h2 h3 (by omega) hcap ((hBw.cell (p := ad) n0).trans hx0) ((hBw.cell (p := ⟨ad.block, ad.off + 1, none⟩) n0).trans hx1) ((hBw.cell (p := ⟨ad.block, ad.off + 2, none⟩) n0).trans hx2) ((hBw.cell (p := ⟨ad.block, ad.off + 3, none⟩) n0).trans hx3)
    rw [hT1] at h
    refine h.mono ?_
    rintro e w' ⟨rfl, hb⟩
    exact ⟨rfl, hB.trans (hb.mono hB.size)⟩⟩
  have C2 : Aside0 (∀ W, Below W0.heap.size W0 W → Calls Try.prog 49 #[.agg #[.bool big], .slice (some ⟨ad.block, ad.off + 4, none⟩) (N - 4) (cap - 4)] W fun e w' => e = .returned (.int .u32 T2) ∧ Below W0.heap.size W0 w') := ⟨fun W hB => by
    have hBw : Below w.heap.size w W := HB0.trans (hB.mono HB0.size)
    have h := Uint32_calls big ⟨ad.block, ad.off + 4, none⟩ (cap - 4) (N - 4) b4 b5 b6 b7 W h4 h5 h6 h7 (by omega) (by omega) ((hBw.cell (p := ⟨ad.block, ad.off + 4, none⟩) n0).trans hx4) ((hBw.cell (p := ⟨ad.block, ad.off + 5, none⟩) n0).trans hx5) ((hBw.cell (p := ⟨ad.block, ad.off + 6, none⟩) n0).trans hx6) ((hBw.cell (p := ⟨ad.block, ad.off + 7, none⟩) n0).trans hx7)
    rw [hT2] at h
    refine h.mono ?_
    rintro e w' ⟨rfl, hb⟩
    exact ⟨rfl, hB.trans (hb.mono hB.size)⟩⟩
  have k2 : (4 ≤ N) = True := eq_true (by omega)
  have k3 : (cap = 4) = False := eq_false (by omega)
  have k4 : (4 ≤ cap) = True := eq_true (by omega)
  have k5 : ((4 : Int) ≤ (N : Int)) = True := eq_true (by omega)
  have k6 : ((4 : Int) ≤ (cap : Int)) = True := eq_true (by omega)
  have w1 : IntKind.u64.wrap T1 = T1 := by simp [IntKind.wrap, IntKind.signed, IntKind.bits]; omega
  have w2 : IntKind.u64.wrap T2 = T2 := by simp [IntKind.wrap, IntKind.signed, IntKind.bits]; omega
  obtain ⟨H1, hH1, e12⟩ : ∃ H, IntKind.u64.wrap (T1 * 4294967296) = H ∧ Go.bits .or .u64 H T2 = T2 + 4294967296 * T1 := ⟨_, rfl, or_u64 T2 T1 r2 r1⟩
  obtain ⟨H2, hH2, e21⟩ : ∃ H, IntKind.u64.wrap (T2 * 4294967296) = H ∧ Go.bits .or .u64 H T1 = T1 + 4294967296 * T2 := ⟨_, rfl, or_u64 T1 T2 r1 r2⟩
  have hbx : Aside0 (W0.heap[w.heap.size]? = some (.cells #[.bool big] 63 (0, 0))) := ⟨hW0 ▸ heap_alloc_new w _⟩
  have HB1 := Aside0.mk (Below.refl W0.heap.size W0)
  have HB0' := Aside0.mk HB0
  have HV : Aside0 (eight big b0 b1 b2 b3 b4 b5 b6 b7 = if big then T2 + 4294967296 * T1 else T1 + 4294967296 * T2) := ⟨by unfold eight; rw [hT1, hT2]⟩
  have HW0 := Aside0.mk hW0
  clear h0 hx0 h1 hx1 h2 hx2 h3 hx3 h4 hx4 h5 hx5 h6 hx6 h7 hx7 hN hcap r1 r2 HB0 hT1 hT2
  have q0 : W0.cell? ⟨w.heap.size, 0, none⟩ = some (.bool big) := (blk_cell hbx.out 0).trans rfl
  have n1 : w.heap.size < W0.heap.size := blk_lt hbx.out
  cases big
  · go_enter Try.func50, Try.ntmps50
    go_wp2
    go_region_with ((first | (with_reducible refine (C1.out _ ?aB).mono ?_) | (with_reducible refine (C2.out _ ?aB).mono ?_)); (case aB => exact (by repeat (first | exact HB1.out | apply pw_below_drewN))); rintro e w2 ⟨rfl, hb⟩; clear HB1; have HB1 := Aside0.mk hb; clear hb; have q0 : w2.cell? ⟨w.heap.size, 0, none⟩ = some (.bool false) := (HB1.out.cell (p := ⟨w.heap.size, 0, none⟩) (blk_lt hbx.out)).trans ((blk_cell hbx.out 0).trans rfl); have n1 : w.heap.size < w2.heap.size := Nat.lt_of_lt_of_le (blk_lt hbx.out) HB1.out.size)
    all_goals go_wp2
    all_goals (go_ret; exact ⟨by first | (rw [HV.out]; rfl) | simp [HV.out, *], (by repeat (first | exact HB0'.out.trans (HB1.out.mono HB0'.out.size) | apply pw_below_drewN))⟩)
  · go_enter Try.func50, Try.ntmps50
    go_wp2
    go_region_with ((first | (with_reducible refine (C1.out _ ?aB).mono ?_) | (with_reducible refine (C2.out _ ?aB).mono ?_)); (case aB => exact (by repeat (first | exact HB1.out | apply pw_below_drewN))); rintro e w2 ⟨rfl, hb⟩; clear HB1; have HB1 := Aside0.mk hb; clear hb; have q0 : w2.cell? ⟨w.heap.size, 0, none⟩ = some (.bool true) := (HB1.out.cell (p := ⟨w.heap.size, 0, none⟩) (blk_lt hbx.out)).trans ((blk_cell hbx.out 0).trans rfl); have n1 : w.heap.size < w2.heap.size := Nat.lt_of_lt_of_le (blk_lt hbx.out) HB1.out.size)
    all_goals go_wp2
    all_goals (go_ret; exact ⟨by first | (rw [HV.out]; rfl) | simp [HV.out, *], (by repeat (first | exact HB0'.out.trans (HB1.out.mono HB0'.out.size) | apply pw_below_drewN))⟩)
end Go.Proofs.Ytkgkdppjopilmaa.Buf
