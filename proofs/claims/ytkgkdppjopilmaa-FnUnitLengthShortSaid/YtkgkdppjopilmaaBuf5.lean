/- The contracts of the reader of bytes (package dwarf, type buf), proved by hand: numbers of a fixed size. -/
import Derived.Test.YtkgkdppjopilmaaProg
import Derived.Below
import Derived.Deep.Draws
import Derived.Deep.AppendLies
import Derived.Maps.AppendAt
import Derived.OwnWalk
import Derived.Laws.BytesArg
import Derived.Laws.MakeOwn
import Derived.Laws.OwnMore
import Derived.Deep.OwnRows
import Derived.Tactics
import Derived.Lib.ConvBytes
import Derived.Laws.Slices
import Derived.WalkKit
import Derived.KernelRfl
import Derived.RowKit3
import Derived.Deep.LoopGhost
import Derived.Deep.QuietTactic
import Derived.BigQuiet
import Derived.WideLaws
import Derived.Deep.DeepCutAuto
import Derived.Deep.CutBlock
import Derived.Deep.RegionHeld3
import Derived.Laws.Rows
import Derived.Lib.AppendStr
import Derived.ArgAppend
import Derived.Laws.IdiomCopy
import Derived.OrdersHeld
import Derived.Laws.BitsLemmas
import Derived.RowKit
import Derived.Test.YtkgkdppjopilmaaWWords
import Derived.Test.YtkgkdppjopilmaaWLast
import Derived.Test.YtkgkdppjopilmaaWTab
import Derived.Test.YtkgkdppjopilmaaWFour
import Derived.Test.YtkgkdppjopilmaaWQPut
import Derived.Test.YtkgkdppjopilmaaWApart
import Derived.Test.YtkgkdppjopilmaaWArr
import Derived.Test.YtkgkdppjopilmaaWZeros
import Derived.Test.YtkgkdppjopilmaaWFoot
import Derived.Test.YtkgkdppjopilmaaWKept
import Derived.Test.YtkgkdppjopilmaaWShare
import Derived.Test.YtkgkdppjopilmaaWN
import Derived.Test.YtkgkdppjopilmaaWFootNe
import Derived.Test.YtkgkdppjopilmaaWAt
import Derived.Test.YtkgkdppjopilmaaWEqStruct
import Derived.Test.YtkgkdppjopilmaaWRepsOne
import Derived.Test.YtkgkdppjopilmaaWInv
import Derived.Test.YtkgkdppjopilmaaWInvWords
import Derived.Test.YtkgkdppjopilmaaWGuard
import Derived.Test.YtkgkdppjopilmaaWNEv
import Derived.Test.YtkgkdppjopilmaaWMore
import Derived.Test.YtkgkdppjopilmaaBuf4
namespace Go.Proofs.Ytkgkdppjopilmaa.Buf
open Go.RowKit Go.Proofs.YtkgkdppjopilmaaW.PrintWords Go.Proofs.YtkgkdppjopilmaaW.PrintLast Go.Proofs.YtkgkdppjopilmaaW.PrintMore Go.Proofs.Ytkgkdppjopilmaa.Leb

/-- The number that bytes tell, the last one first. -/
def le : List Int → Int
  | [] => 0
  | b :: r => b + 256 * le r
/-- In an order of bytes. -/
def num (big : Bool) (l : List Int) : Int := if big then le l.reverse else le l

/-- The bytes of a row, one by one. -/
theorem at_nat {A : Option Addr} {n : Nat} {l : List Int} {w : World} (HR : Kd.C u8s w A n l) (i : Nat) (h : i < l.length) : ∃ ad, A = some ad ∧ w.cell? (ad.add i) = some (.int .u8 l[i]) := by
  have hn := HR.1
  obtain ⟨ad, e, hx⟩ := Kd.at_int HR (i : Int) (by omega) (by omega)
  rw [Int.toNat_natCast, rd_nat l i h] at hx
  exact ⟨ad, e, hx⟩

theorem or_u16 (x y : Int) (hx : 0 ≤ x ∧ x < 256) (hy : 0 ≤ y ∧ y < 256) : Go.bits .or .u16 (IntKind.u16.wrap (y * 256)) x = x + 256 * y := by
  obtain ⟨a, rfl⟩ := Int.eq_ofNat_of_zero_le hx.1
  obtain ⟨b, rfl⟩ := Int.eq_ofNat_of_zero_le hy.1
  have e : IntKind.u16.wrap ((b : Int) * 256) = ((2 ^ 8 * b : Nat) : Int) := by simp [IntKind.wrap, IntKind.signed, IntKind.bits]; omega
  rw [e, u16_or_nat _ _ (by omega) (by omega), ← Nat.two_pow_add_eq_or_of_lt (show a < 2 ^ 8 by omega)]
  omega
theorem or_u32 (x y : Int) (hx : 0 ≤ x ∧ x < 65536) (hy : 0 ≤ y ∧ y < 65536) : Go.bits .or .u32 (IntKind.u32.wrap (y * 65536)) x = x + 65536 * y := by
  obtain ⟨a, rfl⟩ := Int.eq_ofNat_of_zero_le hx.1
  obtain ⟨b, rfl⟩ := Int.eq_ofNat_of_zero_le hy.1
  have e : IntKind.u32.wrap ((b : Int) * 65536) = ((2 ^ 16 * b : Nat) : Int) := by simp [IntKind.wrap, IntKind.signed, IntKind.bits]; omega
  rw [e, u32_or_nat _ _ (by omega) (by omega), ← Nat.two_pow_add_eq_or_of_lt (show a < 2 ^ 16 by omega)]
  omega
theorem or_u64 (x y : Int) (hx : 0 ≤ x ∧ x < 4294967296) (hy : 0 ≤ y ∧ y < 4294967296) : Go.bits .or .u64 (IntKind.u64.wrap (y * 4294967296)) x = x + 4294967296 * y := by
  obtain ⟨a, rfl⟩ := Int.eq_ofNat_of_zero_le hx.1
  obtain ⟨b, rfl⟩ := Int.eq_ofNat_of_zero_le hy.1
  have e : IntKind.u64.wrap ((b : Int) * 4294967296) = ((2 ^ 32 * b : Nat) : Int) := by simp [IntKind.wrap, IntKind.signed, IntKind.bits]; omega
  rw [e, u64_or_nat _ _ (by omega) (by omega), ← Nat.two_pow_add_eq_or_of_lt (show a < 2 ^ 32 by omega)]
  omega

/-- Two bytes in an order. -/
def two (big : Bool) (b0 b1 : Int) : Int := if big then b1 + 256 * b0 else b0 + 256 * b1
theorem two_lt (big : Bool) {b0 b1 : Int} (h0 : 0 ≤ b0 ∧ b0 < 256) (h1 : 0 ≤ b1 ∧ b1 < 256) : 0 ≤ two big b0 b1 ∧ two big b0 b1 < 65536 := by
  unfold two; split <;> omega
/-- Four bytes in an order. -/
def four (big : Bool) (b0 b1 b2 b3 : Int) : Int := if big then two big b2 b3 + 65536 * two big b0 b1 else two big b0 b1 + 65536 * two big b2 b3
theorem four_lt (big : Bool) {b0 b1 b2 b3 : Int} (h0 : 0 ≤ b0 ∧ b0 < 256) (h1 : 0 ≤ b1 ∧ b1 < 256) (h2 : 0 ≤ b2 ∧ b2 < 256) (h3 : 0 ≤ b3 ∧ b3 < 256) : 0 ≤ four big b0 b1 b2 b3 ∧ four big b0 b1 b2 b3 < 4294967296 := by
  have h4 := two_lt big h0 h1
  have h5 := two_lt big h2 h3
  unfold four; split <;> omega

theorem Uint16_calls (big : Bool) (ad : Addr) (cap N : Nat) (b0 b1 : Int) (w : World) (h0 : 0 ≤ b0 ∧ b0 < 256) (h1 : 0 ≤ b1 ∧ b1 < 256) (hN : 2 ≤ N) (hx0 : w.cell? ad = some (.int .u8 b0)) (hx1 : w.cell? ⟨ad.block, ad.off + 1, none⟩ = some (.int .u8 b1)) :
    Calls Try.prog 51 #[.agg #[.bool big], .slice (some ad) N cap] w fun e w' => e = .returned (.int .u16 (two big b0 b1)) ∧ ∃ n, w' = (w.alloc (.cells #[.bool big] 63)).drewN n := by
  have k0 : ((0 : Int) < (N : Int)) = True := eq_true (by omega)
  have k2 : (0 < N) = True := eq_true (by omega)
  have k3 : (1 < N) = True := eq_true (by omega)
  have k1 : ((1 : Int) < (N : Int)) = True := eq_true (by omega)
  clear hN
  obtain ⟨H1, hH1, e10⟩ : ∃ H, IntKind.u16.wrap (b1 * 256) = H ∧ Go.bits .or .u16 H b0 = two false b0 b1 := ⟨_, rfl, or_u16 b0 b1 h0 h1⟩
  obtain ⟨H0, hH0, e01⟩ : ∃ H, IntKind.u16.wrap (b0 * 256) = H ∧ Go.bits .or .u16 H b1 = two true b0 b1 := ⟨_, rfl, or_u16 b1 b0 h1 h0⟩
  have w0 : IntKind.u16.wrap b0 = b0 := by simp [IntKind.wrap, IntKind.signed, IntKind.bits]; omega
  have w1 : IntKind.u16.wrap b1 = b1 := by simp [IntKind.wrap, IntKind.signed, IntKind.bits]; omega
  have n0 : ad.block < w.heap.size := World.block_lt_of_cell? w _ hx0
  cases big
  · go_enter Try.func51, Try.ntmps51
    go_wp2
    go_quiet (fail)
    all_goals go_wp2
    go_ret
    exact ⟨rfl, _, rfl⟩
  · go_enter Try.func51, Try.ntmps51
    go_wp2
    go_quiet (fail)
    all_goals go_wp2
    go_ret
    exact ⟨rfl, _, rfl⟩

set_option maxHeartbeats 1000000 in
theorem Uint32_calls (big : Bool) (ad : Addr) (cap N : Nat) (b0 b1 b2 b3 : Int) (w : World) (h0 : 0 ≤ b0 ∧ b0 < 256) (h1 : 0 ≤ b1 ∧ b1 < 256) (h2 : 0 ≤ b2 ∧ b2 < 256) (h3 : 0 ≤ b3 ∧ b3 < 256) (hN : 4 ≤ N) (hcap : N ≤ cap)
    (hx0 : w.cell? ad = some (.int .u8 b0)) (hx1 : w.cell? ⟨ad.block, ad.off + 1, none⟩ = some (.int .u8 b1)) (hx2 : w.cell? ⟨ad.block, ad.off + 2, none⟩ = some (.int .u8 b2)) (hx3 : w.cell? ⟨ad.block, ad.off + 3, none⟩ = some (.int .u8 b3)) :
    Calls Try.prog 49 #[.agg #[.bool big], .slice (some ad) N cap] w fun e w' => e = .returned (.int .u32 (four big b0 b1 b2 b3)) ∧ Below w.heap.size w w' := by
  have n0 : ad.block < w.heap.size := World.block_lt_of_cell? w _ hx0
  obtain ⟨T1, hT1⟩ : ∃ T, two big b0 b1 = T := ⟨_, rfl⟩
  obtain ⟨T2, hT2⟩ : ∃ T, two big b2 b3 = T := ⟨_, rfl⟩
  have r1 := two_lt big h0 h1
  have r2 := two_lt big h2 h3
  rw [hT1] at r1
  rw [hT2] at r2
  obtain ⟨W0, hW0⟩ : ∃ W, w.alloc (.cells #[.bool big] 63) = W := ⟨_, rfl⟩
  have HB0 : Below w.heap.size w W0 := hW0 ▸ (Below.refl _ _).alloc (Nat.le_refl _) _
  have C1 : Aside0 (∀ W, Below W0.heap.size W0 W → Calls Try.prog 51 #[.agg #[.bool big], .slice (some ad) N cap] W fun e w' => e = .returned (.int .u16 T1) ∧ Below W0.heap.size W0 w') := ⟨fun W hB => by
    have hBw : Below w.heap.size w W := HB0.trans (hB.mono HB0.size)
    have h := Uint16_calls big ad cap N b0 b1 W h0 h1 (by omega) ((hBw.cell (p := ad) n0).trans hx0) ((hBw.cell (p := ⟨ad.block, ad.off + 1, none⟩) n0).trans hx1)
    rw [hT1] at h
    refine h.mono ?_
    rintro e w' ⟨rfl, n, rfl⟩
    have b1_ := hB.alloc hB.size (.cells #[.bool big] 63)
    exact ⟨rfl, b1_.os, b1_.tape, b1_.output, b1_.size, b1_.block⟩⟩
  have C2 : Aside0 (∀ W, Below W0.heap.size W0 W → Calls Try.prog 51 #[.agg #[.bool big], .slice (some ⟨ad.block, ad.off + 2, none⟩) (N - 2) (cap - 2)] W fun e w' => e = .returned (.int .u16 T2) ∧ Below W0.heap.size W0 w') := ⟨fun W hB => by
    have hBw : Below w.heap.size w W := HB0.trans (hB.mono HB0.size)
    have h := Uint16_calls big ⟨ad.block, ad.off + 2, none⟩ (cap - 2) (N - 2) b2 b3 W h2 h3 (by omega) ((hBw.cell (p := ⟨ad.block, ad.off + 2, none⟩) n0).trans hx2) ((hBw.cell (p := ⟨ad.block, ad.off + 3, none⟩) n0).trans hx3)
    rw [hT2] at h
    refine h.mono ?_
    rintro e w' ⟨rfl, n, rfl⟩
    have b1_ := hB.alloc hB.size (.cells #[.bool big] 63)
    exact ⟨rfl, b1_.os, b1_.tape, b1_.output, b1_.size, b1_.block⟩⟩
  have k2 : (2 ≤ N) = True := eq_true (by omega)
  have k3 : (cap = 2) = False := eq_false (by omega)
  have k4 : (2 ≤ cap) = True := eq_true (by omega)
  have k5 : ((2 : Int) ≤ (N : Int)) = True := eq_true (by omega)
  have k6 : ((2 : Int) ≤ (cap : Int)) = True := eq_true (by omega)
  have w1 : IntKind.u32.wrap T1 = T1 := by simp [IntKind.wrap, IntKind.signed, IntKind.bits]; omega
  have w2 : IntKind.u32.wrap T2 = T2 := by simp [IntKind.wrap, IntKind.signed, IntKind.bits]; omega
  obtain ⟨H1, hH1, e12⟩ : ∃ H, IntKind.u32.wrap (T1 * 65536) = H ∧ Go.bits .or .u32 H T2 = T2 + 65536 * T1 := ⟨_, rfl, or_u32 T2 T1 r2 r1⟩
  obtain ⟨H2, hH2, e21⟩ : ∃ H, IntKind.u32.wrap (T2 * 65536) = H ∧ Go.bits .or .u32 H T1 = T1 + 65536 * T2 := ⟨_, rfl, or_u32 T1 T2 r1 r2⟩
  have hbx : Aside0 (W0.heap[w.heap.size]? = some (.cells #[.bool big] 63 (0, 0))) := ⟨hW0 ▸ heap_alloc_new w _⟩
  have HB1 := Aside0.mk (Below.refl W0.heap.size W0)
  have HB0' := Aside0.mk HB0
  have HV : Aside0 (four big b0 b1 b2 b3 = if big then T2 + 65536 * T1 else T1 + 65536 * T2) := ⟨by unfold four; rw [hT1, hT2]⟩
  have HW0 := Aside0.mk hW0
  clear h0 h1 h2 h3 hx0 hx1 hx2 hx3 hN hcap r1 r2 HB0 hT1 hT2
  have q0 : W0.cell? ⟨w.heap.size, 0, none⟩ = some (.bool big) := (blk_cell hbx.out 0).trans rfl
  have n1 : w.heap.size < W0.heap.size := blk_lt hbx.out
  cases big
  · go_enter Try.func49, Try.ntmps49
    go_wp2
    go_region_with ((first | (with_reducible refine (C1.out _ ?aB).mono ?_) | (with_reducible refine (C2.out _ ?aB).mono ?_)); (case aB => exact (by repeat (first | exact HB1.out | apply pw_below_drewN))); rintro e w2 ⟨rfl, hb⟩; clear HB1; have HB1 := Aside0.mk hb; clear hb; have q0 : w2.cell? ⟨w.heap.size, 0, none⟩ = some (.bool false) := (HB1.out.cell (p := ⟨w.heap.size, 0, none⟩) (blk_lt hbx.out)).trans ((blk_cell hbx.out 0).trans rfl); have n1 : w.heap.size < w2.heap.size := Nat.lt_of_lt_of_le (blk_lt hbx.out) HB1.out.size)
    all_goals go_wp2
    all_goals (go_ret; exact ⟨by first | (rw [HV.out]; rfl) | simp [HV.out, *], (by repeat (first | exact HB0'.out.trans (HB1.out.mono HB0'.out.size) | apply pw_below_drewN))⟩)
  · go_enter Try.func49, Try.ntmps49
    go_wp2
    go_region_with ((first | (with_reducible refine (C1.out _ ?aB).mono ?_) | (with_reducible refine (C2.out _ ?aB).mono ?_)); (case aB => exact (by repeat (first | exact HB1.out | apply pw_below_drewN))); rintro e w2 ⟨rfl, hb⟩; clear HB1; have HB1 := Aside0.mk hb; clear hb; have q0 : w2.cell? ⟨w.heap.size, 0, none⟩ = some (.bool true) := (HB1.out.cell (p := ⟨w.heap.size, 0, none⟩) (blk_lt hbx.out)).trans ((blk_cell hbx.out 0).trans rfl); have n1 : w.heap.size < w2.heap.size := Nat.lt_of_lt_of_le (blk_lt hbx.out) HB1.out.size)
    all_goals go_wp2
    all_goals (go_ret; exact ⟨by first | (rw [HV.out]; rfl) | simp [HV.out, *], (by repeat (first | exact HB0'.out.trans (HB1.out.mono HB0'.out.size) | apply pw_below_drewN))⟩)
end Go.Proofs.Ytkgkdppjopilmaa.Buf
