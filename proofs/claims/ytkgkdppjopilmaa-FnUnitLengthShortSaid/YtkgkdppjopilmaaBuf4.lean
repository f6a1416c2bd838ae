/- The contracts of the reader of bytes (package dwarf, type buf), proved by hand: texts. -/
import Derived.Test.YtkgkdppjopilmaaProg
import Derived.Below
import Derived.Deep.Draws
import Derived.Deep.AppendLies
import Derived.Maps.AppendAt
import Derived.OwnWalk
import Derived.Laws.BytesArg
import Derived.Laws.MakeOwn
import Derived.Laws.OwnMore
import Derived.Deep.OwnRows
import Derived.Tactics
import Derived.Lib.ConvBytes
import Derived.Laws.Slices
import Derived.WalkKit
import Derived.KernelRfl
import Derived.RowKit3
import Derived.Deep.LoopGhost
import Derived.Deep.QuietTactic
import Derived.BigQuiet
import Derived.WideLaws
import Derived.Deep.DeepCutAuto
import Derived.Deep.CutBlock
import Derived.Deep.RegionHeld3
import Derived.Laws.Rows
import Derived.Lib.AppendStr
import Derived.ArgAppend
import Derived.Laws.IdiomCopy
import Derived.OrdersHeld
import Derived.Laws.BitsLemmas
import Derived.RowKit
import Derived.Test.YtkgkdppjopilmaaWWords
import Derived.Test.YtkgkdppjopilmaaWLast
import Derived.Test.YtkgkdppjopilmaaWTab
import Derived.Test.YtkgkdppjopilmaaWFour
import Derived.Test.YtkgkdppjopilmaaWQPut
import Derived.Test.YtkgkdppjopilmaaWApart
import Derived.Test.YtkgkdppjopilmaaWArr
import Derived.Test.YtkgkdppjopilmaaWZeros
import Derived.Test.YtkgkdppjopilmaaWFoot
import Derived.Test.YtkgkdppjopilmaaWKept
import Derived.Test.YtkgkdppjopilmaaWShare
import Derived.Test.YtkgkdppjopilmaaWN
import Derived.Test.YtkgkdppjopilmaaWFootNe
import Derived.Test.YtkgkdppjopilmaaWAt
import Derived.Test.YtkgkdppjopilmaaWEqStruct
import Derived.Test.YtkgkdppjopilmaaWRepsOne
import Derived.Test.YtkgkdppjopilmaaWInv
import Derived.Test.YtkgkdppjopilmaaWInvWords
import Derived.Test.YtkgkdppjopilmaaWGuard
import Derived.Test.YtkgkdppjopilmaaWNEv
import Derived.Test.YtkgkdppjopilmaaWMore
import Derived.Test.YtkgkdppjopilmaaBuf3
namespace Go.Proofs.Ytkgkdppjopilmaa.Buf
open Go.RowKit Go.Proofs.YtkgkdppjopilmaaW.PrintWords Go.Proofs.YtkgkdppjopilmaaW.PrintLast Go.Proofs.YtkgkdppjopilmaaW.PrintMore Go.Proofs.Ytkgkdppjopilmaa.Leb

theorem set_swap (w : World) (g i j : Nat) (h : i ≠ j) (x y : Value) : (w.setCell ⟨g, i, none⟩ x).setCell ⟨g, j, none⟩ y = (w.setCell ⟨g, j, none⟩ y).setCell ⟨g, i, none⟩ x := by
  unfold World.setCell
  congr 1
  apply Array.ext_getElem?
  intro k
  simp only [Array.getElem?_modify]
  by_cases hk : g = k
  · subst hk
    simp only [if_true, Option.map_map]
    congr 1
    funext o
    cases o <;> simp [Array.setIfInBounds_comm _ _ h]
  · simp [hk]

/-- What string leaves. -/
def TPost (w : World) (g : Nat) (nm : ByteArray) (off : Int) (l : List Int) : Option Nat → Ending → World → Prop
  | none, e, w' => e = .returned (.string (ByteArray.mk #[])) ∧ Erred w g nm off w'
  | some i, e, w' => e = .returned (.string (strOfNums (l.take i))) ∧ After w g off l (i + 1) w'

set_option maxRecDepth 10000 in
theorem string_calls (g : Nat) (A : Option Addr) (cap : Nat) (l : List Int) (off : Int) (nm : ByteArray) (w : World) (hl : l.length < 2147483648) (hb : Bytes l)
    (q3 : w.cell? ⟨g, 3, none⟩ = some (.string nm)) (q6 : w.cell? ⟨g, 6, none⟩ = some .nilIface) (f6 : w.frozen? ⟨g, 6, none⟩ = false)
    (q5 : w.cell? ⟨g, 5, none⟩ = some (.slice A l.length cap)) (q4 : w.cell? ⟨g, 4, none⟩ = some (.int .u32 off)) (f5 : w.frozen? ⟨g, 5, none⟩ = false) (f4 : w.frozen? ⟨g, 4, none⟩ = false)
    (HR : Kd.C u8s w A l.length l) (hcap : l.length ≤ cap) :
    Calls Try.prog 37 #[.pointer (some ⟨g, 0, none⟩)] w fun e w' => TPost w g nm off l (zeroAt l) e w' := by
  have HV := Aside0.mk (index_calls A cap l w hb HR)
  have HL0 := Aside0.mk hl
  have HB0 := Aside0.mk hb
  have HR0 := Aside0.mk HR
  have HCAP := Aside0.mk hcap
  have n0 : g < w.heap.size := World.block_lt_of_cell? w _ q5
  have HE := Aside0.mk (error_calls g _ nm (ByteArray.mk #[117, 110, 100, 101, 114, 102, 108, 111, 119]) off w q3 q4 q5 q6 f5 f6)
  clear HR hl hcap hb
  go_enter Try.func37, Try.ntmps37
  go_wp2_with fail
  refine HV.out.mono ?_
  rintro e w1 ⟨rfl, rfl⟩
  cases hu : zeroAt l with
  | none =>
    have HU := Aside0.mk hu
    clear hu
    go_wp2_with fail
    refine HE.out.mono ?_
    rintro e w2 ⟨rfl, he⟩
    have HER := Aside0.mk he
    clear he
    go_wp2_with fail
    go_ret
    rw [HU.out]
    exact ⟨rfl, HER.out⟩
  | some i =>
    have HU := Aside0.mk hu
    have hi : i < l.length := zeroAt_lt hu
    have hlt : (l.take i).length = i := by rw [List.length_take]; omega
    have hconv : Sem.run Try.prog (convert 22 9 (.slice A i cap)) w1 = .ok (.string (strOfNums (l.take i))) w1 := by
      have h := Kd.C_take (m := i) HR0.out (by omega)
      rw [hlt] at h
      exact Kd.C_string Try.underlying22 Try.underlying5 Try.underlying9 h
    have hd : decide ((i : Int) < 0) = false := by simp
    have hd0 : (0 ≤ (i : Int)) = True := eq_true (by omega)
    have hcap : i ≤ cap := by have := HCAP.out; omega
    have hcap1 : i + 1 ≤ cap := by have := HCAP.out; omega
    have hi1 : i + 1 ≤ l.length := by omega
    have HS := Aside0.mk (after_mk (g := g) (off := off) (n := i + 1) HR0.out HCAP.out hi)
    have p4 : IntKind.i64.wrap ((i : Int) + 1) = ((i + 1 : Nat) : Int) := by
      have := HL0.out
      simp [IntKind.wrap, IntKind.signed, IntKind.bits]; omega
    clear hu HV HE
    go_wp2_with fail
    all_goals (go_ret; rw [HU.out]; refine ⟨rfl, ?_⟩; rw [set_swap _ _ _ _ (by decide)]; have h1_ := HS.out; simpa [*, Addr.add] using h1_)

/-- dwarf.Text: the text, how many bytes it has, whether there is one. -/
def textOf (l : List Int) : ByteArray × Int × Bool := match zeroAt l with
  | none => (ByteArray.mk #[], 0, false)
  | some i => (strOfNums (l.take i), ((i + 1 : Nat) : Int), true)

theorem Text_calls (A : Option Addr) (cap : Nat) (l : List Int) (w : World) (hl : l.length < 2147483648) (hb : Bytes l) (HR : Kd.C u8s w A l.length l) (hcap : l.length ≤ cap) :
    Calls Try.prog 31 #[.slice A l.length cap] w fun e w' => e = .returned (.tuple #[.string (textOf l).1, .int .i64 (textOf l).2.1, .bool (textOf l).2.2]) ∧ Below w.heap.size w w' := by
  have HR0 := Aside0.mk HR
  have HL0 := Aside0.mk hl
  have HB := Aside0.mk hb
  have HCAP := Aside0.mk hcap
  clear HR hl hcap hb
  go_enter Try.func31, Try.ntmps31
  go_wp2_with fail
  refine (bare_calls A cap l.length false w).mono ?_
  rintro e w1 ⟨gd, rfl, hb1⟩
  have HB1 := Aside0.mk hb1
  clear hb1
  go_wp2_with fail
  refine (string_calls w1.heap.size A cap l 0 (ByteArray.mk #[105, 110, 102, 111]) _ HL0.out HB.out ?_ ?_ ?_ ?_ ?_ ?_ ?_ ?_ HCAP.out).mono ?_
  · exact (blk_cell (heap_alloc_new _ _) 3).trans rfl
  · exact (blk_cell (heap_alloc_new _ _) 6).trans rfl
  · exact blk_frozen (heap_alloc_new _ _) 6
  · exact (blk_cell (heap_alloc_new _ _) 5).trans rfl
  · exact (blk_cell (heap_alloc_new _ _) 4).trans rfl
  · exact blk_frozen (heap_alloc_new _ _) 5
  · exact blk_frozen (heap_alloc_new _ _) 4
  · exact Kd.C_below HR0.out (below_alloc HB1.out _)
  have hbk := heap_alloc_new w1 (.cells #[.pointer (some ⟨gd, 0, none⟩), .bool false, .iface 82 (.agg #[]), .string (ByteArray.mk #[105, 110, 102, 111]), .int .u32 0, .slice A l.length cap, .nilIface] 69)
  cases hu : zeroAt l with
  | none =>
    rintro e w2 ⟨rfl, he⟩
    obtain ⟨q4, ⟨s, q6⟩, hB2, n0⟩ := erred_cells (base := w.heap.size) he hbk (Nat.le_refl 7) (by have := HB1.out.size; omega)
    replace q4 := q4.trans (show _ = some (.int .u32 0) from rfl)
    have HB2 := Aside0.mk ((below_alloc HB1.out _).trans hB2)
    have HU : Aside0 (textOf l = (ByteArray.mk #[], 0, false)) := ⟨by unfold textOf; rw [hu]⟩
    clear he hB2 hu hbk
    go_wp2_with fail
    go_quiet (fail)
    go_wp2
    go_ret3
    rw [HU.out]
    exact ⟨rfl, pw_below_drewN HB2.out _⟩
  | some i =>
    obtain ⟨n, hni⟩ : ∃ n, i + 1 = n := ⟨_, rfl⟩
    rintro e w2 ⟨rfl, he⟩
    have hn : n ≤ l.length := by have := zeroAt_lt hu; omega
    replace he : After _ _ _ _ n w2 := hni ▸ he
    obtain ⟨q4, q6, hB2, n0⟩ := after_cells (base := w.heap.size) he hbk (Nat.le_refl 7) (by have := HB1.out.size; omega)
    replace q6 := q6.trans (show _ = some .nilIface from rfl)
    have HB2 := Aside0.mk ((below_alloc HB1.out _).trans hB2)
    obtain ⟨O, hO⟩ : ∃ O : Int, ((0 : Int) + n) % 4294967296 = O := ⟨_, rfl⟩
    rw [hO] at q4
    obtain ⟨V, hV⟩ : ∃ V : ByteArray, strOfNums (l.take i) = V := ⟨_, rfl⟩
    rw [hV]
    have HU : Aside0 (textOf l = (V, O, true)) := ⟨by unfold textOf; rw [hu]; simp [← hV, ← hO, ← hni]; have := HL0.out; omega⟩
    have hO1 : IntKind.i64.wrap O = O := by rw [← hO]; simp [IntKind.wrap, IntKind.signed, IntKind.bits]; have := HL0.out; omega
    clear he hB2 hu hbk hV hO
    go_wp2_with fail
    go_quiet (fail)
    go_wp2
    go_ret3
    rw [HU.out]
    exact ⟨rfl, pw_below_drewN HB2.out _⟩
end Go.Proofs.Ytkgkdppjopilmaa.Buf
