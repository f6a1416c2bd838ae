/- The contracts of the reader of bytes (package dwarf, type buf), proved by hand: errors, numbers, a reader of its own. -/
import Derived.Test.YtkgkdppjopilmaaProg
import Derived.Below
import Derived.Deep.Draws
import Derived.Deep.AppendLies
import Derived.Maps.AppendAt
import Derived.OwnWalk
import Derived.Laws.BytesArg
import Derived.Laws.MakeOwn
import Derived.Laws.OwnMore
import Derived.Deep.OwnRows
import Derived.Tactics
import Derived.Lib.ConvBytes
import Derived.Laws.Slices
import Derived.WalkKit
import Derived.KernelRfl
import Derived.RowKit3
import Derived.Deep.LoopGhost
import Derived.Deep.QuietTactic
import Derived.BigQuiet
import Derived.WideLaws
import Derived.Deep.DeepCutAuto
import Derived.Deep.CutBlock
import Derived.Deep.RegionHeld3
import Derived.Laws.Rows
import Derived.Lib.AppendStr
import Derived.ArgAppend
import Derived.Laws.IdiomCopy
import Derived.OrdersHeld
import Derived.Laws.BitsLemmas
import Derived.RowKit
import Derived.Test.YtkgkdppjopilmaaWWords
import Derived.Test.YtkgkdppjopilmaaWLast
import Derived.Test.YtkgkdppjopilmaaWTab
import Derived.Test.YtkgkdppjopilmaaWFour
import Derived.Test.YtkgkdppjopilmaaWQPut
import Derived.Test.YtkgkdppjopilmaaWApart
import Derived.Test.YtkgkdppjopilmaaWArr
import Derived.Test.YtkgkdppjopilmaaWZeros
import Derived.Test.YtkgkdppjopilmaaWFoot
import Derived.Test.YtkgkdppjopilmaaWKept
import Derived.Test.YtkgkdppjopilmaaWShare
import Derived.Test.YtkgkdppjopilmaaWN
import Derived.Test.YtkgkdppjopilmaaWFootNe
import Derived.Test.YtkgkdppjopilmaaWAt
import Derived.Test.YtkgkdppjopilmaaWEqStruct
import Derived.Test.YtkgkdppjopilmaaWRepsOne
import Derived.Test.YtkgkdppjopilmaaWInv
import Derived.Test.YtkgkdppjopilmaaWInvWords
import Derived.Test.YtkgkdppjopilmaaWGuard
import Derived.Test.YtkgkdppjopilmaaWNEv
import Derived.Test.YtkgkdppjopilmaaWMore
import Derived.Test.YtkgkdppjopilmaaBuf
import Derived.Deep.RegionWith
namespace Go.Proofs.Ytkgkdppjopilmaa.Buf
open Go.RowKit Go.Proofs.YtkgkdppjopilmaaW.PrintWords Go.Proofs.YtkgkdppjopilmaaW.PrintLast Go.Proofs.YtkgkdppjopilmaaW.PrintMore Go.Proofs.Ytkgkdppjopilmaa.Leb

/-- The error that is told. -/
abbrev errv (nm s : ByteArray) (off : Int) : Value := .iface 90 (.agg #[.string nm, .int .u32 off, .string s])

/-- What an error leaves: no bytes, and the error. -/
def Erred (w : World) (g : Nat) (nm : ByteArray) (off : Int) (w' : World) : Prop :=
  ∃ s m, w' = ((w.setCell ⟨g, 5, none⟩ (.slice none 0 0)).setCell ⟨g, 6, none⟩ (errv nm s off)).drewN m

theorem error_calls (g : Nat) (v5 : Value) (nm s : ByteArray) (off : Int) (w : World)
    (q3 : w.cell? ⟨g, 3, none⟩ = some (.string nm)) (q4 : w.cell? ⟨g, 4, none⟩ = some (.int .u32 off)) (q5 : w.cell? ⟨g, 5, none⟩ = some v5) (q6 : w.cell? ⟨g, 6, none⟩ = some .nilIface)
    (f5 : w.frozen? ⟨g, 5, none⟩ = false) (f6 : w.frozen? ⟨g, 6, none⟩ = false) :
    Calls Try.prog 43 #[.pointer (some ⟨g, 0, none⟩), .string s] w fun e w' => e = .returned (.tuple #[]) ∧ Erred w g nm off w' := by
  have n0 : g < w.heap.size := World.block_lt_of_cell? w _ q5
  go_enter Try.func43, Try.ntmps43
  go_wp2
  go_region
  all_goals go_wp2
  all_goals (go_end0; exact ⟨rfl, s, 1, rfl⟩)

/-- A second error is none. -/
theorem error_again (g : Nat) (t : Nat) (v6 : Value) (s : ByteArray) (w : World) (q6 : w.cell? ⟨g, 6, none⟩ = some (.iface t v6)) :
    Calls Try.prog 43 #[.pointer (some ⟨g, 0, none⟩), .string s] w fun e w' => e = .returned (.tuple #[]) ∧ w' = w := by
  have n0 : g < w.heap.size := World.block_lt_of_cell? w _ q6
  go_enter Try.func43, Try.ntmps43
  go_wp2
  go_end0
  exact ⟨rfl, rfl⟩

theorem size69 : (Try.prog.info? 69).map (·.size) = some 7 := by kernel_rfl
/-- A reader of its own, by value. -/
theorem makeBuf_calls (gd : Nat) (ft : Nat) (fv : Value) (nm : ByteArray) (off : Int) (A : Option Addr) (cap n : Nat) (b : Bool) (w : World) (q : w.cell? ⟨gd, 14, none⟩ = some (.bool b)) :
    Calls Try.prog 41 #[.pointer (some ⟨gd, 0, none⟩), .iface ft fv, .string nm, .int .u32 off, .slice A n cap] w fun e w' =>
      e = .returned (.agg #[.pointer (some ⟨gd, 0, none⟩), .bool b, .iface ft fv, .string nm, .int .u32 off, .slice A n cap, .nilIface]) ∧ w' = w.alloc (.cells #[.pointer (some ⟨gd, 0, none⟩), .bool b, .iface ft fv, .string nm, .int .u32 off, .slice A n cap, .nilIface] 69) := by
  have n0 : gd < w.heap.size := World.block_lt_of_cell? w _ q
  go_enter Try.func41, Try.ntmps41
  go_wp2
  refine bodyPost_ret (results_cell_row rfl _ _ _ _ _ _ _ rfl (heap_alloc_new _ _) Try.underlying69 rfl size69) rfl ⟨rfl, rfl⟩

theorem bare_calls (A : Option Addr) (cap n : Nat) (b : Bool) (w : World) :
    Calls Try.prog 36 #[.slice A n cap, .bool b] w fun e w' => ∃ gd : Nat, e = .returned (.agg #[.pointer (some ⟨gd, 0, none⟩), .bool b, .iface 82 (.agg #[]), .string (ByteArray.mk #[105, 110, 102, 111]), .int .u32 0, .slice A n cap, .nilIface]) ∧ Below w.heap.size w w' := by
  go_enter Try.func36, Try.ntmps36
  go_wp2_with fail
  refine (makeBuf_calls (w.heap.size + 1) _ _ _ _ _ _ _ b _ ?_).mono ?_
  · have h := blk_cell (heap_alloc_new (w.alloc (.cells #[.pointer none, .bool false, .nilIface, .string (ByteArray.mk #[]), .int .u32 0, .slice none 0 0, .nilIface] 69)) (.cells #[.slice none 0 0, .slice none 0 0, .slice none 0 0, .slice none 0 0, .slice none 0 0, .slice none 0 0, .slice none 0 0, .slice none 0 0, .slice none 0 0, .slice none 0 0, .slice none 0 0, .slice none 0 0, .map none, .bool b, .bool b, .slice none 0 0] 79)) 14
    rw [World.size_alloc] at h
    exact h.trans rfl
  rintro e w1 ⟨rfl, rfl⟩
  go_wp2_with fail
  refine bodyPost_ret (results_cell_row rfl _ _ _ _ _ _ _ rfl (blk_alloc (blk_alloc (heap_alloc_new _ _) _) _) Try.underlying69 rfl size69) rfl ⟨_, rfl, ?_⟩
  exact below_alloc (below_alloc (below_alloc (Below.refl _ _) _) _) _

/-- What uint leaves. -/
def UPost (w : World) (g : Nat) (nm : ByteArray) (off : Int) (l : List Int) : Option (Nat × Nat) → Ending → World → Prop
  | none, e, w' => e = .returned (.int .u64 0) ∧ Erred w g nm off w'
  | some (v, n), e, w' => e = .returned (.int .u64 ((v % 18446744073709551616 : Nat) : Int)) ∧ After w g off l n w'

theorem uint_calls (g : Nat) (A : Option Addr) (cap : Nat) (l : List Int) (off : Int) (nm : ByteArray) (w : World) (hl : l.length < 2147483648) (hb : Bytes l)
    (q3 : w.cell? ⟨g, 3, none⟩ = some (.string nm)) (q6 : w.cell? ⟨g, 6, none⟩ = some .nilIface) (f6 : w.frozen? ⟨g, 6, none⟩ = false)
    (q5 : w.cell? ⟨g, 5, none⟩ = some (.slice A l.length cap)) (q4 : w.cell? ⟨g, 4, none⟩ = some (.int .u32 off)) (f5 : w.frozen? ⟨g, 5, none⟩ = false) (f4 : w.frozen? ⟨g, 4, none⟩ = false)
    (HR : Kd.C u8s w A l.length l) (hcap : l.length ≤ cap) :
    Calls Try.prog 38 #[.pointer (some ⟨g, 0, none⟩)] w fun e w' => UPost w g nm off l (uread l) e w' := by
  have HV := Aside0.mk (varint_calls g A cap l off w hl hb q5 q4 f5 f4 HR hcap)
  have HL0 := Aside0.mk hl
  have n0 : g < w.heap.size := World.block_lt_of_cell? w _ q5
  have HE := Aside0.mk (error_calls g _ nm (ByteArray.mk #[117, 110, 100, 101, 114, 102, 108, 111, 119]) off w q3 q4 q5 q6 f5 f6)
  clear HR hl hcap hb
  go_enter Try.func38, Try.ntmps38
  go_wp2_with fail
  refine HV.out.mono ?_
  cases hu : uread l with
  | none =>
    have HU := Aside0.mk hu
    clear hu
    rintro e w1 ⟨rfl, rfl⟩
    go_wp2_with fail
    refine HE.out.mono ?_
    rintro e w2 ⟨rfl, he⟩
    have HER := Aside0.mk he
    clear he
    go_wp2_with fail
    go_ret
    rw [HU.out]
    exact ⟨rfl, HER.out⟩
  | some p =>
    obtain ⟨v, n⟩ := p
    have hn : 0 < n := (uread_count hu).1
    have c0 : decide (((7 * n : Nat) : Int) = 0) = false := by simp; omega
    obtain ⟨S, hS⟩ : ∃ S : Int, ((7 * n : Nat) : Int) = S := ⟨_, rfl⟩
    have c1 : decide (S = 0) = false := by rw [← hS]; exact c0
    have c2 : (S == 0) = false := by rw [← hS]; simp; omega
    have HU := Aside0.mk hu
    clear hu c0 HV
    rintro e w1 ⟨rfl, he⟩
    have HER := Aside0.mk he
    rw [hS]
    clear he hS
    go_wp2_with fail
    go_ret
    rw [HU.out]
    exact ⟨rfl, HER.out⟩

theorem after_cells {w w' : World} {g t n base : Nat} {cs : Array Value} {off : Int} {l : List Int} (h : After w g off l n w') (hg : w.heap[g]? = some (.cells cs t (0, 0))) (hs : 7 ≤ cs.size) (hB : base ≤ g) :
    w'.cell? ⟨g, 4, none⟩ = some (.int .u32 ((off + n) % 4294967296)) ∧ (w'.cell? ⟨g, 6, none⟩ = cs[6]?) ∧ Below base w w' ∧ g < w'.heap.size := by
  obtain ⟨A, cap, _, _, rfl⟩ := h
  have h2 := blk_set (blk_set hg 4 (.int .u32 ((off + n) % 4294967296))) 5 (.slice A (l.drop n).length cap)
  refine ⟨(blk_cell h2 4).trans ?_, (blk_cell h2 6).trans ?_, Below.setCell (Below.setCell (Below.refl _ _) hB _) hB _, blk_lt h2⟩
  · rw [Array.getElem?_setIfInBounds_ne (by decide), Array.getElem?_setIfInBounds_self_of_lt (by omega)]
  · rw [Array.getElem?_setIfInBounds_ne (by decide), Array.getElem?_setIfInBounds_ne (by decide)]

theorem erred_cells {w w' : World} {g t base : Nat} {cs : Array Value} {nm : ByteArray} {off : Int} (h : Erred w g nm off w') (hg : w.heap[g]? = some (.cells cs t (0, 0))) (hs : 7 ≤ cs.size) (hB : base ≤ g) :
    (w'.cell? ⟨g, 4, none⟩ = cs[4]?) ∧ (∃ s, w'.cell? ⟨g, 6, none⟩ = some (errv nm s off)) ∧ Below base w w' ∧ g < w'.heap.size := by
  obtain ⟨s, m, rfl⟩ := h
  have h2 := blk_set (blk_set hg 5 (.slice none 0 0)) 6 (errv nm s off)
  have hb := Below.setCell (Below.setCell (Below.refl base w) hB (p := ⟨g, 5, none⟩) (.slice none 0 0)) hB (p := ⟨g, 6, none⟩) (errv nm s off)
  refine ⟨(blk_cell h2 4).trans ?_, ⟨s, (blk_cell h2 6).trans ?_⟩, ⟨hb.os, hb.tape, hb.output, hb.size, hb.block⟩, blk_lt h2⟩
  · rw [Array.getElem?_setIfInBounds_ne (by decide), Array.getElem?_setIfInBounds_ne (by decide)]
  · rw [Array.getElem?_setIfInBounds_self_of_lt (by simp; omega)]

theorem Unsigned_calls (A : Option Addr) (cap : Nat) (l : List Int) (w : World) (hl : l.length < 2147483648) (hb : Bytes l) (HR : Kd.C u8s w A l.length l) (hcap : l.length ≤ cap) :
    Calls Try.prog 32 #[.slice A l.length cap] w fun e w' => e = .returned (.tuple #[.int .u64 (unsignedOf l).1, .int .i64 (unsignedOf l).2.1, .bool (unsignedOf l).2.2]) ∧ Below w.heap.size w w' := by
  have HR0 := Aside0.mk HR
  have HL0 := Aside0.mk hl
  have HB := Aside0.mk hb
  have HCAP := Aside0.mk hcap
  clear HR hl hcap hb
  go_enter Try.func32, Try.ntmps32
  go_wp2_with fail
  refine (bare_calls A cap l.length false w).mono ?_
  rintro e w1 ⟨gd, rfl, hb1⟩
  have HB1 := Aside0.mk hb1
  clear hb1
  go_wp2_with fail
  refine (uint_calls w1.heap.size A cap l 0 (ByteArray.mk #[105, 110, 102, 111]) _ HL0.out HB.out ?_ ?_ ?_ ?_ ?_ ?_ ?_ ?_ HCAP.out).mono ?_
  · exact (blk_cell (heap_alloc_new _ _) 3).trans rfl
  · exact (blk_cell (heap_alloc_new _ _) 6).trans rfl
  · exact blk_frozen (heap_alloc_new _ _) 6
  · exact (blk_cell (heap_alloc_new _ _) 5).trans rfl
  · exact (blk_cell (heap_alloc_new _ _) 4).trans rfl
  · exact blk_frozen (heap_alloc_new _ _) 5
  · exact blk_frozen (heap_alloc_new _ _) 4
  · exact Kd.C_below HR0.out (below_alloc HB1.out _)
  have hbk := heap_alloc_new w1 (.cells #[.pointer (some ⟨gd, 0, none⟩), .bool false, .iface 82 (.agg #[]), .string (ByteArray.mk #[105, 110, 102, 111]), .int .u32 0, .slice A l.length cap, .nilIface] 69)
  cases hu : uread l with
  | none =>
    rintro e w2 ⟨rfl, he⟩
    obtain ⟨q4, ⟨s, q6⟩, hB2, n0⟩ := erred_cells (base := w.heap.size) he hbk (Nat.le_refl 7) (by have := HB1.out.size; omega)
    replace q4 := q4.trans (show _ = some (.int .u32 0) from rfl)
    have HB2 := Aside0.mk ((below_alloc HB1.out _).trans hB2)
    have HU : Aside0 (unsignedOf l = (0, 0, false)) := ⟨by unfold unsignedOf; rw [hu]⟩
    clear he hB2 hu hbk
    go_wp2_with fail
    go_quiet (fail)
    go_wp2
    go_ret3
    rw [HU.out]
    exact ⟨rfl, pw_below_drewN HB2.out _⟩
  | some p =>
    obtain ⟨v, n⟩ := p
    rintro e w2 ⟨rfl, he⟩
    have hn := (uread_count hu).2
    obtain ⟨q4, q6, hB2, n0⟩ := after_cells (base := w.heap.size) he hbk (Nat.le_refl 7) (by have := HB1.out.size; omega)
    replace q6 := q6.trans (show _ = some .nilIface from rfl)
    have HB2 := Aside0.mk ((below_alloc HB1.out _).trans hB2)
    obtain ⟨O, hO⟩ : ∃ O : Int, ((0 : Int) + n) % 4294967296 = O := ⟨_, rfl⟩
    rw [hO] at q4
    obtain ⟨V, hV⟩ : ∃ V : Int, ((v % 18446744073709551616 : Nat) : Int) = V := ⟨_, rfl⟩
    rw [hV]
    have HU : Aside0 (unsignedOf l = (V, O, true)) := ⟨by unfold unsignedOf; rw [hu]; simp [← hV, ← hO]; have := HL0.out; omega⟩
    have hO1 : IntKind.i64.wrap O = O := by rw [← hO]; simp [IntKind.wrap, IntKind.signed, IntKind.bits]; have := HL0.out; omega
    clear he hB2 hu hbk hV hO
    go_wp2_with fail
    go_quiet (fail)
    go_wp2
    go_ret3
    rw [HU.out]
    exact ⟨rfl, pw_below_drewN HB2.out _⟩
end Go.Proofs.Ytkgkdppjopilmaa.Buf
