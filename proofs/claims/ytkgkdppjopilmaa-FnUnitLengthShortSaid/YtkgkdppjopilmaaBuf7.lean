/- The contracts of the reader of bytes (package dwarf, type buf), proved by hand: bytes, numbers, the length of a unit. -/
import Derived.Test.YtkgkdppjopilmaaProg
import Derived.Below
import Derived.Deep.Draws
import Derived.Deep.AppendLies
import Derived.Maps.AppendAt
import Derived.OwnWalk
import Derived.Laws.BytesArg
import Derived.Laws.MakeOwn
import Derived.Laws.OwnMore
import Derived.Deep.OwnRows
import Derived.Tactics
import Derived.Lib.ConvBytes
import Derived.Laws.Slices
import Derived.WalkKit
import Derived.KernelRfl
import Derived.RowKit3
import Derived.Deep.LoopGhost
import Derived.Deep.QuietTactic
import Derived.BigQuiet
import Derived.WideLaws
import Derived.Deep.DeepCutAuto
import Derived.Deep.CutBlock
import Derived.Deep.RegionHeld3
import Derived.Laws.Rows
import Derived.Lib.AppendStr
import Derived.ArgAppend
import Derived.Laws.IdiomCopy
import Derived.OrdersHeld
import Derived.Laws.BitsLemmas
import Derived.RowKit
import Derived.Test.YtkgkdppjopilmaaWWords
import Derived.Test.YtkgkdppjopilmaaWLast
import Derived.Test.YtkgkdppjopilmaaWTab
import Derived.Test.YtkgkdppjopilmaaWFour
import Derived.Test.YtkgkdppjopilmaaWQPut
import Derived.Test.YtkgkdppjopilmaaWApart
import Derived.Test.YtkgkdppjopilmaaWArr
import Derived.Test.YtkgkdppjopilmaaWZeros
import Derived.Test.YtkgkdppjopilmaaWFoot
import Derived.Test.YtkgkdppjopilmaaWKept
import Derived.Test.YtkgkdppjopilmaaWShare
import Derived.Test.YtkgkdppjopilmaaWN
import Derived.Test.YtkgkdppjopilmaaWFootNe
import Derived.Test.YtkgkdppjopilmaaWAt
import Derived.Test.YtkgkdppjopilmaaWEqStruct
import Derived.Test.YtkgkdppjopilmaaWRepsOne
import Derived.Test.YtkgkdppjopilmaaWInv
import Derived.Test.YtkgkdppjopilmaaWInvWords
import Derived.Test.YtkgkdppjopilmaaWGuard
import Derived.Test.YtkgkdppjopilmaaWNEv
import Derived.Test.YtkgkdppjopilmaaWMore
import Derived.Test.YtkgkdppjopilmaaBuf6
import Derived.Lib.SliceRun
namespace Go.Proofs.Ytkgkdppjopilmaa.Buf
open Go.RowKit Go.Proofs.YtkgkdppjopilmaaW.PrintWords Go.Proofs.YtkgkdppjopilmaaW.PrintLast Go.Proofs.YtkgkdppjopilmaaW.PrintMore Go.Proofs.Ytkgkdppjopilmaa.Leb

theorem set_other (w : World) (g i j : Nat) (h : i ≠ j) (x : Value) : (w.setCell ⟨g, i, none⟩ x).cell? ⟨g, j, none⟩ = w.cell? ⟨g, j, none⟩ := by
  apply World.cell?_setCell_other
  intro e
  injection e with e1 e2 e3
  exact h e2

/-- A cell that is no byte is none of a row of bytes. -/
theorem C_set {w : World} {A : Option Addr} {n : Nat} {l : List Int} {p : Addr} {v : Value} (HR : Kd.C u8s w A n l) (q : w.cell? p = some v) (hv : ∀ x, v ≠ .int .u8 x) (u : Value) : Kd.C u8s (w.setCell p u) A n l := by
  have h := Kd.reads_of_C (enc := Value.int .u8) (d := (0 : Int)) (h1 := fun _ => rfl) HR
  refine Kd.C_of_reads (enc := Value.int .u8) (d := (0 : Int)) (h1 := fun _ => rfl) ⟨h.1, h.2.1, fun hp => ?_⟩
  obtain ⟨ad, e, hc⟩ := h.2.2 hp
  refine ⟨ad, e, fun j hj => ?_⟩
  rw [World.cell?_setCell_other]
  · exact hc j hj
  · intro he
    have h1 := hc j hj
    rw [← he, q] at h1
    injection h1 with h1
    exact hv _ h1

/-- What bytes leaves. -/
def BPost (w : World) (g : Nat) (nm : ByteArray) (off : Int) (A : Option Addr) (cap : Nat) (l : List Int) (n : Nat) (e : Ending) (w' : World) : Prop :=
  if n ≤ l.length then e = .returned (.slice A n cap) ∧ After w g off l n w' else e = .returned (.slice none 0 0) ∧ Erred w g nm off w'

set_option maxRecDepth 10000 in
theorem bytes_calls (g : Nat) (A : Option Addr) (cap : Nat) (l : List Int) (off : Int) (nm : ByteArray) (n : Nat) (w : World) (hl : l.length < 2147483648) (hn : n < 9223372036854775808)
    (q3 : w.cell? ⟨g, 3, none⟩ = some (.string nm)) (q6 : w.cell? ⟨g, 6, none⟩ = some .nilIface) (f6 : w.frozen? ⟨g, 6, none⟩ = false)
    (q5 : w.cell? ⟨g, 5, none⟩ = some (.slice A l.length cap)) (q4 : w.cell? ⟨g, 4, none⟩ = some (.int .u32 off)) (f5 : w.frozen? ⟨g, 5, none⟩ = false) (f4 : w.frozen? ⟨g, 4, none⟩ = false)
    (HR : Kd.C u8s w A l.length l) (hcap : l.length ≤ cap) :
    Calls Try.prog 48 #[.pointer (some ⟨g, 0, none⟩), .int .i64 (n : Int)] w fun e w' => BPost w g nm off A cap l n e w' := by
  have HL0 := Aside0.mk hl
  have HN := Aside0.mk hn
  have HR0 := Aside0.mk HR
  have HCAP := Aside0.mk hcap
  have n0 : g < w.heap.size := World.block_lt_of_cell? w _ q5
  have HE := Aside0.mk (error_calls g _ nm (ByteArray.mk #[117, 110, 100, 101, 114, 102, 108, 111, 119]) off w q3 q4 q5 q6 f5 f6)
  have d0 : decide ((n : Int) < 0) = false := by simp
  have d1 : (0 ≤ (n : Int)) = True := eq_true (by omega)
  clear HR hl hcap hn
  by_cases hc : n ≤ l.length
  · have c1 : decide ((l.length : Int) < (n : Int)) = false := by simp; omega
    have hcap : n ≤ cap := by have := HCAP.out; omega
    have HS := Aside0.mk (after_mk (g := g) (off := off) (n := n) HR0.out HCAP.out hc)
    have HC := Aside0.mk hc
    have z0 : (n = 0) = (n = 0) := rfl
    clear HE
    go_enter Try.func48, Try.ntmps48
    go_wp2_with fail
    all_goals (go_ret; unfold BPost; rw [if_pos HC.out]; refine ⟨rfl, ?_⟩; rw [set_swap _ _ _ _ (by decide)]; have h1_ := HS.out; simpa [*, Addr.add] using h1_)
  · have c1 : decide ((l.length : Int) < (n : Int)) = true := by simp; omega
    have c2 : (l.length < n) = True := eq_true (by omega)
    have HC := Aside0.mk hc
    clear hc
    go_enter Try.func48, Try.ntmps48
    go_wp2_with fail
    refine HE.out.mono ?_
    rintro e w2 ⟨rfl, he⟩
    have HER := Aside0.mk he
    clear he
    go_wp2_with fail
    go_ret
    unfold BPost
    rw [if_neg HC.out]
    exact ⟨rfl, HER.out⟩

theorem after_row {w w' : World} {g n : Nat} {off : Int} {l : List Int} {A : Option Addr} {m : Nat} {v4i : Int} {a5 : Option Addr} {n5 c5 : Nat} {xs : List Int} (h : After w g off l n w') (HR : Kd.C u8s w A m xs)
    (q4 : w.cell? ⟨g, 4, none⟩ = some (.int .u32 v4i)) (q5 : w.cell? ⟨g, 5, none⟩ = some (.slice a5 n5 c5)) : Kd.C u8s w' A m xs := by
  obtain ⟨A', cap', _, _, rfl⟩ := h
  have h1 := C_set HR q4 (fun x => by simp) (.int .u32 ((off + n) % 4294967296))
  refine C_set (v := .slice a5 n5 c5) h1 ?_ (fun x => by simp) _
  rw [set_other _ _ _ _ (by decide)]
  exact q5

theorem eql_nil (W : World) (A : Option Addr) (n c : Nat) : Sem.run Try.prog (binOp .eql 22 (.slice A n c) (.slice none 0 0)) W = .ok (.bool A.isNone) W := by
  exact Lib.run_eql_slice_nil W 22 5 A n c 0 0 Try.underlying22

/-- What uint32 leaves. -/
def Post32 (w : World) (g : Nat) (nm : ByteArray) (off : Int) (big : Bool) (l : List Int) (e : Ending) (w' : World) : Prop :=
  match l with
  | b0 :: b1 :: b2 :: b3 :: _ => e = .returned (.int .u32 (four big b0 b1 b2 b3)) ∧ ∃ w1, After w g off l 4 w1 ∧ Below w1.heap.size w1 w'
  | _ => e = .returned (.int .u32 0) ∧ Erred w g nm off w'

set_option maxRecDepth 10000 in
theorem uint32_calls (g : Nat) (A : Option Addr) (cap : Nat) (l : List Int) (off : Int) (nm : ByteArray) (big : Bool) (w : World) (hl : l.length < 2147483648) (hb : Bytes l)
    (q1 : w.cell? ⟨g, 1, none⟩ = some (.bool big)) (q3 : w.cell? ⟨g, 3, none⟩ = some (.string nm)) (q6 : w.cell? ⟨g, 6, none⟩ = some .nilIface) (f6 : w.frozen? ⟨g, 6, none⟩ = false)
    (q5 : w.cell? ⟨g, 5, none⟩ = some (.slice A l.length cap)) (q4 : w.cell? ⟨g, 4, none⟩ = some (.int .u32 off)) (f5 : w.frozen? ⟨g, 5, none⟩ = false) (f4 : w.frozen? ⟨g, 4, none⟩ = false)
    (HR : Kd.C u8s w A l.length l) (hcap : l.length ≤ cap) :
    Calls Try.prog 45 #[.pointer (some ⟨g, 0, none⟩)] w fun e w' => Post32 w g nm off big l e w' := by
  have HV := Aside0.mk (bytes_calls g A cap l off nm 4 w hl (by decide) q3 q6 f6 q5 q4 f5 f4 HR hcap)
  have n0 : g < w.heap.size := World.block_lt_of_cell? w _ q5
  by_cases hc : 4 ≤ l.length
  · have en := fun W => eql_nil W
    obtain ⟨b0, b1, b2, b3, r, rfl⟩ : ∃ b0 b1 b2 b3 r, l = b0 :: b1 :: b2 :: b3 :: r := by
      rcases l with _ | ⟨b0, _ | ⟨b1, _ | ⟨b2, _ | ⟨b3, r⟩⟩⟩⟩ <;> first | (simp at hc; done) | exact ⟨_, _, _, _, _, rfl⟩
    obtain ⟨ad, e1, hx0⟩ := at_nat HR 0 (by simp)
    cases e1
    have HR0 := Aside0.mk HR
    have HCAP := Aside0.mk hcap
    have HB := Aside0.mk hb
    have HC := Aside0.mk hc
    have Q := Aside0.mk (And.intro q1 (And.intro q4 q5))
    clear HR hcap hb hc hx0 q1 q3 q6 f6 q5 q4 f5 f4 hl
    go_enter Try.func45, Try.ntmps45
    go_wp2_with fail
    refine HV.out.mono ?_
    intro e w1 hp
    unfold BPost at hp
    rw [if_pos HC.out] at hp
    obtain ⟨rfl, ha⟩ := hp
    have HA := Aside0.mk ha
    have HR1 := Aside0.mk (after_row ha HR0.out Q.out.2.1 Q.out.2.2)
    have q1 : w1.cell? ⟨g, 1, none⟩ = some (.bool big) := by
      obtain ⟨A', cap', _, _, rfl⟩ := ha
      rw [set_other _ _ _ _ (by decide), set_other _ _ _ _ (by decide)]
      exact Q.out.1
    have n1 : g < w1.heap.size := World.block_lt_of_cell? w1 _ q1
    clear ha
    go_wp2_with fail
    have hb0 := HB.out b0 (by simp)
    have hb1 := HB.out b1 (by simp)
    have hb2 := HB.out b2 (by simp)
    have hb3 := HB.out b3 (by simp)
    have at_ : ∀ i (h : i < (b0 :: b1 :: b2 :: b3 :: r).length), w1.cell? (ad.add i) = some (.int .u8 ((b0 :: b1 :: b2 :: b3 :: r)[i])) := fun i h => by
      obtain ⟨ad', e2, hx⟩ := at_nat HR1.out i h
      cases e2
      exact hx
    refine (Uint32_calls big ad cap 4 b0 b1 b2 b3 w1 hb0 hb1 hb2 hb3 (by decide) (by have := HCAP.out; simp at this; omega) (at_ 0 (by simp)) (at_ 1 (by simp)) (at_ 2 (by simp)) (at_ 3 (by simp))).mono ?_
    rintro e w2 ⟨rfl, hb⟩
    have HB2 := Aside0.mk hb
    clear hb
    go_wp2_with fail
    go_ret
    exact ⟨rfl, _, HA.out, HB2.out⟩
  · have en := fun W => eql_nil W
    have HC := Aside0.mk hc
    have HP : Aside0 (∀ e w', (e = .returned (.int .u32 0) ∧ Erred w g nm off w') → Post32 w g nm off big l e w') := ⟨fun e w' h => by
      rcases l with _ | ⟨b0, _ | ⟨b1, _ | ⟨b2, _ | ⟨b3, r⟩⟩⟩⟩ <;> first | exact h | (simp at hc)⟩
    clear HR hcap hb hc q1 q3 q6 f6 q5 q4 f5 f4 hl
    go_enter Try.func45, Try.ntmps45
    go_wp2_with fail
    refine HV.out.mono ?_
    intro e w1 hp
    unfold BPost at hp
    rw [if_neg HC.out] at hp
    obtain ⟨rfl, ha⟩ := hp
    have HA := Aside0.mk ha
    clear ha
    go_wp2_with fail
    go_ret
    exact HP.out _ _ ⟨rfl, HA.out⟩
end Go.Proofs.Ytkgkdppjopilmaa.Buf
