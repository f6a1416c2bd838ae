/- The reader of bytes (package dwarf, type buf) as a state: what each of its functions makes of it. -/
import Derived.Test.YtkgkdppjopilmaaProg
import Derived.Below
import Derived.Deep.Draws
import Derived.Deep.AppendLies
import Derived.Maps.AppendAt
import Derived.OwnWalk
import Derived.Laws.BytesArg
import Derived.Laws.MakeOwn
import Derived.Laws.OwnMore
import Derived.Deep.OwnRows
import Derived.Tactics
import Derived.Lib.ConvBytes
import Derived.Laws.Slices
import Derived.WalkKit
import Derived.KernelRfl
import Derived.RowKit3
import Derived.Deep.LoopGhost
import Derived.Deep.QuietTactic
import Derived.BigQuiet
import Derived.WideLaws
import Derived.Deep.DeepCutAuto
import Derived.Deep.CutBlock
import Derived.Deep.RegionHeld3
import Derived.Laws.Rows
import Derived.Lib.AppendStr
import Derived.ArgAppend
import Derived.Laws.IdiomCopy
import Derived.OrdersHeld
import Derived.Laws.BitsLemmas
import Derived.RowKit
import Derived.Test.YtkgkdppjopilmaaWWords
import Derived.Test.YtkgkdppjopilmaaWLast
import Derived.Test.YtkgkdppjopilmaaWTab
import Derived.Test.YtkgkdppjopilmaaWFour
import Derived.Test.YtkgkdppjopilmaaWQPut
import Derived.Test.YtkgkdppjopilmaaWApart
import Derived.Test.YtkgkdppjopilmaaWArr
import Derived.Test.YtkgkdppjopilmaaWZeros
import Derived.Test.YtkgkdppjopilmaaWFoot
import Derived.Test.YtkgkdppjopilmaaWKept
import Derived.Test.YtkgkdppjopilmaaWShare
import Derived.Test.YtkgkdppjopilmaaWN
import Derived.Test.YtkgkdppjopilmaaWFootNe
import Derived.Test.YtkgkdppjopilmaaWAt
import Derived.Test.YtkgkdppjopilmaaWEqStruct
import Derived.Test.YtkgkdppjopilmaaWRepsOne
import Derived.Test.YtkgkdppjopilmaaWInv
import Derived.Test.YtkgkdppjopilmaaWInvWords
import Derived.Test.YtkgkdppjopilmaaWGuard
import Derived.Test.YtkgkdppjopilmaaWNEv
import Derived.Test.YtkgkdppjopilmaaWMore
import Derived.Test.YtkgkdppjopilmaaBuf7
namespace Go.Proofs.Ytkgkdppjopilmaa.Buf
open Go.RowKit Go.Proofs.YtkgkdppjopilmaaW.PrintWords Go.Proofs.YtkgkdppjopilmaaW.PrintLast Go.Proofs.YtkgkdppjopilmaaW.PrintMore Go.Proofs.Ytkgkdppjopilmaa.Leb

/-- What a reader of bytes has that never turns. -/
structure BC where
  d : Value
  big : Bool
  f : Value
  nm : ByteArray
/-- A reader's state: where it stands, what is ahead, whether no error was told. -/
structure S where
  off : Int
  l : List Int
  ok : Bool

/-- Its cells. -/
abbrev cellsOf (c : BC) (s : S) (A : Option Addr) (cap : Nat) (ev : Value) : Array Value := #[c.d, .bool c.big, c.f, .string c.nm, .int .u32 s.off, .slice A s.l.length cap, ev]
/-- No error, or one. -/
def ErrIs (ok : Bool) (v : Value) : Prop := if ok then v = .nilIface else ∃ t x, v = .iface t x
/-- A reader lies at the head of block g. -/
structure Has (w : World) (g t : Nat) (rest : Array Value) (c : BC) (s : S) : Prop where
  at_ : ∃ A cap ev, w.heap[g]? = some (.cells (cellsOf c s A cap ev ++ rest) t (0, 0)) ∧ Kd.C u8s w A s.l.length s.l ∧ s.l.length ≤ cap ∧ ErrIs s.ok ev
  len : s.l.length < 2147483648
  byte : Bytes s.l
  nil_ : s.ok = false → s.l = []
/-- All blocks but one are as they were. -/
structure Kp (w w' : World) (g : Nat) : Prop where
  os : w'.os = w.os
  tape : w'.tape = w.tape
  output : w'.output = w.output
  size : w.heap.size ≤ w'.heap.size
  block : ∀ k, k < w.heap.size → k ≠ g → w'.heap[k]? = w.heap[k]?
theorem Kp.refl (w : World) (g : Nat) : Kp w w g := ⟨rfl, rfl, rfl, Nat.le_refl _, fun _ _ _ => rfl⟩
theorem Kp.trans {w1 w2 w3 : World} {g : Nat} (h : Kp w1 w2 g) (k : Kp w2 w3 g) : Kp w1 w3 g := ⟨k.os.trans h.os, k.tape.trans h.tape, k.output.trans h.output, Nat.le_trans h.size k.size, fun i hi hg => (k.block i (Nat.lt_of_lt_of_le hi h.size) hg).trans (h.block i hi hg)⟩
theorem Kp.below {w w' : World} {g base : Nat} (h : Kp w w' g) (hg : base ≤ g) (hb : base ≤ w.heap.size) : Below base w w' := ⟨h.os, h.tape, h.output, h.size, fun k hk => h.block k (by omega) (by omega)⟩
theorem Kp.of_below {w w' : World} {g : Nat} (h : Below w.heap.size w w') : Kp w w' g := ⟨h.os, h.tape, h.output, h.size, fun k hk _ => h.block k hk⟩
theorem Kp.set {w w' : World} {g : Nat} (h : Kp w w' g) (j : Nat) (v : Value) : Kp w (w'.setCell ⟨g, j, none⟩ v) g := ⟨h.os, h.tape, h.output, by simpa using h.size, fun k hk hg => (Below.heap_setCell w' ⟨g, j, none⟩ v k hg).trans (h.block k hk hg)⟩
theorem Kp.drewN {w w' : World} {g : Nat} (h : Kp w w' g) (n : Nat) : Kp w (w'.drewN n) g := ⟨h.os, h.tape, h.output, h.size, h.block⟩

/-- n bytes further on. -/
def S.adv (s : S) (n : Nat) : S := { s with off := (s.off + n) % 4294967296, l := s.l.drop n }
/-- An error. -/
def S.fail (s : S) : S := { s with l := [], ok := false }
theorem cells_at (c : BC) (s : S) (A : Option Addr) (cap : Nat) (ev : Value) (rest : Array Value) (i : Nat) (h : i < 7) : (cellsOf c s A cap ev ++ rest)[i]? = (cellsOf c s A cap ev)[i]? := Array.getElem?_append_left (xs := cellsOf c s A cap ev) (ys := rest) h
theorem has_after {w w' : World} {g t n : Nat} {rest : Array Value} {c : BC} {s : S} (hH : Has w g t rest c s) (h : After w g s.off s.l n w') : Has w' g t rest c (s.adv n) ∧ Kp w w' g := by
  obtain ⟨A0, cap0, ev, hg, hC0, _, he⟩ := hH.at_
  obtain ⟨A, cap, hC, hc, rfl⟩ := h
  have h2 := blk_set (blk_set hg 4 (.int .u32 ((s.off + n) % 4294967296))) 5 (.slice A (s.l.drop n).length cap)
  have q4 : w.cell? ⟨g, 4, none⟩ = some (.int .u32 s.off) := (blk_cell hg 4).trans (cells_at c s A0 cap0 ev rest 4 (by decide))
  have q5 : w.cell? ⟨g, 5, none⟩ = some (.slice A0 s.l.length cap0) := (blk_cell hg 5).trans (cells_at c s A0 cap0 ev rest 5 (by decide))
  refine ⟨⟨⟨A, cap, ev, ?_, ?_, hc, he⟩, ?_, hH.byte.drop n, ?_⟩, ((Kp.refl w g).set 4 _).set 5 _⟩
  · rw [h2]
    simp [cellsOf, S.adv]
  · refine C_set (v := .slice A0 s.l.length cap0) (C_set hC q4 (fun x => by simp) _) ?_ (fun x => by simp) _
    rw [set_other _ _ _ _ (by decide)]
    exact q5
  · have := hH.len
    simp only [S.adv, List.length_drop]
    omega
  · intro h
    simp [S.adv, hH.nil_ h]
theorem has_erred {w w' : World} {g t : Nat} {rest : Array Value} {c : BC} {s : S} (hH : Has w g t rest c s) (h : Erred w g c.nm s.off w') : Has w' g t rest c s.fail ∧ Kp w w' g := by
  obtain ⟨A0, cap0, ev, hg, hC0, _, he⟩ := hH.at_
  obtain ⟨m, n, rfl⟩ := h
  have h2 := blk_set (blk_set hg 5 (.slice none 0 0)) 6 (errv c.nm m s.off)
  refine ⟨⟨⟨none, 0, errv c.nm m s.off, ?_, Kd.C_nil _ _, by simp [S.fail], 90, _, rfl⟩, by simp [S.fail], by intro b hb; simp [S.fail] at hb, fun _ => rfl⟩, (((Kp.refl w g).set 5 _).set 6 _).drewN n⟩
  show ((w.setCell ⟨g, 5, none⟩ (.slice none 0 0)).setCell ⟨g, 6, none⟩ (errv c.nm m s.off)).heap[g]? = _
  rw [h2]
  simp [cellsOf, S.fail]

/-- The facts on the cells, as the walks want them. -/
theorem Has.parts {w : World} {g t : Nat} {rest : Array Value} {c : BC} {s : S} (hH : Has w g t rest c s) : ∃ A cap ev, w.cell? ⟨g, 1, none⟩ = some (.bool c.big) ∧ w.cell? ⟨g, 3, none⟩ = some (.string c.nm) ∧ w.cell? ⟨g, 4, none⟩ = some (.int .u32 s.off) ∧ w.cell? ⟨g, 5, none⟩ = some (.slice A s.l.length cap) ∧ w.cell? ⟨g, 6, none⟩ = some ev ∧ ErrIs s.ok ev ∧ (∀ j, w.frozen? ⟨g, j, none⟩ = false) ∧ Kd.C u8s w A s.l.length s.l ∧ s.l.length ≤ cap := by
  obtain ⟨A0, cap0, ev, hg, hC0, hc, he⟩ := hH.at_
  exact ⟨A0, cap0, ev, (blk_cell hg 1).trans (cells_at c s A0 cap0 ev rest 1 (by decide)), (blk_cell hg 3).trans (cells_at c s A0 cap0 ev rest 3 (by decide)), (blk_cell hg 4).trans (cells_at c s A0 cap0 ev rest 4 (by decide)), (blk_cell hg 5).trans (cells_at c s A0 cap0 ev rest 5 (by decide)), (blk_cell hg 6).trans (cells_at c s A0 cap0 ev rest 6 (by decide)), he, fun j => blk_frozen hg j, hC0, hc⟩

/-- error. -/
theorem fail_calls {w : World} {g t : Nat} {rest : Array Value} {c : BC} {s : S} (hH : Has w g t rest c s) (m : ByteArray) :
    Calls Try.prog 43 #[.pointer (some ⟨g, 0, none⟩), .string m] w fun e w' => e = .returned (.tuple #[]) ∧ Has w' g t rest c s.fail ∧ Kp w w' g := by
  obtain ⟨A, cap, ev, q1, q3, q4, q5, q6, he, fz, hC, hc⟩ := hH.parts
  unfold ErrIs at he
  by_cases hok : s.ok = true
  · rw [if_pos hok] at he
    subst he
    refine (error_calls g _ c.nm m s.off w q3 q4 q5 q6 (fz 5) (fz 6)).mono ?_
    rintro e w' ⟨rfl, h⟩
    exact ⟨rfl, has_erred hH h⟩
  · rw [if_neg hok] at he
    obtain ⟨u, x, rfl⟩ := he
    refine (error_again g u x m w q6).mono ?_
    rintro e w' ⟨rfl, rfl⟩
    have hl : s.fail = s := by
      have h := hH.nil_ (by simpa using hok)
      cases s
      simp at h hok
      simp [S.fail, h, hok]
    rw [hl]
    exact ⟨rfl, hH, Kp.refl _ _⟩

/-- uint, as a state. -/
def S.uint (s : S) : Int × S := match uread s.l with
  | none => (0, s.fail)
  | some (v, n) => (((v % 18446744073709551616 : Nat) : Int), s.adv n)
theorem uint_has {w : World} {g t : Nat} {rest : Array Value} {c : BC} {s : S} (hH : Has w g t rest c s) :
    Calls Try.prog 38 #[.pointer (some ⟨g, 0, none⟩)] w fun e w' => e = .returned (.int .u64 s.uint.1) ∧ Has w' g t rest c s.uint.2 ∧ Kp w w' g := by
  obtain ⟨A, cap, ev, q1, q3, q4, q5, q6, he, fz, hC, hc⟩ := hH.parts
  have HV := Aside0.mk (varint_calls g A cap s.l s.off w hH.len hH.byte q5 q4 (fz 5) (fz 4) hC hc)
  have n0 : g < w.heap.size := World.block_lt_of_cell? w _ q5
  have HE := Aside0.mk (fail_calls hH (ByteArray.mk #[117, 110, 100, 101, 114, 102, 108, 111, 119]))
  have HH := Aside0.mk hH
  clear q1 q3 q4 q5 q6 he fz hC hc hH
  go_enter Try.func38, Try.ntmps38
  go_wp2_with fail
  refine HV.out.mono ?_
  cases hu : uread s.l with
  | none =>
    have HU := Aside0.mk hu
    clear hu
    rintro e w1 ⟨rfl, rfl⟩
    go_wp2_with fail
    refine HE.out.mono ?_
    rintro e w2 ⟨rfl, he⟩
    have HER := Aside0.mk he
    clear he
    go_wp2_with fail
    go_ret
    have hs : s.uint = (0, s.fail) := by unfold S.uint; rw [HU.out]
    rw [hs]
    exact ⟨rfl, HER.out⟩
  | some p =>
    obtain ⟨v, n⟩ := p
    have hn : 0 < n := (uread_count hu).1
    have c0 : decide (((7 * n : Nat) : Int) = 0) = false := by simp; omega
    obtain ⟨X, hX⟩ : ∃ X : Int, ((7 * n : Nat) : Int) = X := ⟨_, rfl⟩
    have c1 : decide (X = 0) = false := by rw [← hX]; exact c0
    have c2 : (X == 0) = false := by rw [← hX]; simp; omega
    have HU := Aside0.mk hu
    clear hu c0 HV
    rintro e w1 ⟨rfl, he⟩
    have HER := Aside0.mk (has_after HH.out he)
    rw [hX]
    clear he hX
    go_wp2_with fail
    go_ret
    have hs : s.uint = (((v % 18446744073709551616 : Nat) : Int), s.adv n) := by unfold S.uint; rw [HU.out]
    rw [hs]
    exact ⟨rfl, HER.out⟩

/-- bytes, as a state: whether there were enough, and the state. -/
def S.bytes (s : S) (n : Nat) : S := if n ≤ s.l.length then s.adv n else s.fail
/-- The row that bytes tells. -/
def Row (w : World) (v : Value) (l : List Int) : Prop := ∃ A cap, v = .slice A l.length cap ∧ Kd.C u8s w A l.length l ∧ l.length ≤ cap
/-- What bytes hands back. -/
def BRes (w' : World) (s : S) (n : Nat) (v : Value) : Prop := if n ≤ s.l.length then Row w' v (s.l.take n) ∧ (0 < n → ∃ ad c, v = .slice (some ad) n c) else v = .slice none 0 0
set_option maxRecDepth 10000 in
theorem bytes_has {w : World} {g t : Nat} {rest : Array Value} {c : BC} {s : S} (hH : Has w g t rest c s) (n : Nat) (hn : n < 9223372036854775808) :
    Calls Try.prog 48 #[.pointer (some ⟨g, 0, none⟩), .int .i64 (n : Int)] w fun e w' => (∃ v, e = .returned v ∧ BRes w' s n v) ∧ Has w' g t rest c (s.bytes n) ∧ Kp w w' g := by
  obtain ⟨A, cap, ev, q1, q3, q4, q5, q6, he, fz, hC, hcp⟩ := hH.parts
  have HN := Aside0.mk hn
  have HR0 := Aside0.mk hC
  have HCAP := Aside0.mk hcp
  have Q := Aside0.mk (And.intro q4 q5)
  have n0 : g < w.heap.size := World.block_lt_of_cell? w _ q5
  have HE := Aside0.mk (fail_calls hH (ByteArray.mk #[117, 110, 100, 101, 114, 102, 108, 111, 119]))
  have HH := Aside0.mk hH
  have d0 : decide ((n : Int) < 0) = false := by simp
  have d1 : (0 ≤ (n : Int)) = True := eq_true (by omega)
  have f4 := fz 4
  have f5 := fz 5
  clear q1 q3 q6 he fz hC hcp hH hn
  by_cases hc : n ≤ s.l.length
  · have c1 : decide ((s.l.length : Int) < (n : Int)) = false := by simp; omega
    have hcap : n ≤ cap := by have := HCAP.out; omega
    have HS := Aside0.mk (after_mk (g := g) (off := s.off) (n := n) HR0.out HCAP.out hc)
    have HC := Aside0.mk hc
    have HD : Aside0 (∀ (cp : Nat) (w' : World), cp = cap → After w g s.off s.l n w' → (∃ v, Ending.returned (.slice A n cp) = .returned v ∧ BRes w' s n v) ∧ Has w' g t rest c (s.bytes n) ∧ Kp w w' g) := ⟨fun cp w' hcp ha => by
      subst hcp
      have hlen : (s.l.take n).length = n := by rw [List.length_take]; omega
      refine ⟨⟨_, rfl, ?_⟩, ?_⟩
      · unfold BRes
        rw [if_pos hc]
        refine ⟨⟨A, cp, by rw [hlen], ?_, by rw [hlen]; omega⟩, fun h0 => ?_⟩
        · exact Kd.C_take (after_row ha HR0.out Q.out.1 Q.out.2) hc
        · cases A with
          | none => obtain ⟨ad, e, _⟩ := HR0.out.2.2 (by omega); cases e
          | some ad => exact ⟨ad, cp, rfl⟩
      · unfold S.bytes
        rw [if_pos hc]
        exact has_after HH.out ha⟩
    clear HE
    go_enter Try.func48, Try.ntmps48
    go_wp2_with fail
    all_goals (go_ret; refine HD.out _ _ (by omega) ?_; rw [set_swap _ _ _ _ (by decide)]; have h1_ := HS.out; simpa [*, Addr.add] using h1_)
  · have c1 : decide ((s.l.length : Int) < (n : Int)) = true := by simp; omega
    have c2 : (s.l.length < n) = True := eq_true (by omega)
    have HC := Aside0.mk hc
    clear hc
    go_enter Try.func48, Try.ntmps48
    go_wp2_with fail
    refine HE.out.mono ?_
    rintro e w2 ⟨rfl, he⟩
    have HER := Aside0.mk he
    clear he
    go_wp2_with fail
    go_ret
    refine ⟨⟨_, rfl, by unfold BRes; rw [if_neg HC.out]; rfl⟩, ?_⟩
    unfold S.bytes
    rw [if_neg HC.out]
    exact HER.out
end Go.Proofs.Ytkgkdppjopilmaa.Buf
