/- The contracts of the reader of bytes (package dwarf, type buf), proved by hand. -/
import Derived.Test.YtkgkdppjopilmaaProg
import Derived.Below
import Derived.Deep.Draws
import Derived.Deep.AppendLies
import Derived.Maps.AppendAt
import Derived.OwnWalk
import Derived.Laws.BytesArg
import Derived.Laws.MakeOwn
import Derived.Laws.OwnMore
import Derived.Deep.OwnRows
import Derived.Tactics
import Derived.Lib.ConvBytes
import Derived.Laws.Slices
import Derived.WalkKit
import Derived.KernelRfl
import Derived.RowKit3
import Derived.Deep.LoopGhost
import Derived.Deep.QuietTactic
import Derived.BigQuiet
import Derived.WideLaws
import Derived.Deep.DeepCutAuto
import Derived.Deep.CutBlock
import Derived.Deep.RegionHeld3
import Derived.Laws.Rows
import Derived.Lib.AppendStr
import Derived.ArgAppend
import Derived.Laws.IdiomCopy
import Derived.OrdersHeld
import Derived.Laws.BitsLemmas
import Derived.RowKit
import Derived.Test.YtkgkdppjopilmaaWWords
import Derived.Test.YtkgkdppjopilmaaWLast
import Derived.Test.YtkgkdppjopilmaaWTab
import Derived.Test.YtkgkdppjopilmaaWFour
import Derived.Test.YtkgkdppjopilmaaWQPut
import Derived.Test.YtkgkdppjopilmaaWApart
import Derived.Test.YtkgkdppjopilmaaWArr
import Derived.Test.YtkgkdppjopilmaaWZeros
import Derived.Test.YtkgkdppjopilmaaWFoot
import Derived.Test.YtkgkdppjopilmaaWKept
import Derived.Test.YtkgkdppjopilmaaWShare
import Derived.Test.YtkgkdppjopilmaaWN
import Derived.Test.YtkgkdppjopilmaaWFootNe
import Derived.Test.YtkgkdppjopilmaaWAt
import Derived.Test.YtkgkdppjopilmaaWEqStruct
import Derived.Test.YtkgkdppjopilmaaWRepsOne
import Derived.Test.YtkgkdppjopilmaaWInv
import Derived.Test.YtkgkdppjopilmaaWInvWords
import Derived.Test.YtkgkdppjopilmaaWGuard
import Derived.Test.YtkgkdppjopilmaaWNEv
import Derived.Test.YtkgkdppjopilmaaWMore
import Derived.Test.YtkgkdppjopilmaaVread
namespace Go.Proofs.Ytkgkdppjopilmaa.Buf
open Go.RowKit Go.Proofs.YtkgkdppjopilmaaW.PrintWords Go.Proofs.YtkgkdppjopilmaaW.PrintLast Go.Proofs.YtkgkdppjopilmaaW.PrintMore Go.Proofs.Ytkgkdppjopilmaa.Leb

abbrev u8s := Kd.int .u8

theorem rd_nat (l : List Int) (i : Nat) (h : i < l.length) : rd l (i : Int) = l[i] := by
  unfold rd; simp [List.getD_eq_getElem?_getD, List.getElem?_eq_getElem h]

/-- The reader stands n bytes further on. -/
def After (w : World) (g : Nat) (off : Int) (l : List Int) (n : Nat) (w' : World) : Prop :=
  ∃ A cap, Kd.C u8s w A (l.drop n).length (l.drop n) ∧ (l.drop n).length ≤ cap ∧ w' = (w.setCell ⟨g, 4, none⟩ (.int .u32 ((off + n) % 4294967296))).setCell ⟨g, 5, none⟩ (.slice A (l.drop n).length cap)

theorem after_mk {w : World} {g : Nat} {off : Int} {l : List Int} {n : Nat} {A : Option Addr} {cap : Nat} (HR : Kd.C u8s w A l.length l) (hcap : l.length ≤ cap) (hn : n ≤ l.length) :
    After w g off l n ((w.setCell ⟨g, 4, none⟩ (.int .u32 ((off + n) % 4294967296))).setCell ⟨g, 5, none⟩ (.slice (if cap = n then A else A.map (·.add n)) (l.length - n) (cap - n))) := by
  refine ⟨if cap = n then A else A.map (·.add n), cap - n, ?_, ?_, ?_⟩
  · have := Kd.C_drop (c := cap) (m := n) HR hn hcap
    simpa [Kd.int, Kd.scalar] using this
  · rw [List.length_drop]; omega
  · rw [List.length_drop]

/-- What varint leaves. -/
def VPost (w : World) (g : Nat) (off : Int) (l : List Int) : Option (Nat × Nat) → Ending → World → Prop
  | none, e, w' => e = .returned (.tuple #[.int .u64 0, .int .u64 0]) ∧ w' = w
  | some (v, n), e, w' => e = .returned (.tuple #[.int .u64 ((v % 18446744073709551616 : Nat) : Int), .int .u64 ((7 * n : Nat) : Int)]) ∧ After w g off l n w'

/-- No number is told: nothing changes. -/
theorem varint_calls (g : Nat) (A : Option Addr) (cap : Nat) (l : List Int) (off : Int) (w : World) (hl : l.length < 2147483648) (hb : Bytes l)
    (q5 : w.cell? ⟨g, 5, none⟩ = some (.slice A l.length cap)) (q4 : w.cell? ⟨g, 4, none⟩ = some (.int .u32 off)) (f5 : w.frozen? ⟨g, 5, none⟩ = false) (f4 : w.frozen? ⟨g, 4, none⟩ = false)
    (HR : Kd.C u8s w A l.length l) (hcap : l.length ≤ cap) :
    Calls Try.prog 44 #[.pointer (some ⟨g, 0, none⟩)] w fun e w' => VPost w g off l (uread l) e w' := by
  have HR0 := Aside0.mk HR
  have HL0 := Aside0.mk hl
  have HCAP := Aside0.mk hcap
  clear HR hl hcap
  have n0 : g < w.heap.size := World.block_lt_of_cell? w _ q5
  go_enter Try.func44, Try.ntmps44
  go_wp2
  go_loopg [2, 3, 4] l.length (fun kq v2 v3 v4 w' => ∃ i : Nat, v4 = .int .i64 (i : Int) ∧ v2 = .int .u64 ((low l i % 18446744073709551616 : Nat) : Int) ∧ v3 = .int .u64 ((7 * i : Nat) : Int) ∧ i ≤ l.length ∧ kq = l.length - i ∧ (∀ j (hj : j < l.length), j < i → 128 ≤ l[j]) ∧ w' = w)
  case atStart => exact ⟨0, rfl, by simp [low], rfl, by omega, by omega, fun _ _ h => by omega, rfl⟩
  case round =>
    obtain ⟨i, rfl, rfl, rfl, hi, hk, hj, rfl⟩ := hrel
    by_cases c : i < l.length
    · have c0 : decide ((i : Int) < (l.length : Int)) = true := by simpa using c
      have p1 : (0 ≤ (i : Int)) := by omega
      have q1 : ((i : Int) < (l.length : Int)) := by omega
      obtain ⟨ad, e1, hx⟩ := Kd.at_int HR0.out (i : Int) p1 q1
      cases e1
      rw [Int.toNat_natCast] at hx
      obtain ⟨n, hn⟩ : ∃ n : Nat, rd l (i : Int) = (n : Int) := ⟨l[i].toNat, by rw [rd_nat l i c]; have := (hb l[i] (List.getElem_mem c)).1; omega⟩
      have hn' : l[i] = (n : Int) := by rw [← hn, rd_nat l i c]
      have hn2 : n < 256 := by have := (hb l[i] (List.getElem_mem c)).2; omega
      rw [hn] at hx
      obtain ⟨M, S, T, C, C', h127, hMw, hS0, hT1, hT2, hO, hS, hC, hS', hC', hS7⟩ : ∃ M S T C C' : Int, Go.bits .and .u8 (n : Int) 127 = M ∧ IntKind.u64.wrap M = M ∧ (0 ≤ S) = True ∧ IntKind.u64.wrap (M * 2 ^ min S.toNat 64) = T ∧ (S ≤ 64 → IntKind.u64.wrap (M * 2 ^ S.toNat) = T) ∧ Go.bits .or .u64 C T = C' ∧ ((7 * i : Nat) : Int) = S ∧ ((low l i % 18446744073709551616 : Nat) : Int) = C ∧ Aside0 (S + 7 = ((7 * (i + 1) : Nat) : Int)) ∧ Aside0 (C' = ((low l (i + 1) % 18446744073709551616 : Nat) : Int)) ∧ IntKind.u64.wrap (S + 7) = S + 7 := by
        have e128 : (2 : Nat) ^ (7 * i) = 128 ^ i := by rw [Nat.pow_mul]
        have hl1 := HL0.out
        have hT1 : IntKind.u64.wrap (((n % 128 : Nat) : Int) * 2 ^ min ((7 * i : Nat) : Int).toNat 64) = (((n % 128) * 2 ^ (7 * i) % 18446744073709551616 : Nat) : Int) := by rw [Int.toNat_natCast]; exact shl_u64 _ _
        refine ⟨_, _, _, _, _, and127_u8 n hn2, ?_, eq_true (by omega), hT1, fun h => ?_, ?_, rfl, rfl, ⟨by omega⟩, ⟨rfl⟩, ?_⟩
        · simp [IntKind.wrap, IntKind.signed, IntKind.bits]; omega
        · rw [← hT1, Nat.min_eq_left (by omega)]
        · rw [or_shl_u64 _ _ _ (by rw [e128]; exact low_lt l i), low_step l i c, hn', e128]
          congr 3
        · simp [IntKind.wrap, IntKind.signed, IntKind.bits]; omega
      rw [hS, hC]
      clear hS hC
      have p4 : IntKind.i64.wrap ((i : Int) + 1) = ((i + 1 : Nat) : Int) := by
        have := HL0.out
        simp [IntKind.wrap, IntKind.signed, IntKind.bits]; omega
      replace p1 := eq_true p1
      replace q1 := eq_true q1
      have HB := Aside0.mk hb
      have HJ := Aside0.mk hj
      have HN := Aside0.mk hn'
      have HK := Aside0.mk hk
      clear hn hn' hj hb hk
      by_cases c2 : n < 128
      · have h128 : Go.bits .and .u8 (n : Int) 128 = 0 := by rw [and128_u8 n hn2]; omega
        have C2 := Aside0.mk c2
        have HN2 := Aside0.mk hn2
        clear c2 hn2
        have HU : Aside0 (uread l = some (low l (i + 1), i + 1)) := ⟨uread_at l i c HB.out (fun j hj' => HJ.out j (by omega) hj') (by rw [HN.out]; have := C2.out; omega)⟩
        have HS := Aside0.mk (after_mk (g := g) (off := off) (n := i + 1) HR0.out HCAP.out c)
        go_wp2
        all_goals (go_ret2; rw [HU.out]; refine ⟨?_, ?_⟩)
        all_goals first | (rw [← hC'.out, ← hS'.out]; rfl) | (have h1_ := HS.out; simpa [*, Addr.add] using h1_)
      · have h128 : Go.bits .and .u8 (n : Int) 128 = 128 := by rw [and128_u8 n hn2]; omega
        have C2 := Aside0.mk c2
        have HN2 := Aside0.mk hn2
        clear c2 hn2
        go_wp2
        go_roundg (l.length - (i + 1))
        case measure => have := HK.out; omega
        case rel =>
          refine ⟨i + 1, rfl, by rw [← hC'.out], by rw [← hS'.out], by omega, rfl, fun j hj' hji => ?_, rfl⟩
          by_cases hc : j = i
          · subst hc
            rw [HN.out]
            have := C2.out
            omega
          · exact HJ.out j hj' (by omega)
    · have c0 : decide ((i : Int) < (l.length : Int)) = false := by simpa using c
      have HU : Aside0 (uread l = none) := ⟨uread_none l (fun j hj' => hj j hj' (by omega))⟩
      go_wp2
      go_ret2
      rw [HU.out]
      exact ⟨rfl, rfl⟩
end Go.Proofs.Ytkgkdppjopilmaa.Buf
