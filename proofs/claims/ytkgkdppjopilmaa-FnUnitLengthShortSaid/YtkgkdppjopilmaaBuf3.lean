/- The contracts of the reader of bytes (package dwarf, type buf), proved by hand: signed numbers, texts. -/
import Derived.Test.YtkgkdppjopilmaaProg
import Derived.Below
import Derived.Deep.Draws
import Derived.Deep.AppendLies
import Derived.Maps.AppendAt
import Derived.OwnWalk
import Derived.Laws.BytesArg
import Derived.Laws.MakeOwn
import Derived.Laws.OwnMore
import Derived.Deep.OwnRows
import Derived.Tactics
import Derived.Lib.ConvBytes
import Derived.Laws.Slices
import Derived.WalkKit
import Derived.KernelRfl
import Derived.RowKit3
import Derived.Deep.LoopGhost
import Derived.Deep.QuietTactic
import Derived.BigQuiet
import Derived.WideLaws
import Derived.Deep.DeepCutAuto
import Derived.Deep.CutBlock
import Derived.Deep.RegionHeld3
import Derived.Laws.Rows
import Derived.Lib.AppendStr
import Derived.ArgAppend
import Derived.Laws.IdiomCopy
import Derived.OrdersHeld
import Derived.Laws.BitsLemmas
import Derived.RowKit
import Derived.Test.YtkgkdppjopilmaaWWords
import Derived.Test.YtkgkdppjopilmaaWLast
import Derived.Test.YtkgkdppjopilmaaWTab
import Derived.Test.YtkgkdppjopilmaaWFour
import Derived.Test.YtkgkdppjopilmaaWQPut
import Derived.Test.YtkgkdppjopilmaaWApart
import Derived.Test.YtkgkdppjopilmaaWArr
import Derived.Test.YtkgkdppjopilmaaWZeros
import Derived.Test.YtkgkdppjopilmaaWFoot
import Derived.Test.YtkgkdppjopilmaaWKept
import Derived.Test.YtkgkdppjopilmaaWShare
import Derived.Test.YtkgkdppjopilmaaWN
import Derived.Test.YtkgkdppjopilmaaWFootNe
import Derived.Test.YtkgkdppjopilmaaWAt
import Derived.Test.YtkgkdppjopilmaaWEqStruct
import Derived.Test.YtkgkdppjopilmaaWRepsOne
import Derived.Test.YtkgkdppjopilmaaWInv
import Derived.Test.YtkgkdppjopilmaaWInvWords
import Derived.Test.YtkgkdppjopilmaaWGuard
import Derived.Test.YtkgkdppjopilmaaWNEv
import Derived.Test.YtkgkdppjopilmaaWMore
import Derived.Test.YtkgkdppjopilmaaBuf2
import Derived.Deep.RegionWith
import Derived.Lib.BytesEntry
import Derived.Laws.Externs
namespace Go.Proofs.Ytkgkdppjopilmaa.Buf
open Go.RowKit Go.Proofs.YtkgkdppjopilmaaW.PrintWords Go.Proofs.YtkgkdppjopilmaaW.PrintLast Go.Proofs.YtkgkdppjopilmaaW.PrintMore Go.Proofs.Ytkgkdppjopilmaa.Leb

/-- The parts of a signed number, as the code comes by them. -/
theorem sval_parts (v n : Nat) (hn : 0 < n) (hv : v < 128 ^ n) (hnn : n < 2147483648) : ∃ S S' X P B : Int, ((7 * n : Nat) : Int) = S ∧ (S == 0) = false ∧ decide (S = 0) = false ∧ IntKind.u64.wrap (S - 1) = S' ∧ (0 ≤ S) = True ∧ (0 ≤ S') = True ∧ IntKind.i64.wrap ((v % 18446744073709551616 : Nat) : Int) = X ∧ IntKind.i64.wrap (1 * 2 ^ min S'.toNat 64) = P ∧ Go.bits .and .i64 X P = B ∧ ((B = 0 ∧ X = sval v n) ∨ ((B != 0) = true ∧ decide (B = 0) = false ∧ ∃ M, IntKind.i64.wrap (-1 * 2 ^ min S.toNat 64) = M ∧ Go.bits .or .i64 X M = sval v n)) := by
  have e128 : (128 : Nat) ^ n = 2 ^ (7 * n) := by rw [Nat.pow_mul]
  have hS' : IntKind.u64.wrap (((7 * n : Nat) : Int) - 1) = ((7 * n - 1 : Nat) : Int) := by simp [IntKind.wrap, IntKind.signed, IntKind.bits]; omega
  refine ⟨_, _, _, _, _, rfl, by simp; omega, by simp; omega, hS', eq_true (by omega), eq_true (by omega), rfl, rfl, rfl, ?_⟩
  by_cases h9 : n ≤ 9
  · have hv63 : v < 9223372036854775808 := by
      have h1 : (2 : Nat) ^ (7 * n) ≤ 2 ^ 63 := Nat.pow_le_pow_right (by decide) (by omega)
      have h2 : (2 : Nat) ^ 63 = 9223372036854775808 := rfl
      omega
    have hX : IntKind.i64.wrap ((v % 18446744073709551616 : Nat) : Int) = (v : Int) := by rw [IntKind.wrap_i64]; omega
    have hP : IntKind.i64.wrap (1 * 2 ^ min ((7 * n - 1 : Nat) : Int).toNat 64) = ((2 ^ (7 * n - 1) : Nat) : Int) := by rw [Int.toNat_natCast]; exact shl_one_i64 _ (by omega)
    rw [hX, hP, and_bit_i64 v _ hv63 (by omega)]
    by_cases hb : v / 2 ^ (7 * n - 1) % 2 = 1
    · right
      have hpos : 0 < 2 ^ (7 * n - 1) := Nat.pow_pos (by decide)
      have hne : ¬ ((1 * 2 ^ (7 * n - 1) : Nat) : Int) = 0 := by rw [Nat.one_mul]; generalize 2 ^ (7 * n - 1) = Q at *; omega
      refine ⟨by rw [hb]; simpa using hne, by rw [hb]; exact decide_eq_false hne, -((2 ^ (7 * n) : Nat) : Int), by rw [Int.toNat_natCast]; exact shl_mone_i64 _ (by omega), ?_⟩
      rw [or_sign_i64 v _ (by rw [← e128]; exact hv) (by omega), sval, if_pos h9, if_pos hb]
    · left
      have hb0 : v / 2 ^ (7 * n - 1) % 2 = 0 := by omega
      refine ⟨by rw [hb0]; simp, by rw [sval, if_pos h9, if_neg hb]⟩
  · left
    have hP : IntKind.i64.wrap (1 * 2 ^ min ((7 * n - 1 : Nat) : Int).toNat 64) = 0 := by rw [Int.toNat_natCast]; exact shl_one_far _ (by omega)
    rw [hP, and_zero_i64]
    refine ⟨rfl, ?_⟩
    rw [sval, if_neg h9, IntKind.wrap_i64, IntKind.wrap_i64]
    omega

/-- What int leaves. -/
def IPost (w : World) (g : Nat) (nm : ByteArray) (off : Int) (l : List Int) : Option (Nat × Nat) → Ending → World → Prop
  | none, e, w' => e = .returned (.int .i64 0) ∧ Erred w g nm off w'
  | some (v, n), e, w' => e = .returned (.int .i64 (sval v n)) ∧ After w g off l n w'

set_option maxHeartbeats 400000 in
theorem int_calls (g : Nat) (A : Option Addr) (cap : Nat) (l : List Int) (off : Int) (nm : ByteArray) (w : World) (hl : l.length < 2147483648) (hb : Bytes l)
    (q3 : w.cell? ⟨g, 3, none⟩ = some (.string nm)) (q6 : w.cell? ⟨g, 6, none⟩ = some .nilIface) (f6 : w.frozen? ⟨g, 6, none⟩ = false)
    (q5 : w.cell? ⟨g, 5, none⟩ = some (.slice A l.length cap)) (q4 : w.cell? ⟨g, 4, none⟩ = some (.int .u32 off)) (f5 : w.frozen? ⟨g, 5, none⟩ = false) (f4 : w.frozen? ⟨g, 4, none⟩ = false)
    (HR : Kd.C u8s w A l.length l) (hcap : l.length ≤ cap) :
    Calls Try.prog 39 #[.pointer (some ⟨g, 0, none⟩)] w fun e w' => IPost w g nm off l (uread l) e w' := by
  have HV := Aside0.mk (varint_calls g A cap l off w hl hb q5 q4 f5 f4 HR hcap)
  have HL0 := Aside0.mk hl
  have HB0 := Aside0.mk hb
  have n0 : g < w.heap.size := World.block_lt_of_cell? w _ q5
  have HE := Aside0.mk (error_calls g _ nm (ByteArray.mk #[117, 110, 100, 101, 114, 102, 108, 111, 119]) off w q3 q4 q5 q6 f5 f6)
  clear HR hl hcap hb
  go_enter Try.func39, Try.ntmps39
  go_wp2_with fail
  refine HV.out.mono ?_
  cases hu : uread l with
  | none =>
    have HU := Aside0.mk hu
    have ha := and_zero_i64 0
    have hu1 : IntKind.u64.wrap (-1) = 18446744073709551615 := by decide
    have hm : wrap64 18446744073709551616 = 0 := (i64_w _).symm.trans (by decide)
    clear hu
    rintro e w1 ⟨rfl, rfl⟩
    go_wp2_with fail
    refine HE.out.mono ?_
    rintro e w2 ⟨rfl, he⟩
    have HER := Aside0.mk he
    clear he
    go_wp2_with fail
    go_ret
    rw [HU.out]
    exact ⟨rfl, HER.out⟩
  | some p =>
    obtain ⟨v, n⟩ := p
    have hn : 0 < n := (uread_count hu).1
    have hv : v < 128 ^ n := uread_lt HB0.out hu
    have HU := Aside0.mk hu
    clear hu HV
    rintro e w1 ⟨rfl, he⟩
    have HER := Aside0.mk he
    clear he
    obtain ⟨S, S', X, P, B, hS, c1, c2, hS', p1, p2, hX, hP, hB, hcase⟩ := sval_parts v n hn hv (by have := (uread_count HU.out).2; have := HL0.out; omega)
    obtain ⟨V, hV⟩ : ∃ V : Int, ((v % 18446744073709551616 : Nat) : Int) = V := ⟨_, rfl⟩
    rw [hV] at hX
    rw [hS, hV]
    clear hS hV hv hn
    have hP1 : wrap64 (2 ^ min S'.toNat 64) = P := by rw [← hP, Int.one_mul, i64_w]
    rcases hcase with ⟨hB0, hsv⟩ | ⟨hB0, hB1, M, hM, hsv⟩
    · subst hB0
      have HSV := Aside0.mk hsv
      clear hsv
      go_wp2_with fail
      go_ret
      rw [HU.out]
      exact ⟨by rw [← HSV.out]; rfl, HER.out⟩
    · obtain ⟨R, hR⟩ : ∃ R : Int, sval v n = R := ⟨_, rfl⟩
      rw [hR] at hsv
      have HSV := Aside0.mk hR
      have hM1 : wrap64 (-1 * 2 ^ min S.toNat 64) = M := by rw [← hM, i64_w]
      have hM2 : wrap64 (-2 ^ min S.toNat 64) = M := by rw [← hM1, Int.neg_mul, Int.one_mul]
      clear hR
      go_wp2_with fail
      go_ret
      rw [HU.out]
      exact ⟨by rw [HSV.out]; rfl, HER.out⟩

theorem Signed_calls (A : Option Addr) (cap : Nat) (l : List Int) (w : World) (hl : l.length < 2147483648) (hb : Bytes l) (HR : Kd.C u8s w A l.length l) (hcap : l.length ≤ cap) :
    Calls Try.prog 33 #[.slice A l.length cap] w fun e w' => e = .returned (.tuple #[.int .i64 (signedOf l).1, .int .i64 (signedOf l).2.1, .bool (signedOf l).2.2]) ∧ Below w.heap.size w w' := by
  have HR0 := Aside0.mk HR
  have HL0 := Aside0.mk hl
  have HB := Aside0.mk hb
  have HCAP := Aside0.mk hcap
  clear HR hl hcap hb
  go_enter Try.func33, Try.ntmps33
  go_wp2_with fail
  refine (bare_calls A cap l.length false w).mono ?_
  rintro e w1 ⟨gd, rfl, hb1⟩
  have HB1 := Aside0.mk hb1
  clear hb1
  go_wp2_with fail
  refine (int_calls w1.heap.size A cap l 0 (ByteArray.mk #[105, 110, 102, 111]) _ HL0.out HB.out ?_ ?_ ?_ ?_ ?_ ?_ ?_ ?_ HCAP.out).mono ?_
  · exact (blk_cell (heap_alloc_new _ _) 3).trans rfl
  · exact (blk_cell (heap_alloc_new _ _) 6).trans rfl
  · exact blk_frozen (heap_alloc_new _ _) 6
  · exact (blk_cell (heap_alloc_new _ _) 5).trans rfl
  · exact (blk_cell (heap_alloc_new _ _) 4).trans rfl
  · exact blk_frozen (heap_alloc_new _ _) 5
  · exact blk_frozen (heap_alloc_new _ _) 4
  · exact Kd.C_below HR0.out (below_alloc HB1.out _)
  have hbk := heap_alloc_new w1 (.cells #[.pointer (some ⟨gd, 0, none⟩), .bool false, .iface 82 (.agg #[]), .string (ByteArray.mk #[105, 110, 102, 111]), .int .u32 0, .slice A l.length cap, .nilIface] 69)
  cases hu : uread l with
  | none =>
    rintro e w2 ⟨rfl, he⟩
    obtain ⟨q4, ⟨s, q6⟩, hB2, n0⟩ := erred_cells (base := w.heap.size) he hbk (Nat.le_refl 7) (by have := HB1.out.size; omega)
    replace q4 := q4.trans (show _ = some (.int .u32 0) from rfl)
    have HB2 := Aside0.mk ((below_alloc HB1.out _).trans hB2)
    have HU : Aside0 (signedOf l = (0, 0, false)) := ⟨by unfold signedOf; rw [hu]⟩
    clear he hB2 hu hbk
    go_wp2_with fail
    go_quiet (fail)
    go_wp2
    go_ret3
    rw [HU.out]
    exact ⟨rfl, pw_below_drewN HB2.out _⟩
  | some p =>
    obtain ⟨v, n⟩ := p
    rintro e w2 ⟨rfl, he⟩
    have hn := (uread_count hu).2
    obtain ⟨q4, q6, hB2, n0⟩ := after_cells (base := w.heap.size) he hbk (Nat.le_refl 7) (by have := HB1.out.size; omega)
    replace q6 := q6.trans (show _ = some .nilIface from rfl)
    have HB2 := Aside0.mk ((below_alloc HB1.out _).trans hB2)
    obtain ⟨O, hO⟩ : ∃ O : Int, ((0 : Int) + n) % 4294967296 = O := ⟨_, rfl⟩
    rw [hO] at q4
    obtain ⟨V, hV⟩ : ∃ V : Int, sval v n = V := ⟨_, rfl⟩
    rw [hV]
    have HU : Aside0 (signedOf l = (V, O, true)) := ⟨by unfold signedOf; rw [hu]; simp [← hV, ← hO]; have := HL0.out; omega⟩
    have hO1 : IntKind.i64.wrap O = O := by rw [← hO]; simp [IntKind.wrap, IntKind.signed, IntKind.bits]; have := HL0.out; omega
    clear he hB2 hu hbk hV hO
    go_wp2_with fail
    go_quiet (fail)
    go_wp2
    go_ret3
    rw [HU.out]
    exact ⟨rfl, pw_below_drewN HB2.out _⟩

theorem run_indexByte_any {P : Program} (w : World) (a : Addr) (n c : Nat) (xs : List Int) (cv : Int) (hx : xs.length = n) (hc : ∀ i, i < n → w.cell? (a.add i) = some (.int .u8 (xs.getD i 0))) :
    (Extern.BytealgIndexByte.indexByte #[.slice (some a) n c, .int .u8 cv]).run P w = .ok (.int .i64 (Lib.indexByte (Lib.bytesOf xs) cv.toNat.toUInt8)) w := by
  have hl := Lib.run_loadBytesX (P := P) w xs a .empty (fun j x hj => by
    obtain ⟨hjl, he⟩ := List.getElem?_eq_some_iff.1 hj
    rw [hc j (by omega), List.getD_eq_getElem?_getD, hj]
    rfl)
  rw [hx] at hl
  have hs := Lib.run_indexByteString (P := P) ⟨(Lib.bytesOf xs).toArray⟩ cv w
  have he : (⟨ByteArray.empty.data ++ (Lib.bytesOf xs).toArray⟩ : ByteArray) = ⟨(Lib.bytesOf xs).toArray⟩ := by
    apply ByteArray.ext
    show (#[] : Array UInt8) ++ (Lib.bytesOf xs).toArray = (Lib.bytesOf xs).toArray
    simp
  rw [he] at hl
  change Sem.run P (do
    let b ← Extern.Bytes.bytesOf (.slice (some a) n c)
    let c ← Extern.Bytes.asByte (.int .u8 cv)
    match (List.range b.size).find? fun i => b[i]! == c with
    | some i => pure (goInt i)
    | none => pure (goInt (-1))) w = _
  change Sem.run P (do
    let b ← Extern.Bytes.bytesOf (.string ⟨(Lib.bytesOf xs).toArray⟩)
    let c ← Extern.Bytes.asByte (.int .u8 cv)
    match (List.range b.size).find? fun i => b[i]! == c with
    | some i => pure (goInt i)
    | none => pure (goInt (-1))) w = _ at hs
  simp only [Extern.Bytes.bytesOf, Sem.run_bind, Sem.run_pure, hl, Result.andThen] at hs ⊢
  exact hs

/-- Where the first zero stands. -/
def zeroAt : List Int → Option Nat
  | [] => none
  | b :: r => if b = 0 then some 0 else (zeroAt r).map (· + 1)
theorem indexByte_zero : ∀ (l : List Int), Bytes l → Lib.indexByte (Lib.bytesOf l) 0 = match zeroAt l with | none => -1 | some i => (i : Int)
  | [], _ => rfl
  | b :: r, hb => by
    have ih := indexByte_zero r (fun x hx => hb x (by simp [hx]))
    have hb0 := hb b (by simp)
    show Lib.indexByte (UInt8.ofNat b.toNat :: Lib.bytesOf r) 0 = _
    rw [Lib.indexByte, zeroAt]
    have hz : (UInt8.ofNat b.toNat == 0) = decide (b = 0) := by
      have : (UInt8.ofNat b.toNat = 0) ↔ b = 0 := by
        rw [← UInt8.toNat_inj, UInt8.toNat_ofNat']
        simp
        omega
      by_cases h : b = 0
      · simp [h]
      · rw [decide_eq_false h]
        exact beq_eq_false_iff_ne.2 (fun e => h (this.1 e))
    rw [hz]
    by_cases h : b = 0
    · simp [h]
    · rw [decide_eq_false h, if_neg h, ih]
      cases zeroAt r with
      | none => rfl
      | some i => simp
theorem zeroAt_lt : ∀ {l : List Int} {i : Nat}, zeroAt l = some i → i < l.length
  | [], _, h => by simp [zeroAt] at h
  | b :: r, i, h => by
    rw [zeroAt] at h
    split at h
    · simp at h; subst h; simp
    · cases hr : zeroAt r with
      | none => rw [hr] at h; simp at h
      | some j => rw [hr] at h; have := zeroAt_lt hr; simp at h; simp; omega

theorem index_calls (A : Option Addr) (cap : Nat) (l : List Int) (w : World) (hb : Bytes l) (HR : Kd.C u8s w A l.length l) :
    Calls Try.prog 42 #[.slice A l.length cap, .int .u8 0] w fun e w' => e = .returned (.int .i64 (match zeroAt l with | none => -1 | some i => (i : Int))) ∧ w' = w := by
  rw [← indexByte_zero l hb]
  have hrun : (Extern.BytealgIndexByte.indexByte #[.slice A l.length cap, .int .u8 0]).run Try.prog w = .ok (.int .i64 (Lib.indexByte (Lib.bytesOf l) 0)) w := by
    cases A with
    | none =>
      have h0 : l = [] := by
        cases l with
        | nil => rfl
        | cons b r => obtain ⟨ad, e, _⟩ := HR.2.2 (by simp); cases e
      subst h0
      exact Lib.run_indexByteNil w _ _ _
    | some a =>
      have hc : ∀ i, i < l.length → w.cell? (a.add i) = some (.int .u8 (l.getD i 0)) := fun i hi => by
        obtain ⟨ad, e1, hx⟩ := Kd.at_int HR (i : Int) (by omega) (by omega)
        cases e1
        rw [Int.toNat_natCast, rd_nat l i hi] at hx
        rw [hx, List.getD_eq_getElem?_getD, List.getElem?_eq_getElem hi]
        rfl
      exact run_indexByte_any w a l.length cap l 0 rfl hc
  clear HR
  go_enter Try.func42, Try.ntmps42
  go_wp2
  rw [run_callFunc_extern Try.func47 (by kernel_rfl) (by kernel_rfl) (by kernel_rfl) (e := Extern.BytealgIndexByte.indexByte) (by kernel_rfl), hrun]
  simp only [Result.andThen]
  rw [Oper.upon_value]
  go_wp2
  go_ret
  exact ⟨rfl, rfl⟩
end Go.Proofs.Ytkgkdppjopilmaa.Buf
