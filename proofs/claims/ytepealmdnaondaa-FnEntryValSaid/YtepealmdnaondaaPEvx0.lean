-- Printed by a program of this session (mkprint.py over the kit's print.py)
import Derived.Test.YtepealmdnaondaaProg
import Derived.Below
import Derived.Deep.Draws
import Derived.Deep.AppendLies
import Derived.Maps.AppendAt
import Derived.OwnWalk
import Derived.Laws.BytesArg
import Derived.Laws.MakeOwn
import Derived.Laws.OwnMore
import Derived.Deep.OwnRows
import Derived.Tactics
import Derived.Lib.ConvBytes
import Derived.Laws.Slices
import Derived.WalkKit
import Derived.KernelRfl
import Derived.RowKit3
import Derived.Deep.LoopGhost
import Derived.Deep.QuietTactic
import Derived.BigQuiet
import Derived.WideLaws
import Derived.Deep.DeepCutAuto
import Derived.Deep.CutBlock
import Derived.Deep.RegionHeld3
import Derived.Laws.Rows
import Derived.Lib.AppendStr
import Derived.ArgAppend
import Derived.Laws.IdiomCopy
import Derived.OrdersHeld
import Derived.Laws.BitsLemmas
import Derived.RowKit
import Derived.Test.YtepealmdnaondaaWWords
import Derived.Test.YtepealmdnaondaaWLast
import Derived.Test.YtepealmdnaondaaWTab
import Derived.Test.YtepealmdnaondaaWFour
import Derived.Test.YtepealmdnaondaaWQPut
import Derived.Test.YtepealmdnaondaaWApart
import Derived.Test.YtepealmdnaondaaWArr
import Derived.Test.YtepealmdnaondaaWZeros
import Derived.Test.YtepealmdnaondaaWFoot
import Derived.Test.YtepealmdnaondaaWKept
import Derived.Test.YtepealmdnaondaaWShare
import Derived.Test.YtepealmdnaondaaWN
import Derived.Test.YtepealmdnaondaaWFootNe
import Derived.Test.YtepealmdnaondaaWAt
import Derived.Test.YtepealmdnaondaaWEqStruct
import Derived.Test.YtepealmdnaondaaWRepsOne
import Derived.Test.YtepealmdnaondaaWInv
import Derived.Test.YtepealmdnaondaaWInvWords
import Derived.Test.YtepealmdnaondaaWGuard
import Derived.Test.YtepealmdnaondaaWNEv
import Derived.Test.YtepealmdnaondaaWMore
import Derived.Test.YtepealmdnaondaaOpens
namespace Go.Proofs.Ytepealmdnaondaa.PEv
open Go.RowKit Go.Proofs.YtepealmdnaondaaW.PrintWords Go.Proofs.YtepealmdnaondaaW.PrintLast Go.Proofs.YtepealmdnaondaaW.PrintMore
attribute [local go_sem] max2_int min2_int max_two min_two max_three min_three max_four min_four   -- for this text's walks alone
set_option linter.unusedVariables false
set_option linter.unusedSimpArgs false



def errW : Option Int → Value
  | none => .nilIface
  | some c => .iface 0 (.int .i64 c)
theorem errW_none : errW none = .nilIface := rfl
theorem errW_some (c : Int) : errW (some c) = .iface 0 (.int .i64 c) := rfl

theorem info5 : (Try.prog.info? 5).map (fun i => (i.zero, i.size, i.bytes)) = some (some (.int .u8 0), 1, 1) := by kernel_rfl
theorem info45 : (Try.prog.info? 45).map (fun i => (i.zero, i.size, i.bytes)) = some (some (.agg #[(.int .i64 0), (.int .i64 0), (.int .i64 0), (.int .u64 0), (.string ⟨#[]⟩), (.slice none 0 0)]), 6, 72) := by kernel_rfl
-- the values' own types
def rd_L4 (xs : List (List Int)) (i : Int) : (List Int) := xs.getD i.toNat ([] : List Int)
theorem at_L4 {w : World} {A : Option Addr} {n : Nat} {xs : List (List Int)} (h : Kd.C (Kd.slice 5 (Kd.int .u8)) w A n xs) (i : Int) (h0 : 0 ≤ i) (h1 : i < n) : ∃ ad A0 c0, A = some ad ∧ w.cell? (ad.add i.toNat) = some (.slice A0 (rd_L4 xs i).length c0) ∧ (rd_L4 xs i).length ≤ c0 ∧ (Kd.int .u8).C w A0 (rd_L4 xs i).length (rd_L4 xs i) := by
  obtain ⟨ad, c, e, _, hK, hc0⟩ := Kd.C_get h ([] : List Int) i h0 h1
  have hc : ∀ j u, c[j]? = some u → w.cell? (ad.add (i.toNat * 1 + j)) = some u := hc0
  obtain ⟨A0, c0, rfl, l0, g0⟩ := hK
  exact ⟨ad, A0, c0, e, by have hq := hc 0 _ rfl; rwa [Nat.mul_one, Nat.add_zero] at hq, l0, g0⟩

/-! #### struct type 43 -/
structure S43 where
  f0 : Int
  f1 : Int
  f2 : Int
  f3 : ByteArray
  f4 : (List Int)
def z43 : S43 := ⟨(0 : Int), (0 : Int), (0 : Int), (⟨#[]⟩ : ByteArray), ([] : List Int)⟩
def k43 : Kd S43 := Kd.iso (Kd.pair (Kd.int .i64) (Kd.pair (Kd.int .i64) (Kd.pair (Kd.int .u64) (Kd.pair Kd.string (Kd.slice 5 (Kd.int .u8)))))) (fun x : S43 => (x.f0, x.f1, x.f2, x.f3, x.f4))
theorem k43_open {w : World} {x : S43} {cs : List Value} (h : k43.K w x cs) : ∃ A4 c4, cs = [.int .i64 x.f0, .int .i64 x.f1, .int .u64 x.f2, .string x.f3, .slice A4 x.f4.length c4] ∧ x.f4.length ≤ c4 ∧ (Kd.int .u8).C w A4 x.f4.length x.f4 := by
  obtain ⟨_, _, rfl, rfl, ⟨_, _, rfl, rfl, ⟨_, _, rfl, rfl, ⟨_, _, rfl, rfl, ⟨A4, c4, rfl, l4, g4⟩⟩⟩⟩⟩ := h
  exact ⟨A4, c4, rfl, l4, g4⟩
theorem k43_openM {w : World} {base : Nat} {ok : Nat → Prop} {x : S43} {cs : List Value} (h : k43.M w base ok x cs) : ∃ v4, cs = [.int .i64 x.f0, .int .i64 x.f1, .int .u64 x.f2, .string x.f3, v4] ∧ (Kd.int .u8).R 5 w base ok v4 x.f4 := by
  obtain ⟨_, _, rfl, rfl, ⟨_, _, rfl, rfl, ⟨_, _, rfl, rfl, ⟨_, _, rfl, rfl, ⟨v4, rfl, g4⟩⟩⟩⟩⟩ := h
  exact ⟨v4, rfl, g4⟩
theorem k43_mk (w : World) (x : S43) {A4 : Option Addr} {c4 : Nat} (l4 : x.f4.length ≤ c4) (g4 : (Kd.int .u8).C w A4 x.f4.length x.f4) : k43.K w x [.int .i64 x.f0, .int .i64 x.f1, .int .u64 x.f2, .string x.f3, .slice A4 x.f4.length c4] := ⟨[.int .i64 x.f0], [.int .i64 x.f1, .int .u64 x.f2, .string x.f3, .slice A4 x.f4.length c4], rfl, rfl, ⟨[.int .i64 x.f1], [.int .u64 x.f2, .string x.f3, .slice A4 x.f4.length c4], rfl, rfl, ⟨[.int .u64 x.f2], [.string x.f3, .slice A4 x.f4.length c4], rfl, rfl, ⟨[.string x.f3], [.slice A4 x.f4.length c4], rfl, rfl, ⟨A4, c4, rfl, l4, g4⟩⟩⟩⟩⟩
theorem k43_mkM (w : World) (base : Nat) (ok : Nat → Prop) (x : S43) {v4 : Value} (g4 : (Kd.int .u8).R 5 w base ok v4 x.f4) : k43.M w base ok x [.int .i64 x.f0, .int .i64 x.f1, .int .u64 x.f2, .string x.f3, v4] := ⟨[.int .i64 x.f0], [.int .i64 x.f1, .int .u64 x.f2, .string x.f3, v4], rfl, rfl, ⟨[.int .i64 x.f1], [.int .u64 x.f2, .string x.f3, v4], rfl, rfl, ⟨[.int .u64 x.f2], [.string x.f3, v4], rfl, rfl, ⟨[.string x.f3], [v4], rfl, rfl, ⟨v4, rfl, g4⟩⟩⟩⟩⟩
def rd_T43 (xs : List S43) (i : Int) : S43 := xs.getD i.toNat z43
theorem at_T43 {w : World} {A : Option Addr} {n : Nat} {xs : List S43} (h : Kd.C k43 w A n xs) (i : Int) (h0 : 0 ≤ i) (h1 : i < n) : ∃ ad A4 c4, A = some ad ∧ w.cell? (ad.add (i.toNat * 5)) = some (.int .i64 (rd_T43 xs i).f0) ∧ w.cell? ⟨(ad.add (i.toNat * 5)).block, (ad.add (i.toNat * 5)).off + 1, none⟩ = some (.int .i64 (rd_T43 xs i).f1) ∧ w.cell? ⟨(ad.add (i.toNat * 5)).block, (ad.add (i.toNat * 5)).off + 2, none⟩ = some (.int .u64 (rd_T43 xs i).f2) ∧ w.cell? ⟨(ad.add (i.toNat * 5)).block, (ad.add (i.toNat * 5)).off + 3, none⟩ = some (.string (rd_T43 xs i).f3) ∧ w.cell? ⟨(ad.add (i.toNat * 5)).block, (ad.add (i.toNat * 5)).off + 4, none⟩ = some (.slice A4 (rd_T43 xs i).f4.length c4) ∧ (rd_T43 xs i).f4.length ≤ c4 ∧ (Kd.int .u8).C w A4 (rd_T43 xs i).f4.length (rd_T43 xs i).f4 := by
  obtain ⟨ad, c, e, _, hK, hc0⟩ := Kd.C_get h z43 i h0 h1
  have hc : ∀ j u, c[j]? = some u → w.cell? (ad.add (i.toNat * 5 + j)) = some u := hc0
  obtain ⟨A4, c4, rfl, l4, g4⟩ := k43_open hK
  exact ⟨ad, A4, c4, e, hc 0 _ rfl, by rw [← add_field _ _ 1 (by omega)]; exact hc 1 _ rfl, by rw [← add_field _ _ 2 (by omega)]; exact hc 2 _ rfl, by rw [← add_field _ _ 3 (by omega)]; exact hc 3 _ rfl, by rw [← add_field _ _ 4 (by omega)]; exact hc 4 _ rfl, l4, g4⟩

/-! #### struct type 45 -/
structure S45 where
  f0 : Int
  f1 : S43
def z45 : S45 := ⟨(0 : Int), z43⟩
def k45 : Kd S45 := Kd.iso (Kd.pair (Kd.int .i64) k43) (fun x : S45 => (x.f0, x.f1))
theorem k45_open {w : World} {x : S45} {cs : List Value} (h : k45.K w x cs) : ∃ A5 c5, cs = [.int .i64 x.f0, .int .i64 x.f1.f0, .int .i64 x.f1.f1, .int .u64 x.f1.f2, .string x.f1.f3, .slice A5 x.f1.f4.length c5] ∧ x.f1.f4.length ≤ c5 ∧ (Kd.int .u8).C w A5 x.f1.f4.length x.f1.f4 := by
  obtain ⟨_, _, rfl, rfl, s1⟩ := h
  obtain ⟨A5, c5, rfl, l5, g5⟩ := k43_open s1
  exact ⟨A5, c5, rfl, l5, g5⟩
theorem k45_openM {w : World} {base : Nat} {ok : Nat → Prop} {x : S45} {cs : List Value} (h : k45.M w base ok x cs) : ∃ v5, cs = [.int .i64 x.f0, .int .i64 x.f1.f0, .int .i64 x.f1.f1, .int .u64 x.f1.f2, .string x.f1.f3, v5] ∧ (Kd.int .u8).R 5 w base ok v5 x.f1.f4 := by
  obtain ⟨_, _, rfl, rfl, s1⟩ := h
  obtain ⟨v5, rfl, g5⟩ := k43_openM s1
  exact ⟨v5, rfl, g5⟩
theorem k45_mk (w : World) (x : S45) {A5 : Option Addr} {c5 : Nat} (l5 : x.f1.f4.length ≤ c5) (g5 : (Kd.int .u8).C w A5 x.f1.f4.length x.f1.f4) : k45.K w x [.int .i64 x.f0, .int .i64 x.f1.f0, .int .i64 x.f1.f1, .int .u64 x.f1.f2, .string x.f1.f3, .slice A5 x.f1.f4.length c5] := ⟨[.int .i64 x.f0], [.int .i64 x.f1.f0, .int .i64 x.f1.f1, .int .u64 x.f1.f2, .string x.f1.f3, .slice A5 x.f1.f4.length c5], rfl, rfl, (k43_mk w x.f1 l5 g5)⟩
theorem k45_mkM (w : World) (base : Nat) (ok : Nat → Prop) (x : S45) {v5 : Value} (g5 : (Kd.int .u8).R 5 w base ok v5 x.f1.f4) : k45.M w base ok x [.int .i64 x.f0, .int .i64 x.f1.f0, .int .i64 x.f1.f1, .int .u64 x.f1.f2, .string x.f1.f3, v5] := ⟨[.int .i64 x.f0], [.int .i64 x.f1.f0, .int .i64 x.f1.f1, .int .u64 x.f1.f2, .string x.f1.f3, v5], rfl, rfl, (k43_mkM w base ok x.f1 g5)⟩
def rd_T45 (xs : List S45) (i : Int) : S45 := xs.getD i.toNat z45
theorem at_T45 {w : World} {A : Option Addr} {n : Nat} {xs : List S45} (h : Kd.C k45 w A n xs) (i : Int) (h0 : 0 ≤ i) (h1 : i < n) : ∃ ad A5 c5, A = some ad ∧ w.cell? (ad.add (i.toNat * 6)) = some (.int .i64 (rd_T45 xs i).f0) ∧ w.cell? ⟨(ad.add (i.toNat * 6)).block, (ad.add (i.toNat * 6)).off + 1, none⟩ = some (.int .i64 (rd_T45 xs i).f1.f0) ∧ w.cell? ⟨(ad.add (i.toNat * 6)).block, (ad.add (i.toNat * 6)).off + 2, none⟩ = some (.int .i64 (rd_T45 xs i).f1.f1) ∧ w.cell? ⟨(ad.add (i.toNat * 6)).block, (ad.add (i.toNat * 6)).off + 3, none⟩ = some (.int .u64 (rd_T45 xs i).f1.f2) ∧ w.cell? ⟨(ad.add (i.toNat * 6)).block, (ad.add (i.toNat * 6)).off + 4, none⟩ = some (.string (rd_T45 xs i).f1.f3) ∧ w.cell? ⟨(ad.add (i.toNat * 6)).block, (ad.add (i.toNat * 6)).off + 5, none⟩ = some (.slice A5 (rd_T45 xs i).f1.f4.length c5) ∧ (rd_T45 xs i).f1.f4.length ≤ c5 ∧ (Kd.int .u8).C w A5 (rd_T45 xs i).f1.f4.length (rd_T45 xs i).f1.f4 := by
  obtain ⟨ad, c, e, _, hK, hc0⟩ := Kd.C_get h z45 i h0 h1
  have hc : ∀ j u, c[j]? = some u → w.cell? (ad.add (i.toNat * 6 + j)) = some u := hc0
  obtain ⟨A5, c5, rfl, l5, g5⟩ := k45_open hK
  exact ⟨ad, A5, c5, e, hc 0 _ rfl, by rw [← add_field _ _ 1 (by omega)]; exact hc 1 _ rfl, by rw [← add_field _ _ 2 (by omega)]; exact hc 2 _ rfl, by rw [← add_field _ _ 3 (by omega)]; exact hc 3 _ rfl, by rw [← add_field _ _ 4 (by omega)]; exact hc 4 _ rfl, by rw [← add_field _ _ 5 (by omega)]; exact hc 5 _ rfl, l5, g5⟩

end Go.Proofs.Ytepealmdnaondaa.PEv
