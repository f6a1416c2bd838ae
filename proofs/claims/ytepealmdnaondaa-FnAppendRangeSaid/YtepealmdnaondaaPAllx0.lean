-- Printed by a program of this session (mkprint.py over the kit's print.py)
import Derived.Test.YtepealmdnaondaaProg
import Derived.Below
import Derived.Deep.Draws
import Derived.Deep.AppendLies
import Derived.Maps.AppendAt
import Derived.OwnWalk
import Derived.Laws.BytesArg
import Derived.Laws.MakeOwn
import Derived.Laws.OwnMore
import Derived.Deep.OwnRows
import Derived.Tactics
import Derived.Lib.ConvBytes
import Derived.Laws.Slices
import Derived.WalkKit
import Derived.KernelRfl
import Derived.RowKit3
import Derived.Deep.LoopGhost
import Derived.Deep.QuietTactic
import Derived.BigQuiet
import Derived.WideLaws
import Derived.Deep.DeepCutAuto
import Derived.Deep.CutBlock
import Derived.Deep.RegionHeld3
import Derived.Laws.Rows
import Derived.Lib.AppendStr
import Derived.ArgAppend
import Derived.Laws.IdiomCopy
import Derived.OrdersHeld
import Derived.Laws.BitsLemmas
import Derived.RowKit
import Derived.Test.YtepealmdnaondaaWWords
import Derived.Test.YtepealmdnaondaaWLast
import Derived.Test.YtepealmdnaondaaWTab
import Derived.Test.YtepealmdnaondaaWFour
import Derived.Test.YtepealmdnaondaaWQPut
import Derived.Test.YtepealmdnaondaaWApart
import Derived.Test.YtepealmdnaondaaWArr
import Derived.Test.YtepealmdnaondaaWZeros
import Derived.Test.YtepealmdnaondaaWFoot
import Derived.Test.YtepealmdnaondaaWKept
import Derived.Test.YtepealmdnaondaaWShare
import Derived.Test.YtepealmdnaondaaWN
import Derived.Test.YtepealmdnaondaaWFootNe
import Derived.Test.YtepealmdnaondaaWAt
import Derived.Test.YtepealmdnaondaaWEqStruct
import Derived.Test.YtepealmdnaondaaWRepsOne
import Derived.Test.YtepealmdnaondaaWInv
import Derived.Test.YtepealmdnaondaaWInvWords
import Derived.Test.YtepealmdnaondaaWGuard
import Derived.Test.YtepealmdnaondaaWNEv
import Derived.Test.YtepealmdnaondaaWMore
import Derived.Test.YtepealmdnaondaaOpens
namespace Go.Proofs.Ytepealmdnaondaa.PAll
open Go.RowKit Go.Proofs.YtepealmdnaondaaW.PrintWords Go.Proofs.YtepealmdnaondaaW.PrintLast Go.Proofs.YtepealmdnaondaaW.PrintMore
attribute [local go_sem] max2_int min2_int max_two min_two max_three min_three max_four min_four   -- for this text's walks alone
set_option linter.unusedVariables false
set_option linter.unusedSimpArgs false



def errW : Option Int → Value
  | none => .nilIface
  | some c => .iface 0 (.int .i64 c)
theorem errW_none : errW none = .nilIface := rfl
theorem errW_some (c : Int) : errW (some c) = .iface 0 (.int .i64 c) := rfl

theorem info24 : (Try.prog.info? 24).map (fun i => (i.zero, i.size, i.bytes)) = some (some (.agg #[(.int .i64 0), (.int .i64 0)]), 2, 16) := by kernel_rfl
theorem info56 : (Try.prog.info? 56).map (fun i => (i.zero, i.size, i.bytes)) = some (some (.agg #[(.int .i64 0), (.int .i64 0)]), 2, 16) := by kernel_rfl
-- the values' own types
/-! #### struct type 24 -/
structure S24 where
  f0 : Int
  f1 : Int
def z24 : S24 := ⟨(0 : Int), (0 : Int)⟩
def k24 : Kd S24 := Kd.iso (Kd.pair (Kd.int .i64) (Kd.int .i64)) (fun x : S24 => (x.f0, x.f1))
theorem k24_open {w : World} {x : S24} {cs : List Value} (h : k24.K w x cs) : cs = [.int .i64 x.f0, .int .i64 x.f1] := by
  obtain ⟨_, _, rfl, rfl, rfl⟩ := h
  exact rfl
theorem k24_openM {w : World} {base : Nat} {ok : Nat → Prop} {x : S24} {cs : List Value} (h : k24.M w base ok x cs) : cs = [.int .i64 x.f0, .int .i64 x.f1] := by
  obtain ⟨_, _, rfl, rfl, rfl⟩ := h
  exact rfl
theorem k24_mk (w : World) (x : S24)  : k24.K w x [.int .i64 x.f0, .int .i64 x.f1] := ⟨[.int .i64 x.f0], [.int .i64 x.f1], rfl, rfl, rfl⟩
theorem k24_mkM (w : World) (base : Nat) (ok : Nat → Prop) (x : S24)  : k24.M w base ok x [.int .i64 x.f0, .int .i64 x.f1] := ⟨[.int .i64 x.f0], [.int .i64 x.f1], rfl, rfl, rfl⟩
def rd_T24 (xs : List S24) (i : Int) : S24 := xs.getD i.toNat z24
theorem at_T24 {w : World} {A : Option Addr} {n : Nat} {xs : List S24} (h : Kd.C k24 w A n xs) (i : Int) (h0 : 0 ≤ i) (h1 : i < n) : ∃ ad , A = some ad ∧ w.cell? (ad.add (i.toNat * 2)) = some (.int .i64 (rd_T24 xs i).f0) ∧ w.cell? ⟨(ad.add (i.toNat * 2)).block, (ad.add (i.toNat * 2)).off + 1, none⟩ = some (.int .i64 (rd_T24 xs i).f1) := by
  obtain ⟨ad, c, e, _, hK, hc0⟩ := Kd.C_get h z24 i h0 h1
  have hc : ∀ j u, c[j]? = some u → w.cell? (ad.add (i.toNat * 2 + j)) = some u := hc0
  obtain rfl := k24_open hK
  exact ⟨ad, e, hc 0 _ rfl, by rw [← add_field _ _ 1 (by omega)]; exact hc 1 _ rfl⟩

/-! #### struct type 56 -/
structure S56 where
  f0 : Int
  f1 : Int
def z56 : S56 := ⟨(0 : Int), (0 : Int)⟩
def k56 : Kd S56 := Kd.iso (Kd.pair (Kd.int .i64) (Kd.int .i64)) (fun x : S56 => (x.f0, x.f1))
theorem k56_open {w : World} {x : S56} {cs : List Value} (h : k56.K w x cs) : cs = [.int .i64 x.f0, .int .i64 x.f1] := by
  obtain ⟨_, _, rfl, rfl, rfl⟩ := h
  exact rfl
theorem k56_openM {w : World} {base : Nat} {ok : Nat → Prop} {x : S56} {cs : List Value} (h : k56.M w base ok x cs) : cs = [.int .i64 x.f0, .int .i64 x.f1] := by
  obtain ⟨_, _, rfl, rfl, rfl⟩ := h
  exact rfl
theorem k56_mk (w : World) (x : S56)  : k56.K w x [.int .i64 x.f0, .int .i64 x.f1] := ⟨[.int .i64 x.f0], [.int .i64 x.f1], rfl, rfl, rfl⟩
theorem k56_mkM (w : World) (base : Nat) (ok : Nat → Prop) (x : S56)  : k56.M w base ok x [.int .i64 x.f0, .int .i64 x.f1] := ⟨[.int .i64 x.f0], [.int .i64 x.f1], rfl, rfl, rfl⟩
def rd_T56 (xs : List S56) (i : Int) : S56 := xs.getD i.toNat z56
theorem at_T56 {w : World} {A : Option Addr} {n : Nat} {xs : List S56} (h : Kd.C k56 w A n xs) (i : Int) (h0 : 0 ≤ i) (h1 : i < n) : ∃ ad , A = some ad ∧ w.cell? (ad.add (i.toNat * 2)) = some (.int .i64 (rd_T56 xs i).f0) ∧ w.cell? ⟨(ad.add (i.toNat * 2)).block, (ad.add (i.toNat * 2)).off + 1, none⟩ = some (.int .i64 (rd_T56 xs i).f1) := by
  obtain ⟨ad, c, e, _, hK, hc0⟩ := Kd.C_get h z56 i h0 h1
  have hc : ∀ j u, c[j]? = some u → w.cell? (ad.add (i.toNat * 2 + j)) = some u := hc0
  obtain rfl := k56_open hK
  exact ⟨ad, e, hc 0 _ rfl, by rw [← add_field _ _ 1 (by omega)]; exact hc 1 _ rfl⟩

open Go.Proofs.Ytepealmdnaondaa.Opens
def wf24 (x : S24) : Prop := (fun n => (Lit.int .i64 n).wf = true) x.f0 ∧ (fun n => (Lit.int .i64 n).wf = true) x.f1
theorem opens24 : Opens Try.prog 24 k24 wf24 := by
  refine ⟨by kernel_rfl, fun H enc w base spare held fuel cs x h => ?_⟩
  obtain ⟨xs, n, _, _, hl, hx, hf⟩ := DataW.trod_struct Try.underlying24 h
  obtain ⟨v0, k0_, w0⟩ := opens_field hf hx 0 _ rfl (o := 0) (t := 3) rfl rfl (opens_int Try.underlying3 (by kernel_rfl))
  obtain ⟨v1, k1_, w1⟩ := opens_field hf hx 1 _ rfl (o := 1) (t := 3) rfl rfl (opens_int Try.underlying3 (by kernel_rfl))
  have hl' : cs.length = 2 := hl.trans (by kernel_rfl)
  refine ⟨⟨v0, v1⟩, ?_, w0, w1⟩
  have z_ := cut_last cs 1 1 hl'
  exact ⟨_, _, cut_more cs 0 1, k0_, by rw [z_]; exact k1_⟩
end Go.Proofs.Ytepealmdnaondaa.PAll
