/- The fields of an entry as a row: structs that hold an interface each. -/
import Derived.Test.YtepealmdnaondaaEvW
namespace Go.Proofs.Ytepealmdnaondaa.Ev
set_option maxRecDepth 100000
open Go Go.RowKit Go.Proofs.Ytepealmdnaondaa.PEv Go.Proofs.YtepealmdnaondaaW.PrintWords Go.Proofs.YtepealmdnaondaaW.PrintLast Go.Proofs.YtepealmdnaondaaW.PrintMore

/-- What an attribute's value is: a number or a text. -/
inductive FV where
  | num (n : Int)
  | txt (s : ByteArray)
def FV.val : FV → Value
  | .num n => .iface 2 (.int .i64 n)
  | .txt s => .iface 9 (.string s)
def kFV : Kd FV := Kd.scalar FV.val (fun x => by cases x <;> rfl)
structure S71 where
  f0 : Int
  f1 : FV
  f2 : Int
def z71 : S71 := ⟨0, .num 0, 0⟩
def k71 : Kd S71 := Kd.iso (Kd.pair (Kd.int .u32) (Kd.pair kFV (Kd.int .i64))) (fun x : S71 => (x.f0, x.f1, x.f2))
theorem k71_open {w : World} {x : S71} {cs : List Value} (h : k71.K w x cs) : cs = [.int .u32 x.f0, x.f1.val, .int .i64 x.f2] := by
  obtain ⟨_, _, rfl, rfl, ⟨_, _, rfl, rfl, rfl⟩⟩ := h
  exact rfl
theorem k71_mkM (w : World) (base : Nat) (ok : Nat → Prop) (x : S71) : k71.M w base ok x [.int .u32 x.f0, x.f1.val, .int .i64 x.f2] := ⟨[.int .u32 x.f0], [x.f1.val, .int .i64 x.f2], rfl, rfl, ⟨[x.f1.val], [.int .i64 x.f2], rfl, rfl, rfl⟩⟩
def rd_T71 (xs : List S71) (i : Int) : S71 := xs.getD i.toNat z71
theorem at_T71 {w : World} {A : Option Addr} {n : Nat} {xs : List S71} (h : Kd.C k71 w A n xs) (i : Int) (h0 : 0 ≤ i) (h1 : i < n) : ∃ ad, A = some ad ∧ w.cell? (ad.add (i.toNat * 3)) = some (.int .u32 (rd_T71 xs i).f0) ∧ w.cell? ⟨(ad.add (i.toNat * 3)).block, (ad.add (i.toNat * 3)).off + 1, none⟩ = some (rd_T71 xs i).f1.val ∧ w.cell? ⟨(ad.add (i.toNat * 3)).block, (ad.add (i.toNat * 3)).off + 2, none⟩ = some (.int .i64 (rd_T71 xs i).f2) := by
  obtain ⟨ad, c, e, _, hK, hc0⟩ := Kd.C_get h z71 i h0 h1
  have hc : ∀ j u, c[j]? = some u → w.cell? (ad.add (i.toNat * 3 + j)) = some u := hc0
  obtain rfl := k71_open hK
  exact ⟨ad, e, hc 0 _ rfl, by rw [← add_field _ _ 1 (by omega)]; exact hc 1 _ rfl, by rw [← add_field _ _ 2 (by omega)]; exact hc 2 _ rfl⟩

/-- The first field with an attribute. -/
def firstAt (a : Int) : List S71 → Option Nat
  | [] => none
  | x :: l => if x.f0 = a then some 0 else (firstAt a l).map (· + 1)
theorem firstAt_step {a : Int} {xs : List S71} {i : Nat} (h : i < xs.length) : firstAt a (xs.drop i) = if (xs[i]).f0 = a then some 0 else (firstAt a (xs.drop (i + 1))).map (· + 1) := by
  rw [List.drop_eq_getElem_cons h]
  rfl
end Go.Proofs.Ytepealmdnaondaa.Ev
