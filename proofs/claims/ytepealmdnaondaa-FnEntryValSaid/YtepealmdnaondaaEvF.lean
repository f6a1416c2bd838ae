/- Entry.AttrField and Entry.Val, walked. -/
import Derived.Test.YtepealmdnaondaaEvK
import Derived.Deep.LoopGhost
namespace Go.Proofs.Ytepealmdnaondaa.Ev
set_option maxRecDepth 100000
open Go Go.RowKit Go.Proofs.Ytepealmdnaondaa.PEv Go.Proofs.YtepealmdnaondaaW.PrintWords Go.Proofs.YtepealmdnaondaaW.PrintLast Go.Proofs.YtepealmdnaondaaW.PrintMore

/-- Where the field with this number lies. -/
def ptrAt (A : Option Addr) (r : Option Nat) : Option Addr := r.bind fun i => A.map fun ad => ad.add (i * 3)

theorem firstAt_none_nil (a : Int) : firstAt a [] = none := rfl

set_option maxHeartbeats 1000000 in
theorem attrField_calls {ge : Nat} {A : Option Addr} {cap : Nat} {o t : Int} {ch : Bool} (a : Int) (xs : List S71) (w : World)
    (hE : w.heap[ge]? = some (.cells #[.int .u32 o, .int .u32 t, .bool ch, .slice A xs.length cap] 67 (0, 0)))
    (hC : Kd.C k71 w A xs.length xs) (hc : xs.length ≤ cap) (hl : xs.length < 4000000000000) :
    Calls Try.prog 32 #[.pointer (some ⟨ge, 0, none⟩), .int .u32 a] w fun e w' => e = .returned (.pointer (ptrAt A (firstAt a xs))) ∧ Below w.heap.size w w' := by
  have HX := Aside0.mk (And.intro hE (And.intro hC (And.intro hc hl)))
  have q3 : w.cell? ⟨ge, 3, none⟩ = some (.slice A xs.length cap) := (blk_cell hE 3).trans rfl
  clear hE hC hc hl
  go_enter Try.func32, Try.ntmps32
  go_wp2_with fail
  clear q3
  go_loopg [12] xs.length (fun kq v12 w' => ∃ n : Nat, v12 = .int .i64 (n : Int) ∧ Aside0 (kq = xs.length - n ∧ n ≤ xs.length ∧ firstAt a xs = (firstAt a (xs.drop n)).map (· + n) ∧ Below w.heap.size w w'))
  case atStart => exact ⟨0, rfl, ⟨by simp, Nat.zero_le _, by simp, Below.refl _ _⟩⟩
  case round =>
    obtain ⟨n, rfl, HL⟩ := hrel
    have f1 : IntKind.i64.wrap ((n : Int) + 1) = ((n + 1 : Nat) : Int) := by
      have h1 := HL.out.2.1
      have h2 := HX.out.2.2.2
      rw [IntKind.wrap_i64]
      omega
    by_cases hc : n < xs.length
    · have c0 : decide ((n : Int) < (xs.length : Int)) = true := decide_eq_true (by omega)
      have c1 : decide (n < xs.length) = true := decide_eq_true hc
      obtain ⟨ad, eA, t0, t1, t2⟩ := at_T71 (Kd.C_below HX.out.2.1 HL.out.2.2.2) (n : Int) (by omega) (by omega)
      have hx : rd_T71 xs (n : Int) = xs[n] := by
        unfold rd_T71
        rw [Int.toNat_natCast, List.getD_eq_getElem?_getD, List.getElem?_eq_getElem hc]
        rfl
      rw [hx] at t0 t1 t2
      rw [Int.toNat_natCast] at t0 t1 t2
      have hst := firstAt_step (a := a) hc
      obtain ⟨x0, hx00⟩ : ∃ x0, xs[n] = x0 := ⟨_, rfl⟩
      rw [hx00] at t0 t1 t2 hst
      clear hx00 hx
      have q3 : wr.cell? ⟨ge, 3, none⟩ = some (.slice A xs.length cap) := pw_cell_below HL.out.2.2.2 ((blk_cell HX.out.1 3).trans rfl)
      have n0 : ge < wr.heap.size := World.block_lt_of_cell? wr _ q3
      have d2 : (0 : Int) ≤ (n : Int) := by omega
      have d3 : (n : Int) < (xs.length : Int) := by omega
      subst eA
      have HC := Aside0.mk (And.intro hc hst)
      clear hst hc
      obtain ⟨xa, xv, xc⟩ := x0
      simp only at t0 t1 t2
      by_cases he : xa = a
      · have e0 : decide (xa = a) = true := decide_eq_true he
        have e1 : (xa == a) = true := beq_iff_eq.2 he
        have HE := Aside0.mk he
        clear he
        cases xv with
        | num m =>
          simp only [FV.val] at t1
          go_wp2_with fail
          go_ret
          exact ⟨by rw [HL.out.2.2.1, HC.out.2, if_pos HE.out]; simp [ptrAt], HL.out.2.2.2.trans ((below_alloc (Below.refl _ _) _).mono HL.out.2.2.2.size)⟩
        | txt m =>
          simp only [FV.val] at t1
          go_wp2_with fail
          go_ret
          exact ⟨by rw [HL.out.2.2.1, HC.out.2, if_pos HE.out]; simp [ptrAt], HL.out.2.2.2.trans ((below_alloc (Below.refl _ _) _).mono HL.out.2.2.2.size)⟩
      · have e0 : decide (xa = a) = false := decide_eq_false he
        have e1 : (xa == a) = false := beq_eq_false_iff_ne.2 he
        have HE := Aside0.mk he
        clear he
        cases xv with
        | num m =>
          simp only [FV.val] at t1
          go_wp2_with fail
          go_roundg (xs.length - (n + 1))
          case measure => have h1 := HL.out.1; have h2 := HC.out.1; omega
          case rel => exact ⟨n + 1, by first | rfl | go_num, ⟨rfl, HC.out.1, by rw [HL.out.2.2.1, HC.out.2, if_neg HE.out, Option.map_map]; congr 1; funext j; simp; omega, HL.out.2.2.2.trans ((below_alloc (Below.refl _ _) _).mono HL.out.2.2.2.size)⟩⟩
        | txt m =>
          simp only [FV.val] at t1
          go_wp2_with fail
          go_roundg (xs.length - (n + 1))
          case measure => have h1 := HL.out.1; have h2 := HC.out.1; omega
          case rel => exact ⟨n + 1, by first | rfl | go_num, ⟨rfl, HC.out.1, by rw [HL.out.2.2.1, HC.out.2, if_neg HE.out, Option.map_map]; congr 1; funext j; simp; omega, HL.out.2.2.2.trans ((below_alloc (Below.refl _ _) _).mono HL.out.2.2.2.size)⟩⟩
    · have hn : n = xs.length := by have := HL.out.2.1; omega
      have c0 : decide ((n : Int) < (xs.length : Int)) = false := decide_eq_false (by omega)
      have c1 : decide (n < xs.length) = false := decide_eq_false hc
      have HF : Aside0 (firstAt a xs = none) := ⟨by
        have h := HL.out.2.2.1
        rw [hn, List.drop_length] at h
        exact h⟩
      clear hn hc
      go_wp2_with fail
      go_ret
      exact ⟨by rw [HF.out]; rfl, HL.out.2.2.2⟩

/-- The field with this number, if there is one. -/
def atNum (xs : List S71) : Option Nat → Option S71
  | none => none
  | some i => xs[i]?
theorem firstAt_lt {a : Int} : ∀ {xs : List S71} {i : Nat}, firstAt a xs = some i → ∃ x, xs[i]? = some x ∧ x.f0 = a
  | [], i, h => by simp [firstAt] at h
  | x :: l, i, h => by
    unfold firstAt at h
    split at h
    · rename_i hx
      obtain rfl := Option.some.inj h
      exact ⟨x, rfl, hx⟩
    · obtain ⟨j, hj, rfl⟩ := Option.map_eq_some_iff.1 h
      obtain ⟨y, hy, hya⟩ := firstAt_lt hj
      exact ⟨y, by simpa using hy, hya⟩

theorem val_none {ge : Nat} {A : Option Addr} {cap : Nat} {o t : Int} {ch : Bool} (a : Int) (xs : List S71) (w : World)
    (hE : w.heap[ge]? = some (.cells #[.int .u32 o, .int .u32 t, .bool ch, .slice A xs.length cap] 67 (0, 0)))
    (hC : Kd.C k71 w A xs.length xs) (hc : xs.length ≤ cap) (hl : xs.length < 4000000000000) (hn : firstAt a xs = none) :
    Calls Try.prog 31 #[.pointer (some ⟨ge, 0, none⟩), .int .u32 a] w fun e w' => e = .returned .nilIface ∧ Below w.heap.size w w' := by
  have HU := Aside0.mk (attrField_calls a xs w hE hC hc hl)
  have HN := Aside0.mk hn
  clear hE hC hc hl hn
  go_enter Try.func31, Try.ntmps31
  go_wp2_with fail
  refine HU.out.mono ?_
  rw [HN.out]
  rintro e w1 ⟨rfl, hb⟩
  have HB := Aside0.mk hb
  clear hb HU
  simp only [ptrAt, Option.bind_none]
  go_wp2_with fail
  go_ret
  exact ⟨rfl, HB.out⟩
theorem val_some {ge : Nat} {A : Option Addr} {cap : Nat} {o t : Int} {ch : Bool} (a : Int) (xs : List S71) (w : World) (i : Nat) (x : S71)
    (hE : w.heap[ge]? = some (.cells #[.int .u32 o, .int .u32 t, .bool ch, .slice A xs.length cap] 67 (0, 0)))
    (hC : Kd.C k71 w A xs.length xs) (hc : xs.length ≤ cap) (hl : xs.length < 4000000000000) (hn : firstAt a xs = some i) (hx : xs[i]? = some x) :
    Calls Try.prog 31 #[.pointer (some ⟨ge, 0, none⟩), .int .u32 a] w fun e w' => e = .returned x.f1.val ∧ Below w.heap.size w w' := by
  have HU := Aside0.mk (attrField_calls a xs w hE hC hc hl)
  have hi : i < xs.length := (List.getElem?_eq_some_iff.1 hx).1
  obtain ⟨ad, eA, t0, t1, t2⟩ := at_T71 hC (i : Int) (by omega) (by omega)
  have hr : rd_T71 xs (i : Int) = x := by
    unfold rd_T71
    rw [Int.toNat_natCast, List.getD_eq_getElem?_getD, hx]
    rfl
  rw [hr, Int.toNat_natCast] at t1
  subst eA
  have HN := Aside0.mk hn
  have T1 := Aside0.mk t1
  clear hE hC hc hl hn t0 t1 t2 hx hr hi
  go_enter Try.func31, Try.ntmps31
  go_wp2_with fail
  refine HU.out.mono ?_
  rw [HN.out]
  rintro e w1 ⟨rfl, hb⟩
  have t1 : w1.cell? ⟨(ad.add (i * 3)).block, (ad.add (i * 3)).off + 1, none⟩ = some x.f1.val := pw_cell_below hb T1.out
  have HB := Aside0.mk hb
  clear hb HU T1
  simp only [ptrAt, Option.bind_some, Option.map_some]
  obtain ⟨xa, xv, xc⟩ := x
  cases xv with
  | num m =>
    simp only [FV.val] at t1 ⊢
    go_wp2_with fail
    go_ret
    exact ⟨rfl, HB.out⟩
  | txt m =>
    simp only [FV.val] at t1 ⊢
    go_wp2_with fail
    go_ret
    exact ⟨rfl, HB.out⟩
end Go.Proofs.Ytepealmdnaondaa.Ev
