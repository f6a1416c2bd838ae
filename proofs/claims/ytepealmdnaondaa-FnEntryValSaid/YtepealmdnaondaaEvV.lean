/- impl.Val, walked: the loop that lays the fields. -/
import Derived.Test.YtepealmdnaondaaEvF
import Derived.Deep.RegionLaw
namespace Go.Proofs.Ytepealmdnaondaa.Ev
set_option maxRecDepth 100000
open Go Go.RowKit Go.Proofs.Ytepealmdnaondaa.PEv Go.Proofs.YtepealmdnaondaaW.PrintWords Go.Proofs.YtepealmdnaondaaW.PrintLast Go.Proofs.YtepealmdnaondaaW.PrintMore

theorem info71 : (Try.prog.info? 71).map (fun i => (i.zero, i.size, i.bytes)) = some (some (.agg #[.int .u32 0, .nilIface, .int .i64 0]), 3, 32) := by kernel_rfl
/-- A field, as the entry holds it. -/
def fvOf (x : S43) : FV := if x.f1 = 2 then .num (wrap64 x.f2) else .txt x.f3
def fld (x : S45) : S71 := ⟨x.f0 % 4294967296, fvOf x.f1, x.f1.f0⟩
theorem drew_alloc (w : World) (o : Obj) : (w.alloc o).drew = w.drew.alloc o := rfl
def zeroV : Array Value := #[.int .i64 0, .int .i64 0, .int .u64 0, .string ⟨#[]⟩, .slice none 0 0]
def Loaded (w wr : World) (ge : Nat) (xs : List S71) : Prop := ∃ A cap, wr.heap[ge]? = some (.cells #[.int .u32 0, .int .u32 0, .bool false, .slice A xs.length cap] 67 (0, 0)) ∧ Kd.R k71 71 wr w.heap.size (fun _ => True) (.slice A xs.length cap) xs ∧ Below w.heap.size w wr ∧ wr.heap[w.heap.size]? = some (.cells zeroV 43 (0, 0))
theorem set5 {W : World} {g : Nat} (h : W.heap[g]? = some (.cells zeroV 43 (0, 0))) (a b c d e : Value) : (((((W.setCell ⟨g, 0, none⟩ a).setCell ⟨g, 1, none⟩ b).setCell ⟨g, 2, none⟩ c).setCell ⟨g, 3, none⟩ d).setCell ⟨g, 4, none⟩ e).heap[g]? = some (.cells #[a, b, c, d, e] 43 (0, 0)) := blk_set (blk_set (blk_set (blk_set (blk_set h 0 a) 1 b) 2 c) 3 d) 4 e
/-- What Val tells. -/
def valRes : Option S71 → Value
  | none => .tuple #[.agg zeroV, .bool false]
  | some ⟨_, .num n, c⟩ => .tuple #[.agg #[.int .i64 c, .int .i64 2, .int .u64 (IntKind.u64.wrap n), .string ⟨#[]⟩, .slice none 0 0], .bool true]
  | some ⟨_, .txt s, c⟩ => .tuple #[.agg #[.int .i64 c, .int .i64 4, .int .u64 0, .string s, .slice none 0 0], .bool true]

set_option maxHeartbeats 1000000 in
theorem val_walk {A0 : Option Addr} {c0 : Nat} (a : Int) (l : List S45) (w : World) (hC : Kd.C k45 w A0 l.length l) (hc : l.length ≤ c0) (hl : l.length < 4000000000) :
    Calls Try.prog 22 #[.slice A0 l.length c0, .int .i64 a] w fun e w' => e = .returned (valRes (atNum (l.map fld) (firstAt (a % 4294967296) (l.map fld)))) ∧ Below w.heap.size w w' := by
  have HX := Aside0.mk (And.intro hC (And.intro hc hl))
  clear hC hc hl
  go_enter Try.func22, Try.ntmps22
  go_wp2_with fail
  have H4 : Aside0 (Loaded w ((w.alloc (.cells #[.int .i64 0, .int .i64 0, .int .u64 0, .string ⟨#[]⟩, .slice none 0 0] 43)).alloc (.cells #[.int .u32 0, .int .u32 0, .bool false, .slice none 0 0] 67)) (w.heap.size + 1) []) := by
    refine ⟨none, 0, ?_, Kd.R_nil _ _ _ _ _, ?_, ?_⟩
    · have := heap_alloc_new (w.alloc (.cells #[.int .i64 0, .int .i64 0, .int .u64 0, .string ⟨#[]⟩, .slice none 0 0] 43)) (.cells #[.int .u32 0, .int .u32 0, .bool false, .slice none 0 0] 67)
      simpa using this
    · exact below_alloc (below_alloc (Below.refl _ _) _) _
    · exact ((below_alloc (Below.refl _ _) _).block _ (by simp)).trans (heap_alloc_new w _)
  revert H4
  generalize (w.alloc (.cells #[.int .i64 0, .int .i64 0, .int .u64 0, .string ⟨#[]⟩, .slice none 0 0] 43)).alloc (.cells #[.int .u32 0, .int .u32 0, .bool false, .slice none 0 0] 67) = w4
  generalize hge : w.heap.size + 1 = ge
  intro H4
  go_loopg [16] l.length (fun kq v16 w' => ∃ n : Nat, v16 = .int .i64 (n : Int) ∧ Aside0 (kq = l.length - n ∧ n ≤ l.length ∧ Loaded w w' ge ((l.take n).map fld)))
  case atStart => exact ⟨0, rfl, ⟨by simp, Nat.zero_le _, by simpa using H4.out⟩⟩
  case round =>
    obtain ⟨n, rfl, HL⟩ := hrel
    have f1 : IntKind.i64.wrap ((n : Int) + 1) = ((n + 1 : Nat) : Int) := by
      have h1 := HL.out.2.1
      have h2 := HX.out.2.2
      rw [IntKind.wrap_i64]
      omega
    by_cases hc : n < l.length
    · have c0 : decide ((n : Int) < (l.length : Int)) = true := decide_eq_true (by omega)
      have c1 : decide (n < l.length) = true := decide_eq_true hc
      have d2 : (0 : Int) ≤ (n : Int) := by omega
      have d3 : (n : Int) < (l.length : Int) := by omega
      obtain ⟨hk, h2, A, cap, hs, hR, hB, hz⟩ := HL.out
      obtain ⟨ad, A5, c5, eA, t0, t1, t2, t3, t4, t5, _, _⟩ := at_T45 (Kd.C_below HX.out.1 hB) (n : Int) (by omega) (by omega)
      have hx : rd_T45 l (n : Int) = l[n] := by
        unfold rd_T45
        rw [Int.toNat_natCast, List.getD_eq_getElem?_getD, List.getElem?_eq_getElem hc]
        rfl
      rw [hx] at t0 t1 t2 t3 t4 t5
      rw [Int.toNat_natCast] at t0 t1 t2 t3 t4 t5
      have htk : (l.take (n + 1)).map fld = (l.take n).map fld ++ [fld l[n]] := by
        rw [List.take_add_one, List.getElem?_eq_getElem hc, List.map_append]
        rfl
      obtain ⟨x0, hx00⟩ : ∃ x0, l[n] = x0 := ⟨_, rfl⟩
      rw [hx00] at t0 t1 t2 t3 t4 t5 htk
      clear hx00 hx
      obtain ⟨ys, hys⟩ : ∃ ys, (l.take n).map fld = ys := ⟨_, rfl⟩
      rw [hys] at hs hR htk
      have hyl : ys.length = n := by rw [← hys]; simp; omega
      have n0 : ge < wr.heap.size := blk_lt hs
      have hgb : w.heap.size ≤ ge := by omega
      have HH := Aside0.mk (And.intro hs (And.intro hR (And.intro hB (And.intro hc (And.intro htk (And.intro hyl (And.intro n0 (And.intro hgb (And.intro hk (And.intro hz hge))))))))))
      clear hs hR hB hc htk hk h2 hys hyl n0 hgb hz
      subst eA
      obtain ⟨xa, xcl, xk, xn, xs, xb⟩ := x0
      simp only at t0 t1 t2 t3 t4 t5
      by_cases he : xk = 2
      · subst he
        go_wp2_with fail
        clear t0 t1 t2 t3 t4 t5
        have H7 : Aside0 (((wr.alloc (.cells #[.int .i64 xa, .int .i64 xcl, .int .i64 2, .int .u64 xn, .string xs, .slice A5 xb.length c5] 45)).alloc (.cells #[.int .u32 (xa % 4294967296), (.iface 2 (.int .i64 (wrap64 xn))), .int .i64 xcl] 71)).heap[ge]? = some (.cells #[.int .u32 0, .int .u32 0, .bool false, .slice A ys.length cap] 67 (0, 0)) ∧ Kd.R k71 71 ((wr.alloc (.cells #[.int .i64 xa, .int .i64 xcl, .int .i64 2, .int .u64 xn, .string xs, .slice A5 xb.length c5] 45)).alloc (.cells #[.int .u32 (xa % 4294967296), (.iface 2 (.int .i64 (wrap64 xn))), .int .i64 xcl] 71)) w.heap.size (fun _ => True) (.slice A ys.length cap) ys ∧ Below w.heap.size w ((wr.alloc (.cells #[.int .i64 xa, .int .i64 xcl, .int .i64 2, .int .u64 xn, .string xs, .slice A5 xb.length c5] 45)).alloc (.cells #[.int .u32 (xa % 4294967296), (.iface 2 (.int .i64 (wrap64 xn))), .int .i64 xcl] 71)) ∧ ((wr.alloc (.cells #[.int .i64 xa, .int .i64 xcl, .int .i64 2, .int .u64 xn, .string xs, .slice A5 xb.length c5] 45)).alloc (.cells #[.int .u32 (xa % 4294967296), (.iface 2 (.int .i64 (wrap64 xn))), .int .i64 xcl] 71)).heap[wr.heap.size + 1]? = some (.cells #[.int .u32 (xa % 4294967296), (.iface 2 (.int .i64 (wrap64 xn))), .int .i64 xcl] 71 (0, 0)) ∧ ((wr.alloc (.cells #[.int .i64 xa, .int .i64 xcl, .int .i64 2, .int .u64 xn, .string xs, .slice A5 xb.length c5] 45)).alloc (.cells #[.int .u32 (xa % 4294967296), (.iface 2 (.int .i64 (wrap64 xn))), .int .i64 xcl] 71)).heap[w.heap.size]? = some (.cells zeroV 43 (0, 0))) := by
          have hal : Below wr.heap.size wr ((wr.alloc (.cells #[.int .i64 xa, .int .i64 xcl, .int .i64 2, .int .u64 xn, .string xs, .slice A5 xb.length c5] 45)).alloc (.cells #[.int .u32 (xa % 4294967296), (.iface 2 (.int .i64 (wrap64 xn))), .int .i64 xcl] 71)) := below_alloc (below_alloc (Below.refl _ _) _) _
          refine ⟨(hal.block _ HH.out.2.2.2.2.2.2.1).trans HH.out.1, Kd.R_below HH.out.2.1 hal, HH.out.2.2.1.trans (hal.mono HH.out.2.2.1.size), ?_, (hal.block _ (blk_lt HH.out.2.2.2.2.2.2.2.2.2.1)).trans HH.out.2.2.2.2.2.2.2.2.2.1⟩
          have := heap_alloc_new (wr.alloc (.cells #[.int .i64 xa, .int .i64 xcl, .int .i64 2, .int .u64 xn, .string xs, .slice A5 xb.length c5] 45)) (.cells #[.int .u32 (xa % 4294967296), (.iface 2 (.int .i64 (wrap64 xn))), .int .i64 xcl] 71)
          simpa using this
        have HP : Aside0 (fld ⟨xa, xcl, 2, xn, xs, xb⟩ = (⟨xa % 4294967296, .num (wrap64 xn), xcl⟩ : S71)) := ⟨rfl⟩
        revert H7
        generalize ((wr.alloc (.cells #[.int .i64 xa, .int .i64 xcl, .int .i64 2, .int .u64 xn, .string xs, .slice A5 xb.length c5] 45)).alloc (.cells #[.int .u32 (xa % 4294967296), (.iface 2 (.int .i64 (wrap64 xn))), .int .i64 xcl] 71)) = w7
        generalize wr.heap.size + 1 = gx
        intro H7
        have q3 : w7.cell? ⟨ge, 3, none⟩ = some (.slice A ys.length cap) := (blk_cell H7.out.1 3).trans rfl
        have p0 : w7.cell? ⟨gx, 0, none⟩ = some (.int .u32 (xa % 4294967296)) := (blk_cell H7.out.2.2.2.1 0).trans rfl
        have p1 : w7.cell? ⟨gx, 1, none⟩ = some (.iface 2 (.int .i64 (wrap64 xn))) := (blk_cell H7.out.2.2.2.1 1).trans rfl
        have p2 : w7.cell? ⟨gx, 2, none⟩ = some (.int .i64 xcl) := (blk_cell H7.out.2.2.2.1 2).trans rfl
        have n3 : ge < w7.heap.size := blk_lt H7.out.1
        have n4 : gx < w7.heap.size := blk_lt H7.out.2.2.2.1
        go_region_law (rw [drew_alloc]; (refine Kd.R_append_step k71 (w0 := w) w.heap.size (by rfl) (.tmp 45) (.tmp 47) 65 71 (.agg #[.int .u32 0, .nilIface, .int .i64 0]) 32 rfl Try.underlying65 info71 rfl (by decide) (by omega) (.slice A ys.length cap) ys (⟨xa % 4294967296, .num (wrap64 xn), xcl⟩ : S71) _ (fun _ => True) (fun _ => False) rfl ?aX ?aP (fun _ hk => hk.elim) (fun _ _ => trivial) ?aO ?aB ?aS ?aL ?_); (case aX => first | (go_simp; done) | (go_simp; rfl)); (case aP => exact k71_mkM _ _ _ (⟨xa % 4294967296, .num (wrap64 xn), xcl⟩ : S71)); (case aO => exact Kd.R_drew H7.out.2.1); (case aB => have b1_ := H7.out.2.2.1; exact ⟨b1_.os, b1_.tape, b1_.output, b1_.size, b1_.block⟩); (case aS => exact H7.out.2.2.1.size); (case aL => have h1 := HH.out.2.2.2.1; have h2 := HH.out.2.2.2.2.2.1; have h3 := HX.out.2.2; omega); intro v1 w1 ho hb hg hat; obtain ⟨A3, c3, hv3⟩ := Kd.R_slice ho; subst hv3; have GS := Aside0.mk (blk_grown (w := w7.drew) H7.out.1 hg (Kd.R_ne H7.out.2.1 H7.out.1 (by decide))); have GZ := Aside0.mk (blk_grown (w := w7.drew) H7.out.2.2.2.2 hg (Kd.R_ne H7.out.2.1 H7.out.2.2.2.2 (by decide))); have HO := Aside0.mk ho; have HB := Aside0.mk hb; have q5 := blk_cell GS.out 3; have q6 := blk_frozen GS.out 3; clear ho hb hg hat)
        all_goals go_wp2
        all_goals (go_roundg (l.length - (n + 1)); (case measure => have h1 := HH.out.2.2.2.2.2.2.2.2.1; have h2 := HH.out.2.2.2.1; omega); (case rel => exact ⟨n + 1, by first | rfl | go_num, ⟨rfl, HH.out.2.2.2.1, by rw [HH.out.2.2.2.2.1, HP.out]; exact ⟨A3, c3, by rw [List.length_append]; exact blk_set GS.out 3 (.slice A3 (ys.length + 1) c3), Kd.R_set HO.out GS.out (by decide) 3 _, Below.setCell HB.out HH.out.2.2.2.2.2.2.2.1 _, (Below.heap_setCell _ _ _ _ (by have := HH.out.2.2.2.2.2.2.2.2.2.2; show w.heap.size ≠ ge; omega)).trans GZ.out⟩⟩⟩))
      · have e0 : decide (xk = 2) = false := decide_eq_false he
        have e1 : (xk == 2) = false := beq_eq_false_iff_ne.2 he
        go_wp2_with fail
        clear t0 t1 t2 t3 t4 t5
        have H7 : Aside0 (((wr.alloc (.cells #[.int .i64 xa, .int .i64 xcl, .int .i64 xk, .int .u64 xn, .string xs, .slice A5 xb.length c5] 45)).alloc (.cells #[.int .u32 (xa % 4294967296), (.iface 9 (.string xs)), .int .i64 xcl] 71)).heap[ge]? = some (.cells #[.int .u32 0, .int .u32 0, .bool false, .slice A ys.length cap] 67 (0, 0)) ∧ Kd.R k71 71 ((wr.alloc (.cells #[.int .i64 xa, .int .i64 xcl, .int .i64 xk, .int .u64 xn, .string xs, .slice A5 xb.length c5] 45)).alloc (.cells #[.int .u32 (xa % 4294967296), (.iface 9 (.string xs)), .int .i64 xcl] 71)) w.heap.size (fun _ => True) (.slice A ys.length cap) ys ∧ Below w.heap.size w ((wr.alloc (.cells #[.int .i64 xa, .int .i64 xcl, .int .i64 xk, .int .u64 xn, .string xs, .slice A5 xb.length c5] 45)).alloc (.cells #[.int .u32 (xa % 4294967296), (.iface 9 (.string xs)), .int .i64 xcl] 71)) ∧ ((wr.alloc (.cells #[.int .i64 xa, .int .i64 xcl, .int .i64 xk, .int .u64 xn, .string xs, .slice A5 xb.length c5] 45)).alloc (.cells #[.int .u32 (xa % 4294967296), (.iface 9 (.string xs)), .int .i64 xcl] 71)).heap[wr.heap.size + 1]? = some (.cells #[.int .u32 (xa % 4294967296), (.iface 9 (.string xs)), .int .i64 xcl] 71 (0, 0)) ∧ ((wr.alloc (.cells #[.int .i64 xa, .int .i64 xcl, .int .i64 xk, .int .u64 xn, .string xs, .slice A5 xb.length c5] 45)).alloc (.cells #[.int .u32 (xa % 4294967296), (.iface 9 (.string xs)), .int .i64 xcl] 71)).heap[w.heap.size]? = some (.cells zeroV 43 (0, 0))) := by
          have hal : Below wr.heap.size wr ((wr.alloc (.cells #[.int .i64 xa, .int .i64 xcl, .int .i64 xk, .int .u64 xn, .string xs, .slice A5 xb.length c5] 45)).alloc (.cells #[.int .u32 (xa % 4294967296), (.iface 9 (.string xs)), .int .i64 xcl] 71)) := below_alloc (below_alloc (Below.refl _ _) _) _
          refine ⟨(hal.block _ HH.out.2.2.2.2.2.2.1).trans HH.out.1, Kd.R_below HH.out.2.1 hal, HH.out.2.2.1.trans (hal.mono HH.out.2.2.1.size), ?_, (hal.block _ (blk_lt HH.out.2.2.2.2.2.2.2.2.2.1)).trans HH.out.2.2.2.2.2.2.2.2.2.1⟩
          have := heap_alloc_new (wr.alloc (.cells #[.int .i64 xa, .int .i64 xcl, .int .i64 xk, .int .u64 xn, .string xs, .slice A5 xb.length c5] 45)) (.cells #[.int .u32 (xa % 4294967296), (.iface 9 (.string xs)), .int .i64 xcl] 71)
          simpa using this
        have HP : Aside0 (fld ⟨xa, xcl, xk, xn, xs, xb⟩ = (⟨xa % 4294967296, .txt xs, xcl⟩ : S71)) := ⟨by simp [fld, fvOf, he]⟩
        revert H7
        generalize ((wr.alloc (.cells #[.int .i64 xa, .int .i64 xcl, .int .i64 xk, .int .u64 xn, .string xs, .slice A5 xb.length c5] 45)).alloc (.cells #[.int .u32 (xa % 4294967296), (.iface 9 (.string xs)), .int .i64 xcl] 71)) = w7
        generalize wr.heap.size + 1 = gx
        intro H7
        have q3 : w7.cell? ⟨ge, 3, none⟩ = some (.slice A ys.length cap) := (blk_cell H7.out.1 3).trans rfl
        have p0 : w7.cell? ⟨gx, 0, none⟩ = some (.int .u32 (xa % 4294967296)) := (blk_cell H7.out.2.2.2.1 0).trans rfl
        have p1 : w7.cell? ⟨gx, 1, none⟩ = some (.iface 9 (.string xs)) := (blk_cell H7.out.2.2.2.1 1).trans rfl
        have p2 : w7.cell? ⟨gx, 2, none⟩ = some (.int .i64 xcl) := (blk_cell H7.out.2.2.2.1 2).trans rfl
        have n3 : ge < w7.heap.size := blk_lt H7.out.1
        have n4 : gx < w7.heap.size := blk_lt H7.out.2.2.2.1
        go_region_law (rw [drew_alloc]; (refine Kd.R_append_step k71 (w0 := w) w.heap.size (by rfl) (.tmp 45) (.tmp 47) 65 71 (.agg #[.int .u32 0, .nilIface, .int .i64 0]) 32 rfl Try.underlying65 info71 rfl (by decide) (by omega) (.slice A ys.length cap) ys (⟨xa % 4294967296, .txt xs, xcl⟩ : S71) _ (fun _ => True) (fun _ => False) rfl ?aX ?aP (fun _ hk => hk.elim) (fun _ _ => trivial) ?aO ?aB ?aS ?aL ?_); (case aX => first | (go_simp; done) | (go_simp; rfl)); (case aP => exact k71_mkM _ _ _ (⟨xa % 4294967296, .txt xs, xcl⟩ : S71)); (case aO => exact Kd.R_drew H7.out.2.1); (case aB => have b1_ := H7.out.2.2.1; exact ⟨b1_.os, b1_.tape, b1_.output, b1_.size, b1_.block⟩); (case aS => exact H7.out.2.2.1.size); (case aL => have h1 := HH.out.2.2.2.1; have h2 := HH.out.2.2.2.2.2.1; have h3 := HX.out.2.2; omega); intro v1 w1 ho hb hg hat; obtain ⟨A3, c3, hv3⟩ := Kd.R_slice ho; subst hv3; have GS := Aside0.mk (blk_grown (w := w7.drew) H7.out.1 hg (Kd.R_ne H7.out.2.1 H7.out.1 (by decide))); have GZ := Aside0.mk (blk_grown (w := w7.drew) H7.out.2.2.2.2 hg (Kd.R_ne H7.out.2.1 H7.out.2.2.2.2 (by decide))); have HO := Aside0.mk ho; have HB := Aside0.mk hb; have q5 := blk_cell GS.out 3; have q6 := blk_frozen GS.out 3; clear ho hb hg hat)
        all_goals go_wp2
        all_goals (go_roundg (l.length - (n + 1)); (case measure => have h1 := HH.out.2.2.2.2.2.2.2.2.1; have h2 := HH.out.2.2.2.1; omega); (case rel => exact ⟨n + 1, by first | rfl | go_num, ⟨rfl, HH.out.2.2.2.1, by rw [HH.out.2.2.2.2.1, HP.out]; exact ⟨A3, c3, by rw [List.length_append]; exact blk_set GS.out 3 (.slice A3 (ys.length + 1) c3), Kd.R_set HO.out GS.out (by decide) 3 _, Below.setCell HB.out HH.out.2.2.2.2.2.2.2.1 _, (Below.heap_setCell _ _ _ _ (by have := HH.out.2.2.2.2.2.2.2.2.2.2; show w.heap.size ≠ ge; omega)).trans GZ.out⟩⟩⟩))
    · have hn : n = l.length := by have := HL.out.2.1; omega
      have c0 : decide ((n : Int) < (l.length : Int)) = false := decide_eq_false (by omega)
      have c1 : decide (n < l.length) = false := decide_eq_false hc
      obtain ⟨_, _, hL⟩ := HL.out
      rw [hn, List.take_length] at hL
      obtain ⟨A, cap, hs, hR, hB, hz⟩ := hL
      obtain ⟨ys, hys⟩ : ∃ ys, l.map fld = ys := ⟨_, rfl⟩
      rw [hys] at hs hR
      have hyl : ys.length < 4000000000000 := by have h3 := HX.out.2.2; rw [← hys, List.length_map]; omega
      have n0 : ge < wr.heap.size := blk_lt hs
      have HH := Aside0.mk (And.intro hs (And.intro (Kd.R_reads' hR) (And.intro hB (And.intro hz (And.intro hyl n0)))))
      have HYS := Aside0.mk hys
      clear hs hR hB hz hyl hn hc hys n0
      rcases hf : firstAt (a % 4294967296) ys with _ | i
      · have HU := Aside0.mk (val_none (a % 4294967296) ys wr HH.out.1 HH.out.2.1.2.2 HH.out.2.1.2.1 HH.out.2.2.2.2.1 hf)
        have HF := Aside0.mk hf
        clear hf
        go_wp2_with fail
        refine HU.out.mono ?_
        rintro e w1 ⟨rfl, hb⟩
        have HU2 := Aside0.mk (attrField_calls (w := w1) (a % 4294967296) ys ((hb.block _ HH.out.2.2.2.2.2).trans HH.out.1) (Kd.C_below HH.out.2.1.2.2 hb) HH.out.2.1.2.1 HH.out.2.2.2.2.1)
        have HB := Aside0.mk hb
        clear hb HU
        go_wp2_with fail
        refine HU2.out.mono ?_
        rw [HF.out]
        rintro e w2 ⟨rfl, hb⟩
        have H12 := HB.out.trans (hb.mono HB.out.size)
        have hz2 := (H12.block _ (blk_lt HH.out.2.2.2.1)).trans HH.out.2.2.2.1
        have n5 : w.heap.size < w2.heap.size := blk_lt hz2
        have r0 : w2.cell? ⟨w.heap.size, 0, none⟩ = some (.int .i64 0) := (blk_cell hz2 0).trans rfl
        have z0 := blk_frozen hz2 0
        have r1 : w2.cell? ⟨w.heap.size, 1, none⟩ = some (.int .i64 0) := (blk_cell hz2 1).trans rfl
        have z1 := blk_frozen hz2 1
        have r2 : w2.cell? ⟨w.heap.size, 2, none⟩ = some (.int .u64 0) := (blk_cell hz2 2).trans rfl
        have z2 := blk_frozen hz2 2
        have r3 : w2.cell? ⟨w.heap.size, 3, none⟩ = some (.string ⟨#[]⟩) := (blk_cell hz2 3).trans rfl
        have z3 := blk_frozen hz2 3
        have r4 : w2.cell? ⟨w.heap.size, 4, none⟩ = some (.slice none 0 0) := (blk_cell hz2 4).trans rfl
        have z4 := blk_frozen hz2 4
        have HB2 := Aside0.mk (And.intro (HH.out.2.2.1.trans (H12.mono HH.out.2.2.1.size)) hz2)
        clear hb HU2 H12 hz2 HB
        simp only [ptrAt, Option.bind_none]
        go_wp2_with fail
        have hz4 := set5 HB2.out.2 (.int .i64 0) (.int .i64 0) (.int .u64 0) (.string ⟨#[]⟩) (.slice none 0 0)
        have hb4 : Below w.heap.size w (((((w2.setCell ⟨w.heap.size, 0, none⟩ (.int .i64 0)).setCell ⟨w.heap.size, 1, none⟩ (.int .i64 0)).setCell ⟨w.heap.size, 2, none⟩ (.int .u64 0)).setCell ⟨w.heap.size, 3, none⟩ (.string ⟨#[]⟩)).setCell ⟨w.heap.size, 4, none⟩ (.slice none 0 0)) := by repeat (first | (with_reducible exact HB2.out.1) | refine below_set ?_ (Nat.le_refl _))
        clear r0 r1 r2 r3 r4 z0 z1 z2 z3 z4 n5
        revert hz4 hb4
        generalize (((((w2.setCell ⟨w.heap.size, 0, none⟩ (.int .i64 0)).setCell ⟨w.heap.size, 1, none⟩ (.int .i64 0)).setCell ⟨w.heap.size, 2, none⟩ (.int .u64 0)).setCell ⟨w.heap.size, 3, none⟩ (.string ⟨#[]⟩)).setCell ⟨w.heap.size, 4, none⟩ (.slice none 0 0)) = w5
        intro hz4 hb4
        have HB5 := Aside0.mk hb4
        clear hb4
        have r0 : w5.cell? ⟨w.heap.size, 0, none⟩ = some (.int .i64 0) := (blk_cell hz4 0).trans rfl
        have r1 : w5.cell? ⟨w.heap.size, 1, none⟩ = some (.int .i64 0) := (blk_cell hz4 1).trans rfl
        have r2 : w5.cell? ⟨w.heap.size, 2, none⟩ = some (.int .u64 0) := (blk_cell hz4 2).trans rfl
        have r3 : w5.cell? ⟨w.heap.size, 3, none⟩ = some (.string ⟨#[]⟩) := (blk_cell hz4 3).trans rfl
        have r4 : w5.cell? ⟨w.heap.size, 4, none⟩ = some (.slice none 0 0) := (blk_cell hz4 4).trans rfl
        clear hz4
        refine bodyPost_ret (by simp [results, Try.results22, go_sem, r0, r1, r2, r3, r4]; try rfl) rfl ?_
        exact ⟨by rw [HYS.out, HF.out]; rfl, HB5.out⟩
      · obtain ⟨x, hx, _⟩ := firstAt_lt hf
        have HU := Aside0.mk (val_some (a % 4294967296) ys wr i x HH.out.1 HH.out.2.1.2.2 HH.out.2.1.2.1 HH.out.2.2.2.2.1 hf hx)
        have hi : i < ys.length := (List.getElem?_eq_some_iff.1 hx).1
        obtain ⟨ad, eA, t0, t1, t2⟩ := at_T71 HH.out.2.1.2.2 (i : Int) (by omega) (by omega)
        have hr : rd_T71 ys (i : Int) = x := by
          unfold rd_T71
          rw [Int.toNat_natCast, List.getD_eq_getElem?_getD, hx]
          rfl
        rw [hr, Int.toNat_natCast] at t2
        have HF := Aside0.mk (And.intro hf (And.intro hx t2))
        clear hf hx t0 t1 t2 hr hi
        subst eA
        go_wp2_with fail
        refine HU.out.mono ?_
        rintro e w1 ⟨rfl, hb⟩
        have HU2 := Aside0.mk (attrField_calls (w := w1) (a % 4294967296) ys ((hb.block _ HH.out.2.2.2.2.2).trans HH.out.1) (Kd.C_below HH.out.2.1.2.2 hb) HH.out.2.1.2.1 HH.out.2.2.2.2.1)
        have HB := Aside0.mk hb
        clear hb HU
        obtain ⟨xa, xv, xc⟩ := x
        cases xv with
        | num m =>
          simp only [FV.val]
          go_wp2_with fail
          refine HU2.out.mono ?_
          rw [HF.out.1]
          rintro e w2 ⟨rfl, hb⟩
          have H12 := HB.out.trans (hb.mono HB.out.size)
          have hz2 := (H12.block _ (blk_lt HH.out.2.2.2.1)).trans HH.out.2.2.2.1
          have t2 : w2.cell? ⟨(ad.add (i * 3)).block, (ad.add (i * 3)).off + 2, none⟩ = some (.int .i64 xc) := pw_cell_below H12 HF.out.2.2
          have HB2 := Aside0.mk (And.intro (HH.out.2.2.1.trans (H12.mono HH.out.2.2.1.size)) hz2)
          clear hb HU2 H12 hz2 HB
          simp only [ptrAt, Option.bind_some, Option.map_some]
          go_wp2_with fail
          refine (value_int m xc w2).mono ?_
          rintro e w3 ⟨rfl, hb⟩
          have hz3 := (hb.block _ (blk_lt HB2.out.2)).trans HB2.out.2
          have n5 : w.heap.size < w3.heap.size := blk_lt hz3
          have r0 : w3.cell? ⟨w.heap.size, 0, none⟩ = some (.int .i64 0) := (blk_cell hz3 0).trans rfl
          have z0 := blk_frozen hz3 0
          have r1 : w3.cell? ⟨w.heap.size, 1, none⟩ = some (.int .i64 0) := (blk_cell hz3 1).trans rfl
          have z1 := blk_frozen hz3 1
          have r2 : w3.cell? ⟨w.heap.size, 2, none⟩ = some (.int .u64 0) := (blk_cell hz3 2).trans rfl
          have z2 := blk_frozen hz3 2
          have r3 : w3.cell? ⟨w.heap.size, 3, none⟩ = some (.string ⟨#[]⟩) := (blk_cell hz3 3).trans rfl
          have z3 := blk_frozen hz3 3
          have r4 : w3.cell? ⟨w.heap.size, 4, none⟩ = some (.slice none 0 0) := (blk_cell hz3 4).trans rfl
          have z4 := blk_frozen hz3 4
          have HB3 := Aside0.mk (HB2.out.1.trans (hb.mono HB2.out.1.size))
          have HZ3 := Aside0.mk hz3
          clear hb hz3 HB2
          go_wp2_with fail
          have hz4 := set5 HZ3.out (.int .i64 xc) (.int .i64 2) (.int .u64 (IntKind.u64.wrap m)) (.string ⟨#[]⟩) (.slice none 0 0)
          have hb4 : Below w.heap.size w (((((w3.setCell ⟨w.heap.size, 0, none⟩ (.int .i64 xc)).setCell ⟨w.heap.size, 1, none⟩ (.int .i64 2)).setCell ⟨w.heap.size, 2, none⟩ (.int .u64 (IntKind.u64.wrap m))).setCell ⟨w.heap.size, 3, none⟩ (.string ⟨#[]⟩)).setCell ⟨w.heap.size, 4, none⟩ (.slice none 0 0)) := by repeat (first | (with_reducible exact HB3.out) | refine below_set ?_ (Nat.le_refl _))
          clear r0 r1 r2 r3 r4 z0 z1 z2 z3 z4 n5
          revert hz4 hb4
          generalize (((((w3.setCell ⟨w.heap.size, 0, none⟩ (.int .i64 xc)).setCell ⟨w.heap.size, 1, none⟩ (.int .i64 2)).setCell ⟨w.heap.size, 2, none⟩ (.int .u64 (IntKind.u64.wrap m))).setCell ⟨w.heap.size, 3, none⟩ (.string ⟨#[]⟩)).setCell ⟨w.heap.size, 4, none⟩ (.slice none 0 0)) = w5
          intro hz4 hb4
          have HB5 := Aside0.mk hb4
          clear hb4
          have r0 : w5.cell? ⟨w.heap.size, 0, none⟩ = some (.int .i64 xc) := (blk_cell hz4 0).trans rfl
          have r1 : w5.cell? ⟨w.heap.size, 1, none⟩ = some (.int .i64 2) := (blk_cell hz4 1).trans rfl
          have r2 : w5.cell? ⟨w.heap.size, 2, none⟩ = some (.int .u64 (IntKind.u64.wrap m)) := (blk_cell hz4 2).trans rfl
          have r3 : w5.cell? ⟨w.heap.size, 3, none⟩ = some (.string ⟨#[]⟩) := (blk_cell hz4 3).trans rfl
          have r4 : w5.cell? ⟨w.heap.size, 4, none⟩ = some (.slice none 0 0) := (blk_cell hz4 4).trans rfl
          clear hz4
          refine bodyPost_ret (by simp [results, Try.results22, go_sem, r0, r1, r2, r3, r4]; try rfl) rfl ?_
          exact ⟨by rw [HYS.out, HF.out.1, atNum, HF.out.2.1]; rfl, HB5.out⟩
        | txt m =>
          simp only [FV.val]
          go_wp2_with fail
          refine HU2.out.mono ?_
          rw [HF.out.1]
          rintro e w2 ⟨rfl, hb⟩
          have H12 := HB.out.trans (hb.mono HB.out.size)
          have hz2 := (H12.block _ (blk_lt HH.out.2.2.2.1)).trans HH.out.2.2.2.1
          have t2 : w2.cell? ⟨(ad.add (i * 3)).block, (ad.add (i * 3)).off + 2, none⟩ = some (.int .i64 xc) := pw_cell_below H12 HF.out.2.2
          have HB2 := Aside0.mk (And.intro (HH.out.2.2.1.trans (H12.mono HH.out.2.2.1.size)) hz2)
          clear hb HU2 H12 hz2 HB
          simp only [ptrAt, Option.bind_some, Option.map_some]
          go_wp2_with fail
          refine (value_text m xc w2).mono ?_
          rintro e w3 ⟨rfl, hb⟩
          have hz3 := (hb.block _ (blk_lt HB2.out.2)).trans HB2.out.2
          have n5 : w.heap.size < w3.heap.size := blk_lt hz3
          have r0 : w3.cell? ⟨w.heap.size, 0, none⟩ = some (.int .i64 0) := (blk_cell hz3 0).trans rfl
          have z0 := blk_frozen hz3 0
          have r1 : w3.cell? ⟨w.heap.size, 1, none⟩ = some (.int .i64 0) := (blk_cell hz3 1).trans rfl
          have z1 := blk_frozen hz3 1
          have r2 : w3.cell? ⟨w.heap.size, 2, none⟩ = some (.int .u64 0) := (blk_cell hz3 2).trans rfl
          have z2 := blk_frozen hz3 2
          have r3 : w3.cell? ⟨w.heap.size, 3, none⟩ = some (.string ⟨#[]⟩) := (blk_cell hz3 3).trans rfl
          have z3 := blk_frozen hz3 3
          have r4 : w3.cell? ⟨w.heap.size, 4, none⟩ = some (.slice none 0 0) := (blk_cell hz3 4).trans rfl
          have z4 := blk_frozen hz3 4
          have HB3 := Aside0.mk (HB2.out.1.trans (hb.mono HB2.out.1.size))
          have HZ3 := Aside0.mk hz3
          clear hb hz3 HB2
          go_wp2_with fail
          have hz4 := set5 HZ3.out (.int .i64 xc) (.int .i64 4) (.int .u64 0) (.string m) (.slice none 0 0)
          have hb4 : Below w.heap.size w (((((w3.setCell ⟨w.heap.size, 0, none⟩ (.int .i64 xc)).setCell ⟨w.heap.size, 1, none⟩ (.int .i64 4)).setCell ⟨w.heap.size, 2, none⟩ (.int .u64 0)).setCell ⟨w.heap.size, 3, none⟩ (.string m)).setCell ⟨w.heap.size, 4, none⟩ (.slice none 0 0)) := by repeat (first | (with_reducible exact HB3.out) | refine below_set ?_ (Nat.le_refl _))
          clear r0 r1 r2 r3 r4 z0 z1 z2 z3 z4 n5
          revert hz4 hb4
          generalize (((((w3.setCell ⟨w.heap.size, 0, none⟩ (.int .i64 xc)).setCell ⟨w.heap.size, 1, none⟩ (.int .i64 4)).setCell ⟨w.heap.size, 2, none⟩ (.int .u64 0)).setCell ⟨w.heap.size, 3, none⟩ (.string m)).setCell ⟨w.heap.size, 4, none⟩ (.slice none 0 0)) = w5
          intro hz4 hb4
          have HB5 := Aside0.mk hb4
          clear hb4
          have r0 : w5.cell? ⟨w.heap.size, 0, none⟩ = some (.int .i64 xc) := (blk_cell hz4 0).trans rfl
          have r1 : w5.cell? ⟨w.heap.size, 1, none⟩ = some (.int .i64 4) := (blk_cell hz4 1).trans rfl
          have r2 : w5.cell? ⟨w.heap.size, 2, none⟩ = some (.int .u64 0) := (blk_cell hz4 2).trans rfl
          have r3 : w5.cell? ⟨w.heap.size, 3, none⟩ = some (.string m) := (blk_cell hz4 3).trans rfl
          have r4 : w5.cell? ⟨w.heap.size, 4, none⟩ = some (.slice none 0 0) := (blk_cell hz4 4).trans rfl
          clear hz4
          refine bodyPost_ret (by simp [results, Try.results22, go_sem, r0, r1, r2, r3, r4]; try rfl) rfl ?_
          exact ⟨by rw [HYS.out, HF.out.1, atNum, HF.out.2.1]; rfl, HB5.out⟩
end Go.Proofs.Ytepealmdnaondaa.Ev
