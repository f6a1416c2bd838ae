/- FnEntryVal, walked. -/
import Derived.Test.YtepealmdnaondaaEvP
namespace Go.Proofs.Ytepealmdnaondaa.Ev
set_option maxRecDepth 100000
open Go Go.RowKit Go.Proofs.Ytepealmdnaondaa.PEv Go.Proofs.YtepealmdnaondaaW.PrintWords Go.Proofs.YtepealmdnaondaaW.PrintLast Go.Proofs.YtepealmdnaondaaW.PrintMore

/-- The loop's state: what was wanted so far. -/
def Sofar (w w' : World) (gw : Nat) (a : Int) (p : List S45) (ok : Bool) : Prop := (∀ x ∈ p, Fit x) ∧ ok = (wanted a p).isSome ∧ (∃ cs, w'.heap[gw]? = some (.cells cs 43 (0, 0)) ∧ WantCells (wanted a p) cs) ∧ Below w.heap.size w w'

set_option maxHeartbeats 2000000 in
theorem law_walk {A0 : Option Addr} {c0 : Nat} (a : Int) (l : List S45) (w : World) (hC : Kd.C k45 w A0 l.length l) (hc : l.length ≤ c0) (hN : ∀ x ∈ l, 0 ≤ x.f1.f2 ∧ x.f1.f2 < 18446744073709551616) :
    Calls Try.prog 10 #[.slice A0 l.length c0, .int .i64 a] w fun e w' => e = .returned (.bool true) ∧ Below w.heap.size w w' := by
  obtain ⟨k, b, hb⟩ := fits7_some l
  have HX := Aside0.mk (And.intro hC (And.intro hc hN))
  have HU := Aside0.mk (laws_zzFits7.calls k A0 c0 l b w hC hc hb)
  clear hC hc hN hb
  cases b with
  | false =>
    go_enter Try.func10, Try.ntmps10
    go_wp2_with fail
    refine HU.out.mono ?_
    rintro e w1 ⟨rfl, hb⟩
    have HB := Aside0.mk hb
    clear hb HU
    go_wp2_with fail
    go_ret
    exact ⟨rfl, HB.out⟩
  | true =>
    by_cases h1 : l.length > 65536 ∨ a < 0 ∨ a > 2147483648
    · have HO : Aside0 True := ⟨trivial⟩
      by_cases c1 : l.length > 65536
      · have f1 : decide ((l.length : Int) > 65536) = true := decide_eq_true (by omega)
        have f2 : decide (65536 < (l.length : Int)) = true := decide_eq_true (by omega)
        have f6 : decide (65536 < l.length) = true := decide_eq_true c1
        clear h1 c1
        go_enter Try.func10, Try.ntmps10
        go_wp2_with fail
        refine HU.out.mono ?_
        rintro e w1 ⟨rfl, hb⟩
        have HB := Aside0.mk hb
        clear hb HU
        go_wp2_with fail
        go_ret
        exact ⟨rfl, HB.out⟩
      · have f1 : decide ((l.length : Int) > 65536) = false := decide_eq_false (by omega)
        have f2 : decide (65536 < (l.length : Int)) = false := decide_eq_false (by omega)
        have f6 : decide (65536 < l.length) = false := decide_eq_false c1
        by_cases c2 : a < 0
        · have f3 : decide (a < 0) = true := decide_eq_true c2
          clear h1 c1 c2
          go_enter Try.func10, Try.ntmps10
          go_wp2_with fail
          refine HU.out.mono ?_
          rintro e w1 ⟨rfl, hb⟩
          have HB := Aside0.mk hb
          clear hb HU
          go_wp2_with fail
          go_ret
          exact ⟨rfl, HB.out⟩
        · have f3 : decide (a < 0) = false := decide_eq_false c2
          have c3 : a > 2147483648 := by omega
          have f4 : decide (a > 2147483648) = true := decide_eq_true c3
          have f5 : decide (2147483648 < a) = true := decide_eq_true c3
          clear h1 c1 c2 c3
          go_enter Try.func10, Try.ntmps10
          go_wp2_with fail
          refine HU.out.mono ?_
          rintro e w1 ⟨rfl, hb⟩
          have HB := Aside0.mk hb
          clear hb HU
          go_wp2_with fail
          go_ret
          exact ⟨rfl, HB.out⟩
    · have hl : l.length ≤ 65536 := by omega
      have ha0 : 0 ≤ a := by omega
      have ha1 : a ≤ 2147483648 := by omega
      have f1 : decide ((l.length : Int) > 65536) = false := decide_eq_false (by omega)
      have f2 : decide (65536 < (l.length : Int)) = false := decide_eq_false (by omega)
      have f3 : decide (a < 0) = false := decide_eq_false (by omega)
      have f4 : decide (a > 2147483648) = false := decide_eq_false (by omega)
      have f5 : decide (2147483648 < a) = false := decide_eq_false (by omega)
      have f7 : decide (65536 < l.length) = false := decide_eq_false (by omega)
      have HA := Aside0.mk (And.intro hl (And.intro ha0 ha1))
      clear h1 hl ha0 ha1
      go_enter Try.func10, Try.ntmps10
      go_wp2_with fail
      refine HU.out.mono ?_
      rintro e w1 ⟨rfl, hb⟩
      have HB := Aside0.mk hb
      clear hb HU
      go_wp2_with fail
      have H2 : Aside0 (Sofar w (w1.alloc (.cells zeroV 43)) w1.heap.size a [] false) := ⟨by simp, rfl, ⟨_, heap_alloc_new w1 _, rfl⟩, HB.out.trans ((below_alloc (Below.refl _ _) _).mono HB.out.size)⟩
      have hgw : w.heap.size ≤ w1.heap.size := HB.out.size
      unfold zeroV at H2
      revert H2
      generalize w1.alloc (.cells #[.int .i64 0, .int .i64 0, .int .u64 0, .string ⟨#[]⟩, .slice none 0 0] 43) = w2
      generalize w1.heap.size = gw at hgw
      intro H2
      have HG := Aside0.mk hgw
      clear hgw HB
      go_loopg [6, 30] l.length (fun kq v6 v30 w' => ∃ (ok : Bool) (n : Nat), v6 = .bool ok ∧ v30 = .int .i64 (n : Int) ∧ Aside0 (kq = l.length - n ∧ n ≤ l.length ∧ Sofar w w' gw a (l.take n) ok))
      case atStart => exact ⟨false, 0, rfl, rfl, ⟨by simp, Nat.zero_le _, by simpa using H2.out⟩⟩
      case round =>
        obtain ⟨ok, n, rfl, rfl, HL⟩ := hrel
        have f6 : IntKind.i64.wrap ((n : Int) + 1) = ((n + 1 : Nat) : Int) := by
          have h1 := HL.out.2.1
          have h2 := HA.out.1
          rw [IntKind.wrap_i64]
          omega
        by_cases hc : n < l.length
        · have c00 : decide ((n : Int) < (l.length : Int)) = true := decide_eq_true (by omega)
          have c1 : decide (n < l.length) = true := decide_eq_true hc
          have d2 : (0 : Int) ≤ (n : Int) := by omega
          have d3 : (n : Int) < (l.length : Int) := by omega
          obtain ⟨hk, h2, hfit, hok, hw2, hB⟩ := HL.out
          obtain ⟨ad, A5, c5, eA, t0, t1, t2, t3, t4, t5, _, _⟩ := at_T45 (Kd.C_below HX.out.1 hB) (n : Int) (by omega) (by omega)
          have hx : rd_T45 l (n : Int) = l[n] := by
            unfold rd_T45
            rw [Int.toNat_natCast, List.getD_eq_getElem?_getD, List.getElem?_eq_getElem hc]
            rfl
          rw [hx] at t0 t1 t2 t3 t4 t5
          rw [Int.toNat_natCast] at t0 t1 t2 t3 t4 t5
          have htk : l.take (n + 1) = l.take n ++ [l[n]] := by
            rw [List.take_add_one, List.getElem?_eq_getElem hc]
            rfl
          obtain ⟨x0, hx00⟩ : ∃ x0, l[n] = x0 := ⟨_, rfl⟩
          rw [hx00] at t0 t1 t2 t3 t4 t5 htk
          clear hx00 hx
          have HH := Aside0.mk (And.intro hc (And.intro htk hw2))
          clear hc htk hw2 hk h2 hfit hok hB
          subst eA
          obtain ⟨xa, xcl, xk, xn, xs, xb⟩ := x0
          simp only at t0 t1 t2 t3 t4 t5
          by_cases hfx : 0 ≤ xa ∧ xa ≤ 2147483648 ∧ (xk = 2 ∨ xk = 4)
          · obtain ⟨g1, g2, g3⟩ := hfx
            have e1 : decide (xa < 0) = false := decide_eq_false (by omega)
            have e2 : decide (xa > 2147483648) = false := decide_eq_false (by omega)
            have e3 : decide (2147483648 < xa) = false := decide_eq_false (by omega)
            obtain ⟨i0, hi0, _, hsz0, _⟩ := info_parts info45
            have hcut := cut_to (P := Try.prog) 38 45 .i64 Try.underlying38 hi0 (some ad) l.length c0 (n : Int) d2 (by omega) HX.out.2.1
            rw [Int.toNat_natCast] at hcut
            have d4 : ((n : Int) ≤ (l.length : Int)) = True := eq_true (by omega)
            have HFX : Aside0 (Fit ⟨xa, xcl, xk, xn, xs, xb⟩) := ⟨g1, g2, g3⟩
            clear g1 g2 hi0 hsz0
            rcases g3 with rfl | rfl
            · go_wp2_with fail
              clear t0 t1 t2 t3 t4 t5
              have H7 : Aside0 ((wr.alloc (.cells #[.int .i64 xa, .int .i64 xcl, .int .i64 2, .int .u64 xn, .string xs, .slice A5 xb.length c5] 45)).heap[wr.heap.size]? = some (.cells #[.int .i64 xa, .int .i64 xcl, .int .i64 2, .int .u64 xn, .string xs, .slice A5 xb.length c5] 45 (0, 0)) ∧ (∃ cs, (wr.alloc (.cells #[.int .i64 xa, .int .i64 xcl, .int .i64 2, .int .u64 xn, .string xs, .slice A5 xb.length c5] 45)).heap[gw]? = some (.cells cs 43 (0, 0)) ∧ WantCells (wanted a (l.take n)) cs) ∧ Below w.heap.size w (wr.alloc (.cells #[.int .i64 xa, .int .i64 xcl, .int .i64 2, .int .u64 xn, .string xs, .slice A5 xb.length c5] 45)) ∧ gw < wr.heap.size) := by
                have hal : Below wr.heap.size wr (wr.alloc (.cells #[.int .i64 xa, .int .i64 xcl, .int .i64 2, .int .u64 xn, .string xs, .slice A5 xb.length c5] 45)) := below_alloc (Below.refl _ _) _
                obtain ⟨cs, hg, hcs⟩ := HH.out.2.2
                exact ⟨heap_alloc_new wr _, ⟨cs, (hal.block _ (blk_lt hg)).trans hg, hcs⟩, HL.out.2.2.2.2.2.trans (hal.mono HL.out.2.2.2.2.2.size), blk_lt hg⟩
              revert H7
              generalize (wr.alloc (.cells #[.int .i64 xa, .int .i64 xcl, .int .i64 2, .int .u64 xn, .string xs, .slice A5 xb.length c5] 45)) = w7
              generalize wr.heap.size = gf
              intro H7
              go_loopg [59] n (fun kq v59 w' => ∃ m : Nat, v59 = .int .i64 (m : Int) ∧ Aside0 (kq = n - m ∧ m ≤ n ∧ (∀ y ∈ l.take m, y.f0 ≠ xa) ∧ Below w7.heap.size w7 w'))
              case atStart => exact ⟨0, rfl, ⟨by simp, Nat.zero_le _, by simp, Below.refl _ _⟩⟩
              case round =>
                obtain ⟨m, rfl, HM⟩ := hrel
                have f7 : IntKind.i64.wrap ((m : Int) + 1) = ((m + 1 : Nat) : Int) := by
                  have h1 := HM.out.2.1
                  have h2 := HA.out.1
                  have h3 := HH.out.1
                  rw [IntKind.wrap_i64]
                  omega
                have hBm := H7.out.2.2.1.trans (HM.out.2.2.2.mono H7.out.2.2.1.size)
                have hgf := (HM.out.2.2.2.block _ (blk_lt H7.out.1)).trans H7.out.1
                have p0 : wr.cell? ⟨gf, 0, none⟩ = some (.int .i64 xa) := (blk_cell hgf 0).trans rfl
                have n1 : gf < wr.heap.size := blk_lt hgf
                by_cases hcm : m < n
                · have b00 : decide ((m : Int) < (n : Int)) = true := decide_eq_true (by omega)
                  have b1 : decide (m < n) = true := decide_eq_true hcm
                  have d5 : (0 : Int) ≤ (m : Int) := by omega
                  have d6 : (m : Int) < (n : Int) := by omega
                  have hml : m < l.length := by have := HH.out.1; omega
                  obtain ⟨ad', A6, c6, eA, u0, u1, u2, u3, u4, u5, _, _⟩ := at_T45 (Kd.C_below HX.out.1 hBm) (m : Int) (by omega) (by omega)
                  cases eA
                  have hx : rd_T45 l (m : Int) = l[m] := by
                    unfold rd_T45
                    rw [Int.toNat_natCast, List.getD_eq_getElem?_getD, List.getElem?_eq_getElem hml]
                    rfl
                  rw [hx] at u0 u1 u2 u3 u4 u5
                  rw [Int.toNat_natCast] at u0 u1 u2 u3 u4 u5
                  have htm : l.take (m + 1) = l.take m ++ [l[m]] := by
                    rw [List.take_add_one, List.getElem?_eq_getElem hml]
                    rfl
                  obtain ⟨y0, hy00⟩ : ∃ y0, l[m] = y0 := ⟨_, rfl⟩
                  rw [hy00] at u0 u1 u2 u3 u4 u5 htm
                  have HMM := Aside0.mk (And.intro hcm (And.intro htm hBm))
                  clear hy00 hx hml htm hcm hBm hgf
                  obtain ⟨ya, ycl, yk, yn, ys, yb⟩ := y0
                  simp only at u0 u1 u2 u3 u4 u5
                  by_cases he : ya = xa
                  · have r0 : decide (ya = xa) = true := decide_eq_true he
                    have r1 : (ya == xa) = true := beq_iff_eq.2 he
                    clear he
                    go_wp2_with fail
                    go_ret
                    exact ⟨rfl, HMM.out.2.2.trans ((below_alloc (Below.refl _ _) _).mono HMM.out.2.2.size)⟩
                  · have r0 : decide (ya = xa) = false := decide_eq_false he
                    have r1 : (ya == xa) = false := beq_eq_false_iff_ne.2 he
                    have HE := Aside0.mk he
                    clear he
                    go_wp2_with fail
                    go_roundg (n - (m + 1))
                    case measure => have h1 := HM.out.1; have h2 := HMM.out.1; omega
                    case rel => exact ⟨m + 1, by first | rfl | go_num, ⟨rfl, HMM.out.1, by rw [HMM.out.2.1]; intro y hy; rcases List.mem_append.1 hy with hy | hy; (exact HM.out.2.2.1 y hy); (rw [List.mem_singleton.1 hy]; exact HE.out), HM.out.2.2.2.trans ((below_alloc (Below.refl _ _) _).mono HM.out.2.2.2.size)⟩⟩
                · have hmn : m = n := by have := HM.out.2.1; omega
                  have b00 : decide ((m : Int) < (n : Int)) = false := decide_eq_false (by omega)
                  have b1 : decide (m < n) = false := decide_eq_false hcm
                  have hdis := HM.out.2.2.1
                  rw [hmn] at hdis
                  have p1 : wr.cell? ⟨gf, 1, none⟩ = some (.int .i64 xcl) := (blk_cell hgf 1).trans rfl
                  have p2 : wr.cell? ⟨gf, 2, none⟩ = some (.int .i64 2) := (blk_cell hgf 2).trans rfl
                  have p3 : wr.cell? ⟨gf, 3, none⟩ = some (.int .u64 xn) := (blk_cell hgf 3).trans rfl
                  have p4 : wr.cell? ⟨gf, 4, none⟩ = some (.string xs) := (blk_cell hgf 4).trans rfl
                  have p5 : wr.cell? ⟨gf, 5, none⟩ = some (.slice A5 xb.length c5) := (blk_cell hgf 5).trans rfl
                  have HMM := Aside0.mk (And.intro hdis hBm)
                  clear hcm hmn hdis hgf hBm
                  by_cases he : xa = a
                  · have r0 : decide (xa = a) = true := decide_eq_true he
                    have r1 : (xa == a) = true := beq_iff_eq.2 he
                    have hwn : wanted a (l.take n) = none := by
                      unfold wanted
                      rw [List.find?_eq_none]
                      intro y hy
                      have := HMM.out.1 y hy
                      rw [he] at this
                      simpa using this
                    obtain ⟨cs, hg0, hcs⟩ := H7.out.2.1
                    rw [hwn] at hcs
                    cases hcs
                    have hg1 := (HM.out.2.2.2.block _ (blk_lt hg0)).trans hg0
                    have s0 : wr.cell? ⟨gw, 0, none⟩ = some (.int .i64 0) := (blk_cell hg1 0).trans rfl
                    have s1 : wr.cell? ⟨gw, 1, none⟩ = some (.int .i64 0) := (blk_cell hg1 1).trans rfl
                    have s2 : wr.cell? ⟨gw, 2, none⟩ = some (.int .u64 0) := (blk_cell hg1 2).trans rfl
                    have s3 : wr.cell? ⟨gw, 3, none⟩ = some (.string ⟨#[]⟩) := (blk_cell hg1 3).trans rfl
                    have s4 : wr.cell? ⟨gw, 4, none⟩ = some (.slice none 0 0) := (blk_cell hg1 4).trans rfl
                    have z0 := blk_frozen hg1 0
                    have z1 := blk_frozen hg1 1
                    have z2 := blk_frozen hg1 2
                    have z3 := blk_frozen hg1 3
                    have z4 := blk_frozen hg1 4
                    have HE := Aside0.mk (And.intro he hg1)
                    clear he hwn hg0 hg1
                    go_wp2_with fail
                    go_roundg (l.length - (n + 1))
                    case measure => have h1 := HL.out.1; have h2 := HH.out.1; omega
                    case rel => exact ⟨true, n + 1, rfl, by first | rfl | go_num, ⟨rfl, HH.out.1, by
                      rw [HH.out.2.1]
                      unfold Sofar
                      rw [wanted_snoc_some HE.out.1 HMM.out.1]
                      refine ⟨fun y hy => ?_, rfl, ⟨_, set5 HE.out.2 _ _ _ _ _, ⟨_, _, rfl⟩⟩, ?_⟩
                      · rcases List.mem_append.1 hy with hy | hy
                        · exact HL.out.2.2.1 y hy
                        · rw [List.mem_singleton.1 hy]
                          exact HFX.out
                      · repeat (first | (with_reducible exact HMM.out.2) | refine below_set ?_ HG.out)⟩⟩
                  · have r0 : decide (xa = a) = false := decide_eq_false he
                    have r1 : (xa == a) = false := beq_eq_false_iff_ne.2 he
                    have HE := Aside0.mk he
                    clear he
                    go_wp2_with fail
                    go_roundg (l.length - (n + 1))
                    case measure => have h1 := HL.out.1; have h2 := HH.out.1; omega
                    case rel => exact ⟨ok, n + 1, rfl, by first | rfl | go_num, ⟨rfl, HH.out.1, by
                      rw [HH.out.2.1]
                      unfold Sofar
                      rw [wanted_snoc_none HE.out]
                      obtain ⟨cs, hg0, hcs⟩ := H7.out.2.1
                      refine ⟨fun y hy => ?_, HL.out.2.2.2.1, ⟨cs, (HM.out.2.2.2.block _ (blk_lt hg0)).trans hg0, hcs⟩, HMM.out.2⟩
                      rcases List.mem_append.1 hy with hy | hy
                      · exact HL.out.2.2.1 y hy
                      · rw [List.mem_singleton.1 hy]
                        exact HFX.out⟩⟩
            · go_wp2_with fail
              clear t0 t1 t2 t3 t4 t5
              have H7 : Aside0 ((wr.alloc (.cells #[.int .i64 xa, .int .i64 xcl, .int .i64 4, .int .u64 xn, .string xs, .slice A5 xb.length c5] 45)).heap[wr.heap.size]? = some (.cells #[.int .i64 xa, .int .i64 xcl, .int .i64 4, .int .u64 xn, .string xs, .slice A5 xb.length c5] 45 (0, 0)) ∧ (∃ cs, (wr.alloc (.cells #[.int .i64 xa, .int .i64 xcl, .int .i64 4, .int .u64 xn, .string xs, .slice A5 xb.length c5] 45)).heap[gw]? = some (.cells cs 43 (0, 0)) ∧ WantCells (wanted a (l.take n)) cs) ∧ Below w.heap.size w (wr.alloc (.cells #[.int .i64 xa, .int .i64 xcl, .int .i64 4, .int .u64 xn, .string xs, .slice A5 xb.length c5] 45)) ∧ gw < wr.heap.size) := by
                have hal : Below wr.heap.size wr (wr.alloc (.cells #[.int .i64 xa, .int .i64 xcl, .int .i64 4, .int .u64 xn, .string xs, .slice A5 xb.length c5] 45)) := below_alloc (Below.refl _ _) _
                obtain ⟨cs, hg, hcs⟩ := HH.out.2.2
                exact ⟨heap_alloc_new wr _, ⟨cs, (hal.block _ (blk_lt hg)).trans hg, hcs⟩, HL.out.2.2.2.2.2.trans (hal.mono HL.out.2.2.2.2.2.size), blk_lt hg⟩
              revert H7
              generalize (wr.alloc (.cells #[.int .i64 xa, .int .i64 xcl, .int .i64 4, .int .u64 xn, .string xs, .slice A5 xb.length c5] 45)) = w7
              generalize wr.heap.size = gf
              intro H7
              go_loopg [59] n (fun kq v59 w' => ∃ m : Nat, v59 = .int .i64 (m : Int) ∧ Aside0 (kq = n - m ∧ m ≤ n ∧ (∀ y ∈ l.take m, y.f0 ≠ xa) ∧ Below w7.heap.size w7 w'))
              case atStart => exact ⟨0, rfl, ⟨by simp, Nat.zero_le _, by simp, Below.refl _ _⟩⟩
              case round =>
                obtain ⟨m, rfl, HM⟩ := hrel
                have f7 : IntKind.i64.wrap ((m : Int) + 1) = ((m + 1 : Nat) : Int) := by
                  have h1 := HM.out.2.1
                  have h2 := HA.out.1
                  have h3 := HH.out.1
                  rw [IntKind.wrap_i64]
                  omega
                have hBm := H7.out.2.2.1.trans (HM.out.2.2.2.mono H7.out.2.2.1.size)
                have hgf := (HM.out.2.2.2.block _ (blk_lt H7.out.1)).trans H7.out.1
                have p0 : wr.cell? ⟨gf, 0, none⟩ = some (.int .i64 xa) := (blk_cell hgf 0).trans rfl
                have n1 : gf < wr.heap.size := blk_lt hgf
                by_cases hcm : m < n
                · have b00 : decide ((m : Int) < (n : Int)) = true := decide_eq_true (by omega)
                  have b1 : decide (m < n) = true := decide_eq_true hcm
                  have d5 : (0 : Int) ≤ (m : Int) := by omega
                  have d6 : (m : Int) < (n : Int) := by omega
                  have hml : m < l.length := by have := HH.out.1; omega
                  obtain ⟨ad', A6, c6, eA, u0, u1, u2, u3, u4, u5, _, _⟩ := at_T45 (Kd.C_below HX.out.1 hBm) (m : Int) (by omega) (by omega)
                  cases eA
                  have hx : rd_T45 l (m : Int) = l[m] := by
                    unfold rd_T45
                    rw [Int.toNat_natCast, List.getD_eq_getElem?_getD, List.getElem?_eq_getElem hml]
                    rfl
                  rw [hx] at u0 u1 u2 u3 u4 u5
                  rw [Int.toNat_natCast] at u0 u1 u2 u3 u4 u5
                  have htm : l.take (m + 1) = l.take m ++ [l[m]] := by
                    rw [List.take_add_one, List.getElem?_eq_getElem hml]
                    rfl
                  obtain ⟨y0, hy00⟩ : ∃ y0, l[m] = y0 := ⟨_, rfl⟩
                  rw [hy00] at u0 u1 u2 u3 u4 u5 htm
                  have HMM := Aside0.mk (And.intro hcm (And.intro htm hBm))
                  clear hy00 hx hml htm hcm hBm hgf
                  obtain ⟨ya, ycl, yk, yn, ys, yb⟩ := y0
                  simp only at u0 u1 u2 u3 u4 u5
                  by_cases he : ya = xa
                  · have r0 : decide (ya = xa) = true := decide_eq_true he
                    have r1 : (ya == xa) = true := beq_iff_eq.2 he
                    clear he
                    go_wp2_with fail
                    go_ret
                    exact ⟨rfl, HMM.out.2.2.trans ((below_alloc (Below.refl _ _) _).mono HMM.out.2.2.size)⟩
                  · have r0 : decide (ya = xa) = false := decide_eq_false he
                    have r1 : (ya == xa) = false := beq_eq_false_iff_ne.2 he
                    have HE := Aside0.mk he
                    clear he
                    go_wp2_with fail
                    go_roundg (n - (m + 1))
                    case measure => have h1 := HM.out.1; have h2 := HMM.out.1; omega
                    case rel => exact ⟨m + 1, by first | rfl | go_num, ⟨rfl, HMM.out.1, by rw [HMM.out.2.1]; intro y hy; rcases List.mem_append.1 hy with hy | hy; (exact HM.out.2.2.1 y hy); (rw [List.mem_singleton.1 hy]; exact HE.out), HM.out.2.2.2.trans ((below_alloc (Below.refl _ _) _).mono HM.out.2.2.2.size)⟩⟩
                · have hmn : m = n := by have := HM.out.2.1; omega
                  have b00 : decide ((m : Int) < (n : Int)) = false := decide_eq_false (by omega)
                  have b1 : decide (m < n) = false := decide_eq_false hcm
                  have hdis := HM.out.2.2.1
                  rw [hmn] at hdis
                  have p1 : wr.cell? ⟨gf, 1, none⟩ = some (.int .i64 xcl) := (blk_cell hgf 1).trans rfl
                  have p2 : wr.cell? ⟨gf, 2, none⟩ = some (.int .i64 4) := (blk_cell hgf 2).trans rfl
                  have p3 : wr.cell? ⟨gf, 3, none⟩ = some (.int .u64 xn) := (blk_cell hgf 3).trans rfl
                  have p4 : wr.cell? ⟨gf, 4, none⟩ = some (.string xs) := (blk_cell hgf 4).trans rfl
                  have p5 : wr.cell? ⟨gf, 5, none⟩ = some (.slice A5 xb.length c5) := (blk_cell hgf 5).trans rfl
                  have HMM := Aside0.mk (And.intro hdis hBm)
                  clear hcm hmn hdis hgf hBm
                  by_cases he : xa = a
                  · have r0 : decide (xa = a) = true := decide_eq_true he
                    have r1 : (xa == a) = true := beq_iff_eq.2 he
                    have hwn : wanted a (l.take n) = none := by
                      unfold wanted
                      rw [List.find?_eq_none]
                      intro y hy
                      have := HMM.out.1 y hy
                      rw [he] at this
                      simpa using this
                    obtain ⟨cs, hg0, hcs⟩ := H7.out.2.1
                    rw [hwn] at hcs
                    cases hcs
                    have hg1 := (HM.out.2.2.2.block _ (blk_lt hg0)).trans hg0
                    have s0 : wr.cell? ⟨gw, 0, none⟩ = some (.int .i64 0) := (blk_cell hg1 0).trans rfl
                    have s1 : wr.cell? ⟨gw, 1, none⟩ = some (.int .i64 0) := (blk_cell hg1 1).trans rfl
                    have s2 : wr.cell? ⟨gw, 2, none⟩ = some (.int .u64 0) := (blk_cell hg1 2).trans rfl
                    have s3 : wr.cell? ⟨gw, 3, none⟩ = some (.string ⟨#[]⟩) := (blk_cell hg1 3).trans rfl
                    have s4 : wr.cell? ⟨gw, 4, none⟩ = some (.slice none 0 0) := (blk_cell hg1 4).trans rfl
                    have z0 := blk_frozen hg1 0
                    have z1 := blk_frozen hg1 1
                    have z2 := blk_frozen hg1 2
                    have z3 := blk_frozen hg1 3
                    have z4 := blk_frozen hg1 4
                    have HE := Aside0.mk (And.intro he hg1)
                    clear he hwn hg0 hg1
                    go_wp2_with fail
                    go_roundg (l.length - (n + 1))
                    case measure => have h1 := HL.out.1; have h2 := HH.out.1; omega
                    case rel => exact ⟨true, n + 1, rfl, by first | rfl | go_num, ⟨rfl, HH.out.1, by
                      rw [HH.out.2.1]
                      unfold Sofar
                      rw [wanted_snoc_some HE.out.1 HMM.out.1]
                      refine ⟨fun y hy => ?_, rfl, ⟨_, set5 HE.out.2 _ _ _ _ _, ⟨_, _, rfl⟩⟩, ?_⟩
                      · rcases List.mem_append.1 hy with hy | hy
                        · exact HL.out.2.2.1 y hy
                        · rw [List.mem_singleton.1 hy]
                          exact HFX.out
                      · repeat (first | (with_reducible exact HMM.out.2) | refine below_set ?_ HG.out)⟩⟩
                  · have r0 : decide (xa = a) = false := decide_eq_false he
                    have r1 : (xa == a) = false := beq_eq_false_iff_ne.2 he
                    have HE := Aside0.mk he
                    clear he
                    go_wp2_with fail
                    go_roundg (l.length - (n + 1))
                    case measure => have h1 := HL.out.1; have h2 := HH.out.1; omega
                    case rel => exact ⟨ok, n + 1, rfl, by first | rfl | go_num, ⟨rfl, HH.out.1, by
                      rw [HH.out.2.1]
                      unfold Sofar
                      rw [wanted_snoc_none HE.out]
                      obtain ⟨cs, hg0, hcs⟩ := H7.out.2.1
                      refine ⟨fun y hy => ?_, HL.out.2.2.2.1, ⟨cs, (HM.out.2.2.2.block _ (blk_lt hg0)).trans hg0, hcs⟩, HMM.out.2⟩
                      rcases List.mem_append.1 hy with hy | hy
                      · exact HL.out.2.2.1 y hy
                      · rw [List.mem_singleton.1 hy]
                        exact HFX.out⟩⟩
          · have HBx := Aside0.mk HL.out.2.2.2.2.2
            by_cases c2 : xa < 0
            · have e1 : decide (xa < 0) = true := decide_eq_true c2
              clear hfx c2
              go_wp2_with fail
              go_ret
              exact ⟨rfl, HBx.out.trans ((below_alloc (Below.refl _ _) _).mono HBx.out.size)⟩
            · have e1 : decide (xa < 0) = false := decide_eq_false c2
              by_cases c3 : xa > 2147483648
              · have e2 : decide (xa > 2147483648) = true := decide_eq_true c3
                have e3 : decide (2147483648 < xa) = true := decide_eq_true c3
                clear hfx c2 c3
                go_wp2_with fail
                go_ret
                exact ⟨rfl, HBx.out.trans ((below_alloc (Below.refl _ _) _).mono HBx.out.size)⟩
              · have e2 : decide (xa > 2147483648) = false := decide_eq_false c3
                have e3 : decide (2147483648 < xa) = false := decide_eq_false c3
                have k1 : xk ≠ 2 := fun h => hfx ⟨by omega, by omega, .inl h⟩
                have k2 : xk ≠ 4 := fun h => hfx ⟨by omega, by omega, .inr h⟩
                have e4 : (xk != 2) = true := by simpa using k1
                have e5 : (xk != 4) = true := by simpa using k2
                have e6 : decide (xk = 2) = false := decide_eq_false k1
                have e7 : decide (xk = 4) = false := decide_eq_false k2
                clear hfx c2 c3 k1 k2
                go_wp2_with fail
                go_ret
                exact ⟨rfl, HBx.out.trans ((below_alloc (Below.refl _ _) _).mono HBx.out.size)⟩
        · have hn : n = l.length := by have := HL.out.2.1; omega
          have c00 : decide ((n : Int) < (l.length : Int)) = false := decide_eq_false (by omega)
          have c1 : decide (n < l.length) = false := decide_eq_false hc
          obtain ⟨_, _, hL⟩ := HL.out
          rw [hn, List.take_length] at hL
          obtain ⟨hfit, hok, ⟨cs, hg, hcs⟩, hB⟩ := hL
          have HV := Aside0.mk (val_walk a l wr (Kd.C_below HX.out.1 hB) HX.out.2.1 (by have := HA.out.1; omega))
          have hfw := first_wanted HA.out.2.1 HA.out.2.2 l hfit
          rw [hfw] at HV
          have HBx := Aside0.mk hB
          clear hfw hn hc hB
          rcases hw : wanted a l with _ | x
          · rw [hw] at hok hcs HV
            cases hcs
            cases hok
            have HG2 := Aside0.mk hg
            clear hw hg hfit
            go_wp2_with fail
            refine HV.out.mono ?_
            rintro e w3 ⟨rfl, hb⟩
            have hg3 := (hb.block _ (blk_lt HG2.out)).trans HG2.out
            have s0 : w3.cell? ⟨gw, 0, none⟩ = some (.int .i64 0) := (blk_cell hg3 0).trans rfl
            have n1 : gw < w3.heap.size := blk_lt hg3
            have HB3 := Aside0.mk (HBx.out.trans (hb.mono HBx.out.size))
            clear hb HV hg3
            simp only [Option.map_none, valRes, zeroV]
            go_wp2_with fail
            go_ret
            exact ⟨rfl, HB3.out.trans ((below_alloc (Below.refl _ _) _).mono HB3.out.size)⟩
          · have hxm : x ∈ l := List.mem_of_find?_eq_some hw
            have hfx := hfit x hxm
            have hnx := HX.out.2.2 x hxm
            rw [hw] at hok hcs HV
            obtain ⟨Ax, cx, rfl⟩ := hcs
            cases hok
            have HG2 := Aside0.mk hg
            clear hw hg hfit hxm
            obtain ⟨xa, xcl, xk, xn, xs, xb⟩ := x
            simp only at hnx
            have hwr : IntKind.u64.wrap (wrap64 xn) = xn := by
              unfold wrap64
              have hz : ∀ z : Int, IntKind.u64.wrap z = z % 18446744073709551616 := fun _ => rfl
              rw [hz]
              omega
            have i0 : (xcl != xcl) = false := by simp
            have i1 : (xn == xn) = true := by simp
            rcases hfx.2.2 with hk | hk
            · subst hk
              clear hfx hnx
              go_wp2_with fail
              refine HV.out.mono ?_
              rintro e w3 ⟨rfl, hb⟩
              have hg3 := (hb.block _ (blk_lt HG2.out)).trans HG2.out
              have s0 : w3.cell? ⟨gw, 0, none⟩ = some (.int .i64 xcl) := (blk_cell hg3 0).trans rfl
              have s1 : w3.cell? ⟨gw, 1, none⟩ = some (.int .i64 2) := (blk_cell hg3 1).trans rfl
              have s2 : w3.cell? ⟨gw, 2, none⟩ = some (.int .u64 xn) := (blk_cell hg3 2).trans rfl
              have s3 : w3.cell? ⟨gw, 3, none⟩ = some (.string xs) := (blk_cell hg3 3).trans rfl
              have n1 : gw < w3.heap.size := blk_lt hg3
              have HB3 := Aside0.mk (HBx.out.trans (hb.mono HBx.out.size))
              clear hb HV hg3
              have hv : valRes (Option.map fld (some ⟨xa, xcl, 2, xn, xs, xb⟩)) = .tuple #[.agg #[.int .i64 xcl, .int .i64 2, .int .u64 (IntKind.u64.wrap (wrap64 xn)), .string ⟨#[]⟩, .slice none 0 0], .bool true] := by
                simp only [Option.map_some, fld, fvOf]
                rfl
              rw [hv]
              clear hv
              rw [hwr]
              go_wp2_with fail
              go_ret
              exact ⟨rfl, HB3.out.trans ((below_alloc (Below.refl _ _) _).mono HB3.out.size)⟩
            · subst hk
              clear hfx hnx
              go_wp2_with fail
              refine HV.out.mono ?_
              rintro e w3 ⟨rfl, hb⟩
              have hg3 := (hb.block _ (blk_lt HG2.out)).trans HG2.out
              have s0 : w3.cell? ⟨gw, 0, none⟩ = some (.int .i64 xcl) := (blk_cell hg3 0).trans rfl
              have s1 : w3.cell? ⟨gw, 1, none⟩ = some (.int .i64 4) := (blk_cell hg3 1).trans rfl
              have s2 : w3.cell? ⟨gw, 2, none⟩ = some (.int .u64 xn) := (blk_cell hg3 2).trans rfl
              have s3 : w3.cell? ⟨gw, 3, none⟩ = some (.string xs) := (blk_cell hg3 3).trans rfl
              have n1 : gw < w3.heap.size := blk_lt hg3
              have HB3 := Aside0.mk (HBx.out.trans (hb.mono HBx.out.size))
              clear hb HV hg3
              have hv : valRes (Option.map fld (some ⟨xa, xcl, 4, xn, xs, xb⟩)) = .tuple #[.agg #[.int .i64 xcl, .int .i64 4, .int .u64 0, .string xs, .slice none 0 0], .bool true] := by
                simp only [Option.map_some, fld, fvOf]
                rfl
              rw [hv]
              clear hv
              go_wp2_with fail
              go_ret
              exact ⟨rfl, HB3.out.trans ((below_alloc (Below.refl _ _) _).mono HB3.out.size)⟩
end Go.Proofs.Ytepealmdnaondaa.Ev
