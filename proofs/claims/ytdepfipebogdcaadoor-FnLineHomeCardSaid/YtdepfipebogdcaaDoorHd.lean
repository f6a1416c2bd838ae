/- Texts of this session, joined: LNewA, LAppNB, GIdx, PPthx0, PPthx1, PPthx2, PPthx3, Paths, Joins, GSteps, PLspecIsName, GRows, LOps, LPlain, LRun, Digits, LSay, PlainF, PlainG, PlainH, GLaid, GWit. -/
import Derived.Test.YtdepfipebogdcaaDoorHc
import Derived.Test.YtdepfipebogdcaaDoorProg
import Derived.Below
import Derived.Deep.Draws
import Derived.Deep.AppendLies
import Derived.Maps.AppendAt
import Derived.OwnWalk
import Derived.Laws.BytesArg
import Derived.Laws.MakeOwn
import Derived.Laws.OwnMore
import Derived.Deep.OwnRows
import Derived.Tactics
import Derived.Lib.ConvBytes
import Derived.Laws.Slices
import Derived.WalkKit
import Derived.KernelRfl
import Derived.RowKit3
import Derived.Deep.LoopGhost
import Derived.Deep.QuietTactic
import Derived.BigQuiet
import Derived.WideLaws
import Derived.Deep.DeepCutAuto
import Derived.Deep.CutBlock
import Derived.Deep.RegionHeld3
import Derived.Laws.Rows
import Derived.Lib.AppendStr
import Derived.ArgAppend
import Derived.Laws.IdiomCopy
import Derived.OrdersHeld
import Derived.Laws.BitsLemmas
import Derived.RowKit
import Derived.Test.YtdepfipebogdcaaDoorHa
import Derived.Test.YtdepfipebogdcaaDoorHb
import Derived.Lib.Bytealg
import Derived.Laws.Externs
import Derived.Lib.Bytes
import Derived.Test.YtdepfipebogdcaaDoorShelf
import Derived.Lib.JoinFns
import Derived.Laws.CopyOwn
import Derived.Laws.Tables
import Derived.Test.YtdepfipebogdcaaDoorRows
import Derived.ProofKit
import Derived.LaidMore
import Derived.OpenShut
import Derived.Stop.Joined
import Derived.Stop.LaidErr
import Derived.WideKeyElems2
import Derived.Maps.Keyed
import Derived.Lay
set_option linter.unusedVariables false
set_option linter.unusedSimpArgs false
/- NewLineReader: a reader of a table of version 4. -/
namespace Go.Proofs.YtdepfipebogdcaaDoor.Line
set_option maxRecDepth 100000
open Go.RowKit Go.Proofs.YtdepfipebogdcaaDoorW.PrintWords Go.Proofs.YtdepfipebogdcaaDoorW.PrintLast Go.Proofs.YtdepfipebogdcaaDoorW.PrintMore Go.Proofs.YtdepfipebogdcaaDoor.Leb Go.Proofs.YtdepfipebogdcaaDoor.Buf

theorem below_row {B g : Nat} {w0 w : World} (hb : Below B w0 w) (hBg : B ≤ g) (cs : Array Value) : Below B w0 (w.setRow g cs) := ⟨hb.os, hb.tape, hb.output, by simpa using hb.size, fun k hk => (setRow_other w g k cs (by omega)).trans (hb.block k hk)⟩
theorem sizeLR : (Tryd.prog.info? 94).map (·.size) = some 38 := by kernel_rfl
theorem sizeBuf : (Tryd.prog.info? 82).map (·.size) = some 7 := by kernel_rfl
theorem makeBuf_calls (gd : Nat) (ft : Nat) (fv : Value) (nm : ByteArray) (off : Int) (A : Option Addr) (cap n : Nat) (b : Bool) (w : World) (q : w.cell? ⟨gd, 14, none⟩ = some (.bool b)) :
    Calls Tryd.prog 28 #[.pointer (some ⟨gd, 0, none⟩), .iface ft fv, .string nm, .int .u32 off, .slice A n cap] w fun e w' =>
      e = .returned (.agg #[.pointer (some ⟨gd, 0, none⟩), .bool b, .iface ft fv, .string nm, .int .u32 off, .slice A n cap, .nilIface]) ∧ Below w.heap.size w w' := by
  have n0 : gd < w.heap.size := World.block_lt_of_cell? w _ q
  go_enter Tryd.func28, Tryd.ntmps28
  go_wp2
  refine bodyPost_ret (results_cell_row rfl _ _ _ _ _ _ _ rfl (heap_alloc_new _ _) Tryd.underlying82 rfl sizeBuf) rfl ⟨rfl, below_alloc (Below.refl _ _) _⟩

theorem info5 : (Tryd.prog.info? 5).map (fun i => (i.zero, i.size, i.bytes)) = some (some (.int .u8 0), 1, 1) := by kernel_rfl
theorem copied_calls (A0 : Option Addr) (c0 : Nat) (l0 : List Int) (w : World) (hr0 : Kd.C (Kd.int .u8) w A0 l0.length l0) (h : l0.length < 140737488355328) :
    Calls Tryd.prog 25 #[.slice A0 l0.length c0] w fun e w' => ∃ v0_ : Value, e = .returned (v0_) ∧ Kd.R (Kd.int .u8) 5 w' w.heap.size (fun _ => True) v0_ l0 ∧ Below w.heap.size w w' := by
  have HR0 := Aside0.mk hr0
  have HL := Aside0.mk h
  clear hr0 h
  go_enter Tryd.func25, Tryd.ntmps25
  go_wp2_with (first | ((with_reducible refine gate_builtin (b := .append) (xs := #[.const (.slice none 0 0), .tmp 3]) rfl ?_); at_builtin; refine Kd.R_append_rows (Kd.int .u8) (w0 := w) w.heap.size rfl (.const (.slice none 0 0)) (.tmp 3) 23 5 (.int .u8 0) 1 rfl Tryd.underlying23 info5 rfl (by decide) (by omega) (.slice none 0 0) [] l0 _ _ _ (fun _ => True) (fun _ => False) rfl rfl ?aO ?aR (fun _ _ h => h) (fun _ h => h.elim) ?aF ?aB ?aS ?aL ?_; (case aR => exact HR0.out); (case aB => exact Below.refl _ _); (case aF => exact (fun _ _ => trivial)); (case aO => exact Kd.R_nil _ _ _ _ _); (case aS => exact Nat.le_refl _); (case aL => have := HL.out; simp; omega); intro v1 w1 ho hb hg hat; rw [List.nil_append] at ho; have HO := Aside0.mk ho; have HB := Aside0.mk hb; clear ho hb hg hat))
  go_ret
  exact ⟨_, rfl, HO.out, HB.out⟩

/-- The numbers of operands, as a row. -/
theorem OlAt.lies {w : World} {gb n : Nat} {tl : List Int} (h : OlAt w gb n n tl) (h1 : 1 ≤ n) (hl : n - 1 ≤ tl.length) (hn : n < 256) : Lies w 3 (Kd.int .i64) (.slice (some ⟨gb, 0, none⟩) n n) (0 :: tl.take (n - 1)) := by
  obtain ⟨cs, e, e1, _, e3, e4, _⟩ := h
  have hlen : (0 :: tl.take (n - 1)).length = n := by simp; omega
  refine ⟨some ⟨gb, 0, none⟩, n, by rw [hlen], by omega, ?_, fun ad had => ?_⟩
  · refine Kd.C_of_reads (enc := Value.int .i64) (d := (0 : Int)) (h1 := fun _ => rfl) ⟨rfl, by omega, fun hp => ⟨_, rfl, fun j hj => ?_⟩⟩
    rw [hlen] at hj
    have hc : w.cell? ((⟨gb, 0, none⟩ : Addr).add j) = cs[j]? := by
      have := blk_cell e j
      by_cases h0 : j = 0
      · subst h0
        simpa [Addr.add] using this
      · simpa [Addr.add, h0] using this
    rw [hc]
    cases j with
    | zero => rw [e3 hj]; rfl
    | succ j =>
      rw [e4 (j + 1) (by omega) hj hj]
      simp only [List.getD_cons_succ, Nat.add_sub_cancel]
      rw [List.getD_eq_getElem?_getD, List.getD_eq_getElem?_getD, List.getElem?_take, if_pos (by omega)]
  · cases had
    exact ⟨_, _, e⟩
theorem hdr4n_some {sec : List Int} {off : Nat} {asz : Int} {big : Bool} {dir : ByteArray} {k : K} {fs : List (Option Fl)} (h : hdr4n sec off asz big dir = some (k, fs)) :
    ∃ (b0 b1 b2 b3 v0 v1 h0 h1 h2 h3 mi mo ds lb lr : Int) (OB : Nat) (tl l2 : List Int) (U Hl M LN : Nat) (F : List (Option Fl)), sec.drop off = b0 :: b1 :: b2 :: b3 :: v0 :: v1 :: h0 :: h1 :: h2 :: h3 :: mi :: mo :: ds :: lb :: lr :: (OB : Int) :: tl ∧
      four big b0 b1 b2 b3 = (U : Int) ∧ U < 4294967280 ∧ two big v0 v1 = 4 ∧ four big h0 h1 h2 h3 = (Hl : Int) ∧ off + 16 + tl.length < 2147483648 ∧ 4 + U ≤ 16 + tl.length ∧ 10 + Hl ≤ 4 + U ∧ 1 ≤ mo ∧ 1 ≤ lr ∧ (1 ≤ OB ∧ OB - 1 ≤ tl.length) ∧ lensOk (0 :: tl.take (OB - 1)) = true ∧ Bytes sec ∧ tl.drop (OB - 1) = 0 :: l2 ∧ filesIn [dir] M l2 = some (F, LN) ∧
      k = ⟨sec, off + 4 + U, off + 10 + Hl, big, asz, mi, mo, ds != 0, sbyte lb, lr, (OB : Int), 0 :: tl.take (OB - 1), [dir], F.length + 1⟩ ∧ fs = none :: F := by
  unfold hdr4n at h
  split at h
  · rename_i b0 b1 b2 b3 v0 v1 h0 h1 h2 h3 mi mo ds lb lr ob tl he
    split at h
    · rename_i hc
      obtain ⟨c1, c2, c3, c4, c5, c6, c7, c8, c9, c10, c11⟩ := hc
      have hB := bytes_of_ok c11
      have hBd : Bytes (sec.drop off) := hB.drop off
      rw [he] at hBd
      have g0 := hBd b0 (by simp)
      have g1 := hBd b1 (by simp)
      have g2 := hBd b2 (by simp)
      have g3 := hBd b3 (by simp)
      have g4 := hBd h0 (by simp)
      have g5 := hBd h1 (by simp)
      have g6 := hBd h2 (by simp)
      have g7 := hBd h3 (by simp)
      have e1 := four_lt big g0 g1 g2 g3
      have e2 := four_lt big g4 g5 g6 g7
      obtain ⟨OB, rfl⟩ := Int.eq_ofNat_of_zero_le (show 0 ≤ ob by omega)
      rw [Int.toNat_natCast] at h c9 c10
      split at h
      · rename_i l2 hl2
        obtain ⟨⟨F, LN⟩, hF, h⟩ := Option.bind_eq_some_iff.1 h
        simp only [Option.some.injEq, Prod.mk.injEq] at h
        exact ⟨b0, b1, b2, b3, v0, v1, h0, h1, h2, h3, mi, mo, ds, lb, lr, OB, tl, l2, (four big b0 b1 b2 b3).toNat, (four big h0 h1 h2 h3).toNat, _, LN, F, he, by omega, c1, c2, by omega, c3, c4, c5, c6, c7, ⟨by omega, c9⟩, c10, hB, hl2, hF, h.1.symm, h.2.symm⟩
      · cases h
    · cases h
  · cases h

theorem blk_lt' {w : World} {b t : Nat} {cs : Array Value} {x : Nat × Nat} (h : w.heap[b]? = some (.cells cs t x)) : b < w.heap.size := (Array.getElem?_eq_some_iff.1 h).1
theorem PtrIs.lower {w : World} {base base' : Nat} {v : Value} {o : Option Fl} (h : PtrIs w base v o) (hb : base' ≤ base) : PtrIs w base' v o := by
  cases o with
  | none => exact h
  | some f => obtain ⟨b, e, hle, hc⟩ := h; exact ⟨b, e, Nat.le_trans hb hle, hc⟩
theorem FilesAt.lower {w : World} {base base' b cap : Nat} {fs : List (Option Fl)} (h : FilesAt w base b cap fs) (hb : base' ≤ base) : FilesAt w base' b cap fs := by
  obtain ⟨⟨cs, e1, e2, e3, e4⟩, h5, h6⟩ := h
  refine ⟨⟨cs, e1, e2, fun i hi => ?_, e4⟩, Nat.le_trans hb h5, h6⟩
  obtain ⟨v, hv, hp⟩ := e3 i hi
  exact ⟨v, hv, hp.lower hb⟩
set_option maxHeartbeats 1000000 in
theorem new4_calls {w : World} {A1 A3 : Option Addr} {c1 n3 c3 bm off : Nat} {sec : List Int} {asz : Int} {big : Bool} {dir : ByteArray} {k : K} {fs : List (Option Fl)} (hC : Kd.C (Kd.int .u8) w A1 sec.length sec) (hc : sec.length ≤ c1) (hA : ∀ ad, A1 = some ad → ∃ cs x, w.heap[ad.block]? = some (.cells cs 5 x))
    (hh : hdr4n sec off asz big dir = some (k, fs)) (hM : MapOk w bm) (hG : 2 < w.heap.size) (hnm : ∀ nm d r, nm.size < 2147483648 → nameIn [dir] nm d = some r → NameOk [dir] nm d.toNat r) :
    Calls Tryd.prog 24 #[.slice A1 sec.length c1, .slice none 0 0, .slice A3 n3 c3, .int .i64 (off : Int), .int .i64 asz, .bool big, .string dir] w fun e w' => ∃ g c, e = .returned (.tuple #[.pointer (some ⟨g, 0, none⟩), .nilIface]) ∧ HasR w' g c k (k.reset (first fs)) ∧ Below w.heap.size w w' ∧ w.heap.size ≤ c.base := by
  obtain ⟨b0, b1, b2, b3, v0, v1, h0, h1, h2, h3, mi, mo, ds, lb, lr, OB, tl, l2, U, Hl, M, LN, F, hl, e1, e2, e3, e4, e5, e6, e7, e8, e9, e10, e11, e12, e13, e14, rfl, rfl⟩ := hdr4n_some hh
  have hlen : off ≤ sec.length := by
    have := congrArg List.length hl
    simp at this
    omega
  have d0 : (0 ≤ (off : Int)) = True := eq_true (by omega)
  have d1 : off ≤ c1 := by omega
  have d2 : (off ≤ sec.length) = True := eq_true hlen
  have hlt : off < sec.length := by
    have := congrArg List.length hl
    simp at this
    omega
  have d4 : (c1 = off) = False := eq_false (by omega)
  have d3 : IntKind.u32.wrap (off : Int) = (off : Int) := by simp [IntKind.wrap, IntKind.signed, IntKind.bits]; omega
  have HX := Aside0.mk (And.intro hC (And.intro hc (And.intro hA (And.intro hM (And.intro hG hnm)))))
  have HE := Aside0.mk (And.intro e1 (And.intro e2 (And.intro e3 (And.intro e4 (And.intro e5 (And.intro e6 (And.intro e7 (And.intro e8 (And.intro e9 e10)))))))))
  have HF := Aside0.mk (And.intro e11 (And.intro e12 (And.intro e13 (And.intro e14 hl))))
  clear hh hC hc hA hM hG hnm e1 e2 e3 e4 e5 e6 e7 e8 e9 e10 e11 e12 e13 e14 hl
  go_enter Tryd.func24, Tryd.ntmps24
  go_wp2_with fail
  have hD := heap_alloc_new w (.cells #[.slice none 0 0, .slice none 0 0, .slice none 0 0, .slice none 0 0, .slice A1 sec.length c1, .slice none 0 0, .slice none 0 0, .slice none 0 0, .slice none 0 0, .slice A3 n3 c3, .slice none 0 0, .slice none 0 0, .map none, .bool big, .bool big, .slice none 0 0] 76)
  have hB := below_alloc (Below.refl w.heap.size w) (.cells #[.slice none 0 0, .slice none 0 0, .slice none 0 0, .slice none 0 0, .slice A1 sec.length c1, .slice none 0 0, .slice none 0 0, .slice none 0 0, .slice none 0 0, .slice A3 n3 c3, .slice none 0 0, .slice none 0 0, .map none, .bool big, .bool big, .slice none 0 0] 76)
  have hall := And.intro hD hB
  clear hD hB
  revert hall
  generalize w.alloc (.cells #[.slice none 0 0, .slice none 0 0, .slice none 0 0, .slice none 0 0, .slice A1 sec.length c1, .slice none 0 0, .slice none 0 0, .slice none 0 0, .slice none 0 0, .slice A3 n3 c3, .slice none 0 0, .slice none 0 0, .map none, .bool big, .bool big, .slice none 0 0] 76) = w1
  generalize hgd : w.heap.size = gd
  intro hall
  have HA := Aside0.mk hall
  have HGD := Aside0.mk hgd
  clear hall hgd
  refine (makeBuf_calls gd 85 (.agg #[.int .i64 asz]) ⟨#[108, 105, 110, 101]⟩ (off : Int) _ _ _ big w1 ((blk_cell HA.out.1 14).trans rfl)).mono ?_
  rintro e w2 ⟨rfl, hb⟩
  have HB := Aside0.mk hb
  clear hb
  go_wp2_with ((refine wpList_store_row ?a0 94 (.tmp 17) (.tmp 40) ?a1 w2.heap.size #[.pointer (some ⟨gd, 0, none⟩), .bool big, .iface 85 (.agg #[.int .i64 asz]), .string ⟨#[108, 105, 110, 101]⟩, .int .u32 (off : Int), .slice (A1.map (·.add off)) (sec.length - off) (c1 - off), .nilIface, .slice A1 sec.length c1, .slice none 0 0, .slice A3 n3 c3, .int .u16 0, .int .i64 0, .int .i64 0, .int .i64 0, .int .i64 0, .bool false, .int .i64 0, .int .i64 0, .int .i64 0, .slice none 0 0, .slice none 0 0, .slice none 0 0, .int .u32 0, .int .u32 0, .int .i64 0, .int .u64 0, .int .i64 0, .pointer none, .int .i64 0, .int .i64 0, .bool false, .bool false, .bool false, .bool false, .int .i64 0, .int .i64 0, .bool false, .int .i64 0] ?a2 ?a3 94 _ (heap_alloc_new _ _) sizeLR ?a4 ?a5 ?_); (case a0 => rfl); (case a1 => rfl); (case a2 => rfl); (case a3 => rfl); (case a4 => rfl); (case a5 => simp [Value.oneCell']))
  have hall := And.intro (setRow_heap _ w2.heap.size _ #[.pointer (some ⟨gd, 0, none⟩), .bool big, .iface 85 (.agg #[.int .i64 asz]), .string ⟨#[108, 105, 110, 101]⟩, .int .u32 (off : Int), .slice (A1.map (·.add off)) (sec.length - off) (c1 - off), .nilIface, .slice A1 sec.length c1, .slice none 0 0, .slice A3 n3 c3, .int .u16 0, .int .i64 0, .int .i64 0, .int .i64 0, .int .i64 0, .bool false, .int .i64 0, .int .i64 0, .int .i64 0, .slice none 0 0, .slice none 0 0, .slice none 0 0, .int .u32 0, .int .u32 0, .int .i64 0, .int .u64 0, .int .i64 0, .pointer none, .int .i64 0, .int .i64 0, .bool false, .bool false, .bool false, .bool false, .int .i64 0, .int .i64 0, .bool false, .int .i64 0] _ _ (heap_alloc_new w2 (.cells #[.pointer none, .bool false, .nilIface, .string ⟨#[]⟩, .int .u32 0, .slice none 0 0, .nilIface, .slice none 0 0, .slice none 0 0, .slice none 0 0, .int .u16 0, .int .i64 0, .int .i64 0, .int .i64 0, .int .i64 0, .bool false, .int .i64 0, .int .i64 0, .int .i64 0, .slice none 0 0, .slice none 0 0, .slice none 0 0, .int .u32 0, .int .u32 0, .int .i64 0, .int .u64 0, .int .i64 0, .pointer none, .int .i64 0, .int .i64 0, .bool false, .bool false, .bool false, .bool false, .int .i64 0, .int .i64 0, .bool false, .int .i64 0] 94))) (below_row (below_alloc (Below.refl w2.heap.size w2) (.cells #[.pointer none, .bool false, .nilIface, .string ⟨#[]⟩, .int .u32 0, .slice none 0 0, .nilIface, .slice none 0 0, .slice none 0 0, .slice none 0 0, .int .u16 0, .int .i64 0, .int .i64 0, .int .i64 0, .int .i64 0, .bool false, .int .i64 0, .int .i64 0, .int .i64 0, .slice none 0 0, .slice none 0 0, .slice none 0 0, .int .u32 0, .int .u32 0, .int .i64 0, .int .u64 0, .int .i64 0, .pointer none, .int .i64 0, .int .i64 0, .bool false, .bool false, .bool false, .bool false, .int .i64 0, .int .i64 0, .bool false, .int .i64 0] 94)) (Nat.le_refl _) #[.pointer (some ⟨gd, 0, none⟩), .bool big, .iface 85 (.agg #[.int .i64 asz]), .string ⟨#[108, 105, 110, 101]⟩, .int .u32 (off : Int), .slice (A1.map (·.add off)) (sec.length - off) (c1 - off), .nilIface, .slice A1 sec.length c1, .slice none 0 0, .slice A3 n3 c3, .int .u16 0, .int .i64 0, .int .i64 0, .int .i64 0, .int .i64 0, .bool false, .int .i64 0, .int .i64 0, .int .i64 0, .slice none 0 0, .slice none 0 0, .slice none 0 0, .int .u32 0, .int .u32 0, .int .i64 0, .int .u64 0, .int .i64 0, .pointer none, .int .i64 0, .int .i64 0, .bool false, .bool false, .bool false, .bool false, .int .i64 0, .int .i64 0, .bool false, .int .i64 0])
  revert hall
  generalize (w2.alloc (.cells #[.pointer none, .bool false, .nilIface, .string ⟨#[]⟩, .int .u32 0, .slice none 0 0, .nilIface, .slice none 0 0, .slice none 0 0, .slice none 0 0, .int .u16 0, .int .i64 0, .int .i64 0, .int .i64 0, .int .i64 0, .bool false, .int .i64 0, .int .i64 0, .int .i64 0, .slice none 0 0, .slice none 0 0, .slice none 0 0, .int .u32 0, .int .u32 0, .int .i64 0, .int .u64 0, .int .i64 0, .pointer none, .int .i64 0, .int .i64 0, .bool false, .bool false, .bool false, .bool false, .int .i64 0, .int .i64 0, .bool false, .int .i64 0] 94)).setRow w2.heap.size #[.pointer (some ⟨gd, 0, none⟩), .bool big, .iface 85 (.agg #[.int .i64 asz]), .string ⟨#[108, 105, 110, 101]⟩, .int .u32 (off : Int), .slice (A1.map (·.add off)) (sec.length - off) (c1 - off), .nilIface, .slice A1 sec.length c1, .slice none 0 0, .slice A3 n3 c3, .int .u16 0, .int .i64 0, .int .i64 0, .int .i64 0, .int .i64 0, .bool false, .int .i64 0, .int .i64 0, .int .i64 0, .slice none 0 0, .slice none 0 0, .slice none 0 0, .int .u32 0, .int .u32 0, .int .i64 0, .int .u64 0, .int .i64 0, .pointer none, .int .i64 0, .int .i64 0, .bool false, .bool false, .bool false, .bool false, .int .i64 0, .int .i64 0, .bool false, .int .i64 0] = w3
  generalize hgg : w2.heap.size = g
  intro hall
  have hgd := HGD.out
  have hB12 := HB.out
  have hB02 := (hgd ▸ HA.out.2 : Below w.heap.size w w1).trans (hB12.mono (hgd ▸ HA.out.2.size))
  have hB3 : Below w.heap.size w w3 := hB02.trans ((hgg ▸ hall.2 : Below w2.heap.size w2 w3).mono hB02.size)
  have hgw : w.heap.size ≤ g := hgg ▸ hB02.size
  have hCd : Kd.C (Kd.int .u8) w3 (A1.map (·.add off)) (sec.drop off).length (sec.drop off) := by
    have h := Kd.C_drop (c := c1) (m := off) (Kd.C_below HX.out.1 hB3) hlen HX.out.2.1
    rw [if_neg (by rw [d4]; exact not_false)] at h
    simpa [Kd.int, Kd.scalar] using h
  have hlS : (sec.drop off).length = sec.length - off := by simp
  have hlt2 : sec.length < 2147483648 := by have h1 := HE.out.2.2.2.2.1; have h2 := congrArg List.length HF.out.2.2.2.2; simp at h2; omega
  have hBd : Bytes (sec.drop off) := HF.out.2.1.drop off
  have hHas : Has w3 g 94 (hr (.slice A1 sec.length c1) (.slice none 0 0) (.slice A3 n3 c3) 0 0 0 0 0 false 0 0 0 (.slice none 0 0) (.slice none 0 0) (.slice none 0 0) 0 0 0) ⟨.pointer (some ⟨gd, 0, none⟩), big, .iface 85 (.agg #[.int .i64 asz]), ⟨#[108, 105, 110, 101]⟩⟩ ⟨(off : Int), sec.drop off, true⟩ := by
    refine ⟨⟨_, c1 - off, .nilIface, ?_, hCd, by rw [hlS]; have := HX.out.2.1; omega, rfl⟩, by rw [hlS]; omega, hBd, fun h => by cases h⟩
    rw [hall.1]
    simp [cellsOf]
  rw [HF.out.2.2.2.2] at hHas
  have hMP : MapOk w3 bm := ⟨(hB3.cell (p := ⟨2, 0, none⟩) HX.out.2.2.2.2.1).trans HX.out.2.2.2.1.glob, Nat.lt_of_lt_of_le HX.out.2.2.2.1.lt hB3.size, fun w' h => HX.out.2.2.2.1.run w' (h.trans (hB3.block bm HX.out.2.2.2.1.lt))⟩
  have hck : ∀ j m, 1 ≤ j → j < OB → known j = some m → tl.getD (j - 1) 0 = m := by
    intro j m h1 h2 h3
    have hl := HF.out.1
    unfold lensOk at hl
    have hlen2 : (0 :: tl.take (OB - 1)).length = OB := by have := HE.out.2.2.2.2.2.2.2.2.2; simp; omega
    have := List.all_eq_true.1 hl j (by rw [hlen2]; exact List.mem_range.2 h2)
    rw [h3] at this
    simp only [beq_iff_eq] at this
    rw [← this]
    obtain ⟨j, rfl⟩ : ∃ i, j = i + 1 := ⟨j - 1, by omega⟩
    rw [List.getD_cons_succ, Nat.add_sub_cancel, List.getD_eq_getElem?_getD, List.getD_eq_getElem?_getD, List.getElem?_take, if_pos (by omega)]
  have HU := Aside0.mk (hdr4n_calls (dir := dir) rfl hHas ⟨rfl, rfl, rfl⟩ ⟨rfl, rfl⟩ HE.out.1 HE.out.2.1 HE.out.2.2.1 HE.out.2.2.2.1 HE.out.2.2.2.2.1 HE.out.2.2.2.2.2.1 HE.out.2.2.2.2.2.2.1 HE.out.2.2.2.2.2.2.2.1 HE.out.2.2.2.2.2.2.2.2.1 HE.out.2.2.2.2.2.2.2.2.2 hck HF.out.2.2.1 HF.out.2.2.2.1 HX.out.2.2.2.2.2 ⟨hMP, by have := HX.out.2.2.2.2.1; omega, by have := HX.out.2.2.2.1.lt; omega⟩)
  have H3 := Aside0.mk (And.intro hB3 (And.intro hgw (And.intro hlt2 hHas.blk)))
  clear hall hgd hB12 hB02 hB3 hgw hCd hlS hlt2 hBd hHas hMP hck hgg
  refine HU.out.mono ?_
  rintro e w4 ⟨rfl, gb, gd2, b, cap, S0, hH, hok, hK, hF, hO, hDr⟩
  rw [Nat.add_comm 1 F.length] at hH
  have H4 := Aside0.mk (And.intro hH (And.intro hok (And.intro hK (And.intro hF (And.intro hO hDr)))))
  clear hH hok hK hF hO hDr HU
  go_wp2_with fail
  have hgw := H3.out.2.1
  have hb8 := HF.out.2.1
  have hbd : Bytes (sec.drop off) := hb8.drop off
  rw [HF.out.2.2.2.2] at hbd
  have hk : KOk ⟨sec, off + 4 + U, off + 10 + Hl, big, asz, mi, mo, ds != 0, sbyte lb, lr, (OB : Int), 0 :: tl.take (OB - 1), [dir], F.length + 1⟩ := by
    have g1 := hbd mi (by simp)
    have g2 := hbd mo (by simp)
    have g3 := hbd lb (by simp)
    have g4 := hbd lr (by simp)
    have g5 := hbd (OB : Int) (by simp)
    have e1 := HE.out.2.2.2.2.2.2.2.1
    have e2 := HE.out.2.2.2.2.2.2.2.2.1
    have e3 := HE.out.2.2.2.2.2.2.2.2.2
    have e4 : -128 ≤ sbyte lb ∧ sbyte lb < 128 := by unfold sbyte; split <;> omega
    exact ⟨g1.1, g1.2, e1, g2.2, e4.1, e4.2, e2, g4.2, g5.1, g5.2, by simp; omega, hb8⟩
  have hkp := H4.out.2.2.1
  have hsl : Lies w3 5 (Kd.int .u8) (.slice A1 sec.length c1) sec := ⟨A1, c1, rfl, HX.out.2.1, Kd.C_below HX.out.1 H3.out.1, fun ad had => by
    obtain ⟨cs, x, h⟩ := HX.out.2.2.1 ad had
    exact ⟨cs, x, (H3.out.1.block ad.block (blk_lt' h)).trans h⟩⟩
  obtain ⟨cg, hg3⟩ := H3.out.2.2.2
  have hs4 : Lies w4 5 (Kd.int .u8) (.slice A1 sec.length c1) sec := hsl.kx (base := w.heap.size) (fun _ _ _ _ h => h) (Kx.of_Kp (ge := g) hkp) (ne_blk hg3 (by decide)) (ne_blk hg3 (by decide)) (by decide)
  have hF4 := H4.out.2.2.2.1.lower H3.out.1.size
  have hRS := reset_calls (c := ⟨⟨.pointer (some ⟨gd, 0, none⟩), big, .iface 85 (.agg #[.int .i64 asz]), ⟨#[108, 105, 110, 101]⟩⟩, .slice A1 sec.length c1, .slice none 0 0, .slice A3 n3 c3, 4, 0, .slice (some ⟨gb, 0, none⟩) OB OB, .slice (some ⟨gd2, 0, none⟩) 1 1, w.heap.size, ⟨rfl, rfl, rfl, rfl, rfl, rfl, rfl⟩⟩)
    (k := ⟨sec, off + 4 + U, off + 10 + Hl, big, asz, mi, mo, ds != 0, sbyte lb, lr, (OB : Int), 0 :: tl.take (OB - 1), [dir], F.length + 1⟩) (s := first (none :: F)) (fp := .pointer none) (S0 := S0) H4.out.1 H4.out.2.1 rfl hF4 (Nat.le_refl _) hs4
    (H4.out.2.2.2.2.1.lies HE.out.2.2.2.2.2.2.2.2.2.1 HE.out.2.2.2.2.2.2.2.2.2.2 (by have := hk.ob1; simp only at this; omega)) (dir_lies H4.out.2.2.2.2.2) hk hgw rfl (by have := HE.out.2.2.2.2.2.2.1; show off + 10 + Hl ≤ off + 4 + U; omega)
    (by have h1 := HE.out.2.2.2.2.2.1; have h2 := congrArg List.length HF.out.2.2.2.2; simp at h2; show off + 4 + U ≤ sec.length; omega) H3.out.2.2.1 (Nat.le_refl _)
  have HR := Aside0.mk hRS
  have H5 := Aside0.mk (And.intro hgw hkp)
  clear hRS hF4 hs4 hg3 hsl hkp hk hbd hb8 hgw
  refine HR.out.mono ?_
  rintro e w5 ⟨rfl, hr, hk⟩
  have H6 := Aside0.mk (And.intro hr hk)
  clear hr hk HR
  go_wp2_with fail
  go_ret2
  refine ⟨g, _, rfl, H6.out.1, ?_, Nat.le_refl _⟩
  exact H3.out.1.trans (((H5.out.2.trans H6.out.2).below H5.out.1 H3.out.1.size))
end Go.Proofs.YtdepfipebogdcaaDoor.Line

/- append onto a row of elements of one's own, none of whose cells is a byte: none is a byte behind it. -/
namespace Go.Proofs.YtdepfipebogdcaaDoor.Line
set_option maxRecDepth 100000
open Go.RowKit Go.Proofs.YtdepfipebogdcaaDoorW.PrintWords Go.Proofs.YtdepfipebogdcaaDoorW.PrintLast Go.Proofs.YtdepfipebogdcaaDoorW.PrintMore Go.Proofs.YtdepfipebogdcaaDoor.Leb Go.Proofs.YtdepfipebogdcaaDoor.Buf

/-- No cell of a value's own block is a byte. -/
def NB (w : World) (v : Value) : Prop := ∀ k, v.ownBlock = some k → ∀ cs t f, w.heap[k]? = some (.cells cs t f) → cs.all (fun v => !isByte v) = true
theorem nb_nil (w : World) : NB w (.slice none 0 0) := fun k h => by simp [Value.ownBlock] at h
theorem all_nb {cs : Array Value} : cs.all (fun v => !isByte v) = true ↔ ∀ u ∈ cs.toList, isByte u = false := by
  rw [← Array.all_toList, List.all_eq_true]
  simp
theorem zeros_nb {z : Array Value} (h : ∀ u ∈ z.toList, isByte u = false) (n : Nat) : ∀ u ∈ (Builtin.zeroCells z n).toList, isByte u = false := by
  intro u hu
  unfold Builtin.zeroCells at hu
  simp only [Array.toList_map, List.mem_map] at hu
  obtain ⟨i, hi, rfl⟩ := hu
  have hi2 : i < n * z.size := by simpa using hi
  have hp : 0 < z.size := by
    rcases Nat.eq_zero_or_pos z.size with h0 | h0
    · rw [h0] at hi2; simp at hi2
    · exact h0
  have hlt : i % z.size < z.size := Nat.mod_lt _ hp
  rw [getElem!_pos z _ hlt]
  exact h _ (by rw [← Array.mem_def]; exact Array.getElem_mem hlt)
theorem run_append_nb {P : Program} (w : World) (base : Nat) (t ty e : TypeId) (i : TypeInfo) (z : Value) (size bytes : Nat) (ht : P.underlying t = some (.slice e)) (hi : P.info? e = some i) (hz : i.zero = some z)
    (hsize : i.size = size) (hby : i.bytes = bytes) (hzs : z.cells.size = size) (hsz : 0 < size)
    (v : Value) (n : Nat) (xs : List Value) (hown : w.ownsRow base e size v n xs)
    (a : Addr) (m c : Nat) (news : List Value) (hl : news.length = m * size) (hnews : ∀ j u, news[j]? = some u → w.cell? (a.add j) = some u) (h1 : ∀ u ∈ news, u.oneCell' = true)
    (h63 : n + m ≤ maxLen) (hbytes : (n + m) * bytes ≤ 140737488355328) (hbase : base ≤ w.heap.size)
    (hnb : NB w v) (hnn : ∀ u ∈ news, isByte u = false) (hzn : ∀ u ∈ z.cells.toList, isByte u = false) :
    ∃ v' w', (Builtin.append_ #[t, t] ty #[v, .slice (some a) m c]).run P w = .ok v' w' ∧ w'.ownsRow base e size v' (n + m) (xs ++ news) ∧ w.grownBy w' v.ownBlock ∧
      (v'.ownBlock = v.ownBlock ∨ v'.ownBlock = some w.heap.size) ∧ NB w' v' := by
  subst hsize
  subst hby
  have hsmall : n + m ≤ 9223372036854775807 := by simp only [maxLen] at h63; omega
  have hlen : (xs ++ news).length = (n + m) * i.size := by rw [List.length_append, hown.1, hl, Nat.add_mul]
  have hxn : ∀ u ∈ xs, isByte u = false := by
    rcases hown.2 with ⟨_, rfl⟩ | ⟨g, cap, cur, rfl, hbg, hg, hnc, hcm, hcs, htake⟩
    · have : xs = [] := List.eq_nil_of_length_eq_zero (by have := hown.1; simpa using this)
      intro u hu
      rw [this] at hu
      cases hu
    · intro u hu
      have h := all_nb.1 (hnb g rfl _ _ _ hg)
      rw [← htake] at hu
      exact h u (List.mem_of_mem_take hu)
  have grown : ∀ (old : Nat), old < n + m → ∀ (row : Option Nat),
      (w.drew.alloc (.cells (xs.toArray ++ news.toArray ++ Builtin.zeroCells z.cells (grownCap w (n + m) old e - (n + m))) e)).ownsRow base e i.size
        (.slice (some ⟨w.heap.size, 0, none⟩) (n + m) (grownCap w (n + m) old e)) (n + m) (xs ++ news) ∧
      w.grownBy (w.drew.alloc (.cells (xs.toArray ++ news.toArray ++ Builtin.zeroCells z.cells (grownCap w (n + m) old e - (n + m))) e)) row ∧
      NB (w.drew.alloc (.cells (xs.toArray ++ news.toArray ++ Builtin.zeroCells z.cells (grownCap w (n + m) old e - (n + m))) e)) (.slice (some ⟨w.heap.size, 0, none⟩) (n + m) (grownCap w (n + m) old e)) := by
    intro old ho row
    have hge := grownCap_ge w (n + m) old e
    have hcm : grownCap w (n + m) old e ≤ maxLen := grownCap_le_maxLen w (n + m) old e h63
    refine ⟨⟨hlen, .inr ⟨w.heap.size, _, _, rfl, hbase, heap_alloc_new w.drew _, hge, hcm, ?_, ?_⟩⟩, ⟨rfl, rfl, rfl, by simp, fun k hk _ => heap_alloc_old w.drew _ hk⟩, ?_⟩
    · simp only [Array.size_append, List.size_toArray, size_zeroCells, hzs, hown.1, hl, ← Nat.add_mul]
      congr 1
      omega
    · simp only [Array.toList_append, List.append_assoc]
      rw [← List.append_assoc, ← hlen]
      exact List.take_left
    · intro k hk cs t f hc
      obtain rfl : w.heap.size = k := by simpa [Value.ownBlock] using hk
      have hn := heap_alloc_new w.drew (.cells (xs.toArray ++ news.toArray ++ Builtin.zeroCells z.cells (grownCap w (n + m) old e - (n + m))) e)
      have hn' : (w.drew.alloc (.cells (xs.toArray ++ news.toArray ++ Builtin.zeroCells z.cells (grownCap w (n + m) old e - (n + m))) e)).heap[w.heap.size]? = _ := hn
      rw [hn'] at hc
      cases hc
      rw [all_nb]
      intro u hu
      simp only [Array.toList_append, List.mem_append] at hu
      rcases hu with (hu | hu) | hu
      · exact hxn u hu
      · exact hnn u hu
      · exact zeros_nb hzn _ u hu
  rcases hown.2 with ⟨rfl, rfl⟩ | ⟨g, cap, cur, rfl, hbg, hg, hnc, hcm, hcs, htake⟩
  · have hx : xs = [] := List.eq_nil_of_length_eq_zero (by simpa using hown.1)
    subst hx
    by_cases hm : m = 0
    · subst hm
      have hn : news = [] := List.eq_nil_of_length_eq_zero (by simpa using hl)
      subst hn
      refine ⟨.slice none 0 0, w, ?_, World.ownsRow_nil w base e i.size, ⟨rfl, rfl, rfl, Nat.le_refl _, fun _ _ _ => rfl⟩, Or.inl rfl, hnb⟩
      simp [Builtin.append_, run_underlying ht, sizeOf, typeInfo, hi, Builtin.lenOf, Builtin.firstCells, loadCells, loadCellsFrom]
    · have hr := run_append_nil (P := P) w t ty e i z ht hi hz a m c news hl hnews (by omega) (by omega) (by have hb := hbytes; simp only [Nat.zero_add] at hb; omega)
      have hgr := grown 0 (by omega) (Value.ownBlock (.slice none 0 0))
      simp only [Nat.zero_add, List.nil_append, Array.empty_append] at hgr ⊢
      exact ⟨_, _, hr, hgr.1, hgr.2.1, Or.inr rfl, hgr.2.2⟩
  · by_cases hroom : n + m ≤ cap
    · have hfit : n * i.size + news.length ≤ cur.size := by rw [hl, hcs, ← Nat.add_mul]; exact Nat.mul_le_mul_right _ hroom
      have hr := run_append_room (P := P) w t ty e i ht hi g n cap cur hg a m c news hl hnews h1 hroom hfit
      refine ⟨_, _, hr, ⟨hlen, .inr ⟨g, cap, _, rfl, hbg, setRow_heap w g cur _ e _ hg, hroom, hcm, ?_, ?_⟩⟩, ⟨rfl, rfl, rfl, by simp, fun k _ hk => setRow_other w g k _ (fun e => hk (by simp [Value.ownBlock, e]))⟩, Or.inl rfl, ?_⟩
      · simp only [List.size_toArray, List.length_append, List.length_take, List.length_drop, Array.length_toList]
        omega
      · rw [htake, ← hlen]
        exact List.take_left
      · intro k hk cs t f hc
        obtain rfl : g = k := by simpa [Value.ownBlock] using hk
        rw [setRow_heap w g cur _ e _ hg] at hc
        cases hc
        have hcur := all_nb.1 (hnb g rfl _ _ _ hg)
        rw [all_nb]
        intro u hu
        simp only [List.mem_append] at hu
        rcases hu with (hu | hu) | hu
        · exact hcur u (List.mem_of_mem_take hu)
        · exact hnn u hu
        · exact hcur u (List.mem_of_mem_drop hu)
    · have holds : ∀ j u, xs[j]? = some u → w.cell? ((⟨g, 0, none⟩ : Addr).add j) = some u := hown.cells (g := g) rfl
      have hr := run_append_grow (P := P) w t ty e i z ht hi hz ⟨g, 0, none⟩ n cap xs hown.1 holds a m c news hl hnews (by omega) (by omega) (growslice_fits (by omega) hbytes)
      have hgr := grown cap (by omega) (Value.ownBlock (.slice (some ⟨g, 0, none⟩) n cap))
      exact ⟨_, _, hr, hgr.1, hgr.2.1, Or.inr rfl, hgr.2.2⟩

section
variable {P : Program} {ops : Array Oper} {rest : List Oper} {o : Oper} {a : Act} {Q : Exit → Act → World → Prop} {α : Type}
/-- append(v, x), where no cell of v's block is a byte, and x leads to no row. -/
theorem S_append_nb (d : Kd α) {W : World} (base : Nat) (hgd : o.guard = none) (s x : Operand) (t e : TypeId) (z : Value) (bytes : Nat)
    (ho : o.op = .call { callee := .builtin .append, args := #[s, x], argTypes := #[t, t] })
    (ht : P.underlying t = some (.slice e)) (hinfo : (P.info? e).map (fun i => (i.zero, i.size, i.bytes)) = some (some z, d.sz, bytes)) (hz : z.cells.size = d.sz) (hs0 : 0 < d.sz)
    (v : Value) (xs : List α) (p : α) (cs : List Value) (ok : Nat → Prop) (hs : a.eval s = v) (hx : a.eval x = .slice (some ⟨W.heap.size, 0, none⟩) 1 1) (hp : ∀ W, d.M W base (fun _ => False) p cs) (hfresh : ∀ k, W.heap.size ≤ k → ok k)
    (HO : Kd.S d e W base ok v xs) (hbase : base ≤ W.heap.size) (hl : (xs.length + 1) * bytes ≤ 140737488355328) (h63 : xs.length + 1 ≤ maxLen)
    (hnb : NB W v) (hcn : ∀ u ∈ cs, isByte u = false) (hzn : ∀ u ∈ z.cells.toList, isByte u = false)
    (h : ∀ v1 w1, Kd.S d e w1 base ok v1 (xs ++ [p]) → (W.alloc (.cells cs.toArray e)).grownBy w1 v.ownBlock → NB w1 v1 → (v1.ownBlock = v.ownBlock ∨ ∃ b, v1.ownBlock = some b ∧ W.heap.size ≤ b) → wpList P ops Q rest (a.put o.dst v1) w1) :
    wpList P ops Q (o :: rest) a (W.alloc (.cells cs.toArray e)) := by
  obtain ⟨i0, hi, hzz⟩ := Option.map_eq_some_iff.1 hinfo
  simp only [Prod.mk.injEq] at hzz
  obtain ⟨hz0, hz1, hz2⟩ := hzz
  obtain ⟨f, hR⟩ := Kd.S_alloc HO (.cells cs.toArray e)
  obtain ⟨h0, inner, hown, hr⟩ := hR
  have hlen : cs.length = d.sz := d.K_len (d.K_of_M (hp W))
  have hone := d.K_one (d.K_of_M (hp W))
  have hnb' : NB (W.alloc (.cells cs.toArray e)) v := by
    intro k hk cs' t' f' hc
    have hlt := Kd.S_lt HO k hk
    rw [heap_alloc_old W _ hlt] at hc
    exact hnb k hk cs' t' f' hc
  have hnews : ∀ j u, cs[j]? = some u → (W.alloc (.cells cs.toArray e)).cell? ((⟨W.heap.size, 0, none⟩ : Addr).add j) = some u := by
    intro j u hj
    have h2 : (W.alloc (.cells cs.toArray e)).cell? ((⟨W.heap.size, 0, none⟩ : Addr).add j) = cs.toArray[j]? := by
      by_cases hj0 : j = 0
      · subst hj0
        simp [Addr.add]
      · simp [Addr.add, hj0]
    rw [h2]
    simpa using hj
  have hown' : (W.alloc (.cells cs.toArray e)).ownsRow base e d.sz v xs.length inner := by
    have := hown
    rwa [List.length_zipIdx] at this
  obtain ⟨v1, w1, hrun, h2, hg, hat, hn1⟩ := run_append_nb (P := P) (W.alloc (.cells cs.toArray e)) base t o.type e i0 z d.sz bytes ht hi hz0 hz1 hz2 hz hs0 v xs.length inner hown' ⟨W.heap.size, 0, none⟩ 1 1 cs (by rw [hlen, Nat.one_mul]) hnews hone h63 hl (by simp; omega) hnb' hcn hzn
  have hat' : v1.ownBlock = v.ownBlock ∨ ∃ b, v1.ownBlock = some b ∧ (W.alloc (.cells cs.toArray e)).heap.size ≤ b := by
    rcases hat with hat | hat
    · exact .inl hat
    · exact .inr ⟨_, hat, Nat.le_refl _⟩
  refine wpList_plain hgd fun K hK => ?_
  unfold Oper.wp execOp
  simp only [ho, resolve, invoke, builtin, Sem.run_bind, Sem.run_pure, Result.andThen_ok, List.map_toArray, List.map_cons, List.map_nil, hs, hx, hrun]
  refine hK _ _ (h v1 w1 ?_ hg hn1 (by
    rcases hat' with h1 | ⟨b, h1, h3⟩
    · exact .inl h1
    · exact .inr ⟨b, h1, by simp at h3; omega⟩))
  have hRR := Kd.R_appended (d := Kd.tag f d) (p := (p, xs.length)) (okp := fun _ => False) (ok := ok) h0 hr (d.M_mono (fun k hk => hk.elim) (hp _)) (fun k hk => hk.elim) (fun k hk => hfresh k (by simp at hk; omega)) (by rw [List.length_zipIdx]; exact h2) hg hat'
  exact ⟨f, by rw [← Kd.zip_snoc] at hRR; exact hRR⟩
end
end Go.Proofs.YtdepfipebogdcaaDoor.Line

/- The contract of strings.IndexByte, proved by hand: the library's own text, and the model's entry where it has no body. -/
namespace Go.Proofs.YtdepfipebogdcaaDoor.Given
set_option maxRecDepth 100000
open Go.RowKit Go.Proofs.YtdepfipebogdcaaDoorW.PrintWords Go.Proofs.YtdepfipebogdcaaDoorW.PrintLast Go.Proofs.YtdepfipebogdcaaDoorW.PrintMore

def strings_IndexByte.f (a0 : ByteArray) (a1 : Int) : Option Int := some (Lib.indexByte a0.data.toList a1.toNat.toUInt8)
theorem strings_IndexByte.calls (a0 : ByteArray) (a1 : Int) (r : Int) (w : World) (h : strings_IndexByte.f a0 a1 = some r) :
    Calls Tryd.prog 71 #[.string a0, .int .u8 a1] w fun e w' => e = .returned (.int .i64 r) ∧ Drawn0 w w' := by
  obtain rfl := Option.some.inj h
  go_enter Tryd.func71, Tryd.ntmps71
  go_wp2
  rw [run_callFunc_extern Tryd.func85 (by kernel_rfl) (by kernel_rfl) (by kernel_rfl) (e := Extern.BytealgIndexByte.indexByte) (by kernel_rfl), Lib.run_indexByteString a0 a1 w]
  simp only [Result.andThen]
  rw [Oper.upon_value]
  go_wp2
  go_ret
  exact ⟨rfl, Drawn0.refl _⟩
end Go.Proofs.YtdepfipebogdcaaDoor.Given

namespace Go.Proofs.YtdepfipebogdcaaDoor.PPth
open Go.RowKit Go.Proofs.YtdepfipebogdcaaDoorW.PrintWords Go.Proofs.YtdepfipebogdcaaDoorW.PrintLast Go.Proofs.YtdepfipebogdcaaDoorW.PrintMore
attribute [local go_sem] max2_int max_two   -- for this text's walks alone
set_option linter.unusedVariables false
set_option linter.unusedSimpArgs false



def errW : Option Int → Value
  | none => .nilIface
  | some c => .iface 0 (.int .i64 c)
theorem errW_none : errW none = .nilIface := rfl
theorem errW_some (c : Int) : errW (some c) = .iface 0 (.int .i64 c) := rfl

theorem info5 : (Tryd.prog.info? 5).map (fun i => (i.zero, i.size, i.bytes)) = some (some (.int .u8 0), 1, 1) := by kernel_rfl
-- the values' own types

end Go.Proofs.YtdepfipebogdcaaDoor.PPth

namespace Go.Proofs.YtdepfipebogdcaaDoor.PPth
open Go.RowKit Go.Proofs.YtdepfipebogdcaaDoorW.PrintWords Go.Proofs.YtdepfipebogdcaaDoorW.PrintLast Go.Proofs.YtdepfipebogdcaaDoorW.PrintMore Go.Proofs.YtdepfipebogdcaaDoor.Given
attribute [local go_sem] max2_int max_two   -- for this text's walks alone
set_option linter.unusedVariables false
set_option linter.unusedSimpArgs false

/-! ### dwarf_zzIndex: function 77 -/
def dwarf_zzIndex.l0 : Nat → ByteArray → ByteArray → Int → Option (Int)
  | 0, _, _, _ => none
  | k + 1, x0, x1, x5 => if (wrap64 (x5 + (x1.size : Int))) ≤ (x0.size : Int) then (if 0 ≤ x5 then (if x5 ≤ (wrap64 (x5 + (x1.size : Int))) then (if (x0.extract (x5 : Int).toNat ((wrap64 (x5 + (x1.size : Int))) : Int).toNat).toList = x1.toList then (some x5) else (dwarf_zzIndex.l0 k x0 x1 (wrap64 (x5 + 1)))) else (none)) else (none)) else (some (-1))
def dwarf_zzIndex.f (k : Nat) (a0 : ByteArray) (a1 : ByteArray) : Option (Int) := dwarf_zzIndex.l0 k a0 a1 0
theorem dwarf_zzIndex.mono_l : ∀ k, (∀ y0 y1 y2, LeO (dwarf_zzIndex.l0 k y0 y1 y2) (dwarf_zzIndex.l0 (k + 1) y0 y1 y2))
  | 0 => fun _ _ _ r h => by simp [dwarf_zzIndex.l0] at h
  | k + 1 => by
    have ih0 := dwarf_zzIndex.mono_l k
    · intro y0 y1 y2
      unfold dwarf_zzIndex.l0
      repeat' first
      | (with_reducible exact ih0 _ _ _)
      | (with_reducible exact LeO.refl _)
      | (with_reducible exact LeO.none _)
      | (with_reducible refine LeO.ite ?_ ?_)
      | (with_reducible refine LeO.bind ?_ (fun _ => ?_))
      | exact ih0 _ _ _
      | exact LeO.none _
      | refine LeO.ite ?_ ?_
      | refine LeO.bind ?_ (fun _ => ?_)
theorem dwarf_zzIndex.mono : ∀ a0 a1 k, LeO (dwarf_zzIndex.f k a0 a1) (dwarf_zzIndex.f (k + 1) a0 a1) := by
  intro a0 a1 k
  have ih0 := dwarf_zzIndex.mono_l k
  unfold dwarf_zzIndex.f
  repeat' first
      | (with_reducible exact ih0 _ _ _)
      | (with_reducible exact LeO.refl _)
      | (with_reducible exact LeO.none _)
      | (with_reducible refine LeO.ite ?_ ?_)
      | (with_reducible refine LeO.bind ?_ (fun _ => ?_))
      | exact ih0 _ _ _
      | exact LeO.none _
      | refine LeO.ite ?_ ?_
      | refine LeO.bind ?_ (fun _ => ?_)
set_option maxHeartbeats 8000000 in
set_option maxRecDepth 100000 in
theorem dwarf_zzIndex.calls (k : Nat) (a0 : ByteArray) (a1 : ByteArray) (r : Int) (w : World) (h : dwarf_zzIndex.f k a0 a1 = some r) :
    Calls Tryd.prog 77 #[.string a0, .string a1] w fun e w' => e = .returned (.int .i64 r) ∧ Drawn0 w w' := by
  have H : (dwarf_zzIndex.l0 k a0 a1 0) = some r := h
  clear h
  have H' := Aside0.mk H
  clear H
  go_enter Tryd.func77, Tryd.ntmps77
  go_wp2
  go_loopg [5] k (fun kq v5 w' => ∃ (x5_1 : Int), v5 = .int .i64 x5_1 ∧ Aside0 (dwarf_zzIndex.l0 kq a0 a1 x5_1 = some r) ∧ Aside0 (kq ≤ k) ∧ Drawn0 w w')
  case atStart => exact ⟨(0), (by first | rfl | (simp; done) | (simp [*]; done)), H', ⟨Nat.le_refl _⟩, by repeat (first | exact Drawn0.refl _ | apply Drawn0.step)⟩
  case round =>
    clear H'
    try clear p2
    obtain ⟨x5_1, rfl, HA, HK1, ⟨m1, rfl⟩⟩ := hrel
    cases gk with
    | zero => exact absurd HA.out (by simp [dwarf_zzIndex.l0])
    | succ k1 =>
      have H := HA.out
      clear HA
      simp only [dwarf_zzIndex.l0] at H
      by_cases c3 : (wrap64 (x5_1 + (a1.size : Int))) ≤ (a0.size : Int)
      · rw [if_pos c3] at H
        have c3b0 : decide ((wrap64 (x5_1 + (a1.size : Int))) ≤ (a0.size : Int)) = true := decide_eq_true c3
        clear c3
        by_cases c4 : 0 ≤ x5_1
        · rw [if_pos c4] at H
          have c4b0 := eq_true c4
          have c4b1 : decide (0 ≤ x5_1) = true := decide_eq_true c4
          clear c4
          by_cases c5 : x5_1 ≤ (wrap64 (x5_1 + (a1.size : Int)))
          · rw [if_pos c5] at H
            have c5b0 := eq_true c5
            have c5b1 : decide (x5_1 ≤ (wrap64 (x5_1 + (a1.size : Int)))) = true := decide_eq_true c5
            have c6b0 := eq_true (of_decide_eq_true (by first | (with_reducible assumption) | assumption) : (wrap64 (x5_1 + (a1.size : Int))) ≤ (a0.size : Int))
            by_cases c7 : (a0.extract (x5_1 : Int).toNat ((wrap64 (x5_1 + (a1.size : Int))) : Int).toNat).toList = a1.toList
            · rw [if_pos c7] at H
              have c7b0 : ((a0.extract (x5_1 : Int).toNat ((wrap64 (x5_1 + (a1.size : Int))) : Int).toNat).toList == a1.toList) = true := beq_iff_eq.mpr c7
              have c7b1 : ((a0.extract (x5_1 : Int).toNat ((wrap64 (x5_1 + (a1.size : Int))) : Int).toNat).toList != a1.toList) = false := bne_eq_false_iff_eq.mpr c7
              clear c7
              obtain rfl := Option.some.inj H
              go_wp2
              go_ret
              exact ⟨by first | rfl | (simp; done) | (simp [*]; done), by repeat (first | exact Drawn0.refl _ | apply Drawn0.step)⟩
            · rw [if_neg c7] at H
              have c7b0 : ((a0.extract (x5_1 : Int).toNat ((wrap64 (x5_1 + (a1.size : Int))) : Int).toNat).toList == a1.toList) = false := beq_eq_false_iff_ne.mpr c7
              have c7b1 : ((a0.extract (x5_1 : Int).toNat ((wrap64 (x5_1 + (a1.size : Int))) : Int).toNat).toList != a1.toList) = true := bne_iff_ne.mpr c7
              have H' := Aside0.mk H
              clear H
              go_wp2
              go_roundg k1
              case measure => have := HK1.out; omega
              case rel => exact ⟨(wrap64 (x5_1 + 1)), (by first | rfl | (simp; done) | (simp [*]; done)), H', ⟨by have := HK1.out; omega⟩, by repeat (first | exact Drawn0.refl _ | apply Drawn0.step)⟩
          · rw [if_neg c5] at H
            exact absurd H (by simp)
        · rw [if_neg c4] at H
          exact absurd H (by simp)
      · rw [if_neg c3] at H
        have c3b0 : decide ((wrap64 (x5_1 + (a1.size : Int))) ≤ (a0.size : Int)) = false := decide_eq_false c3
        clear c3
        obtain rfl := Option.some.inj H
        go_wp2
        go_ret
        exact ⟨by first | rfl | (simp; done) | (simp [*]; done), by repeat (first | exact Drawn0.refl _ | apply Drawn0.step)⟩

/-! ### dwarf_zzReplaceAll: function 70 -/
def dwarf_zzReplaceAll.l0 : Nat → ByteArray → ByteArray → ByteArray → List Int → Option (ByteArray)
  | 0, _, _, _, _ => none
  | k + 1, x0, x1, x2, x7 => (dwarf_zzIndex.f k x0 x1).bind fun t101 => (if t101 < 0 then (if x7.length + x0.size < 140737488355328 then (some (strOfNums (x7 ++ bytesOf x0))) else (none)) else (if 0 ≤ t101 then (if t101 ≤ (x0.size : Int) then (if x7.length + (x0.extract 0 (t101 : Int).toNat).size < 140737488355328 then ((some (x7 ++ bytesOf (x0.extract 0 (t101 : Int).toNat) : List Int)).bind fun y105 => (if y105.length + x2.size < 140737488355328 then (if 0 ≤ (wrap64 (t101 + (x1.size : Int))) then (if (wrap64 (t101 + (x1.size : Int))) ≤ (x0.size : Int) then (dwarf_zzReplaceAll.l0 k (x0.extract ((wrap64 (t101 + (x1.size : Int))) : Int).toNat x0.size) x1 x2 (y105 ++ bytesOf x2)) else (none)) else (none)) else (none))) else (none)) else (none)) else (none)))
def dwarf_zzReplaceAll.f (k : Nat) (a0 : ByteArray) (a1 : ByteArray) (a2 : ByteArray) : Option (ByteArray) := dwarf_zzReplaceAll.l0 k a0 a1 a2 ([] : List Int)
theorem dwarf_zzReplaceAll.mono_l : ∀ k, (∀ y0 y1 y2 y3, LeO (dwarf_zzReplaceAll.l0 k y0 y1 y2 y3) (dwarf_zzReplaceAll.l0 (k + 1) y0 y1 y2 y3))
  | 0 => fun _ _ _ _ r h => by simp [dwarf_zzReplaceAll.l0] at h
  | k + 1 => by
    have ih0 := dwarf_zzReplaceAll.mono_l k
    · intro y0 y1 y2 y3
      unfold dwarf_zzReplaceAll.l0
      repeat' first
      | (with_reducible exact ih0 _ _ _ _)
      | (with_reducible exact dwarf_zzIndex.mono _ _ _)
      | (with_reducible exact LeO.refl _)
      | (with_reducible exact LeO.none _)
      | (with_reducible refine LeO.ite ?_ ?_)
      | (with_reducible refine LeO.bind ?_ (fun _ => ?_))
      | exact ih0 _ _ _ _
      | exact dwarf_zzIndex.mono _ _ _
      | exact LeO.none _
      | refine LeO.ite ?_ ?_
      | refine LeO.bind ?_ (fun _ => ?_)
theorem dwarf_zzReplaceAll.mono : ∀ a0 a1 a2 k, LeO (dwarf_zzReplaceAll.f k a0 a1 a2) (dwarf_zzReplaceAll.f (k + 1) a0 a1 a2) := by
  intro a0 a1 a2 k
  have ih0 := dwarf_zzReplaceAll.mono_l k
  unfold dwarf_zzReplaceAll.f
  repeat' first
      | (with_reducible exact ih0 _ _ _ _)
      | (with_reducible exact dwarf_zzIndex.mono _ _ _)
      | (with_reducible exact LeO.refl _)
      | (with_reducible exact LeO.none _)
      | (with_reducible refine LeO.ite ?_ ?_)
      | (with_reducible refine LeO.bind ?_ (fun _ => ?_))
      | exact ih0 _ _ _ _
      | exact dwarf_zzIndex.mono _ _ _
      | exact LeO.none _
      | refine LeO.ite ?_ ?_
      | refine LeO.bind ?_ (fun _ => ?_)
set_option maxHeartbeats 8000000 in
set_option maxRecDepth 100000 in
theorem dwarf_zzReplaceAll.calls (k : Nat) (a0 : ByteArray) (a1 : ByteArray) (a2 : ByteArray) (r : ByteArray) (w : World) (h : dwarf_zzReplaceAll.f k a0 a1 a2 = some r) :
    Calls Tryd.prog 70 #[.string a0, .string a1, .string a2] w fun e w' => e = .returned (.string r) ∧ Below w.heap.size w w' := by
  have HB := Aside0.mk (Below.refl w.heap.size w)
  have H : (dwarf_zzReplaceAll.l0 k a0 a1 a2 ([] : List Int)) = some r := h
  clear h
  have H' := Aside0.mk H
  clear H
  go_enter Tryd.func70, Tryd.ntmps70
  go_wp2
  go_loopg [0, 7] k (fun kq v0 v7 w' => ∃ (x0_1 : ByteArray) (x7_1 : List Int), v0 = .string x0_1 ∧ Aside0 (dwarf_zzReplaceAll.l0 kq x0_1 a1 a2 x7_1 = some r) ∧ Aside0 (kq ≤ k) ∧ Aside0 (Kd.R (Kd.int .u8) 5 w' w.heap.size (fun _ => True) v7 x7_1) ∧ Aside0 (Below w.heap.size w w'))
  case atStart => exact ⟨(a0), (([] : List Int)), (by first | rfl | (simp; done) | (simp [*]; done)), H', ⟨Nat.le_refl _⟩, ⟨by first | exact Kd.R_nil _ _ _ _ _ | exact Kd.N_nil _ _ _ _ _ | exact Kd.V_nil _ _ _ _ _ | exact Kd.Q_nil _ _ _ _ _ | exact Kd.S_nil _ _ _ _ _⟩, ⟨by repeat (first | (with_reducible first | exact HB.out | apply below_alloc | apply pw_below_drewN | apply below_drew1) | exact HB.out)⟩⟩
  case round =>
    clear H'
    try clear p2
    obtain ⟨x0_1, x7_1, rfl, HA, HK1, HO_7, HB⟩ := hrel
    cases gk with
    | zero => exact absurd HA.out (by simp [dwarf_zzReplaceAll.l0])
    | succ k1 =>
      have H := HA.out
      clear HA
      simp only [dwarf_zzReplaceAll.l0] at H
      replace H := Option.bind_eq_some_iff.mp H
      obtain ⟨t101, A40, H⟩ := H
      replace H : (if t101 < 0 then (if x7_1.length + x0_1.size < 140737488355328 then (some (strOfNums (x7_1 ++ bytesOf x0_1))) else (none)) else (if 0 ≤ t101 then (if t101 ≤ (x0_1.size : Int) then (if x7_1.length + (x0_1.extract 0 (t101 : Int).toNat).size < 140737488355328 then ((some (x7_1 ++ bytesOf (x0_1.extract 0 (t101 : Int).toNat) : List Int)).bind fun y105 => (if y105.length + a2.size < 140737488355328 then (if 0 ≤ (wrap64 (t101 + (a1.size : Int))) then (if (wrap64 (t101 + (a1.size : Int))) ≤ (x0_1.size : Int) then (dwarf_zzReplaceAll.l0 k1 (x0_1.extract ((wrap64 (t101 + (a1.size : Int))) : Int).toNat x0_1.size) a1 a2 (y105 ++ bytesOf a2)) else (none)) else (none)) else (none))) else (none)) else (none)) else (none))) = some r := H
      have A4 := Aside0.mk A40
      clear A40
      by_cases c5 : t101 < 0
      · rw [if_pos c5] at H
        have c5b0 : decide (t101 < 0) = true := decide_eq_true c5
        clear c5
        by_cases c6 : x7_1.length + x0_1.size < 140737488355328
        · rw [if_pos c6] at H
          have LMc6 := Aside0.mk c6
          clear c6
          obtain ⟨y102, hy102⟩ : ∃ y_ : List Int, y_ = (x7_1 ++ bytesOf x0_1) := ⟨_, rfl⟩
          replace H : (some (strOfNums y102)) = some r := by first | (rw [hy102]; with_reducible exact H) | (have H2_ := (Option.bind_some _ _).symm.trans H; rw [hy102]; with_reducible exact H2_) | (have H2_ := (Option.bind_some _ _).symm.trans H; with_reducible exact H2_) | with_reducible exact H | (rw [hy102]; exact H) | exact H
          have Ny102 := Aside0.mk hy102
          clear hy102
          obtain rfl := Option.some.inj H
          go_wp2_with (first | ((with_reducible refine gate_callee (f := 77) rfl ?_); refine goesL_ (some 11) rfl rfl Tryd.func77 (by kernel_rfl) rfl #[.string x0_1, .string a1] rfl (by (try simp only [List.map_toArray, List.map_cons, List.map_nil]); first | done | rfl | (simp only [List.length_drop, List.length_take]; rfl)) ?_; (with_reducible refine (dwarf_zzIndex.calls k1 x0_1 a1 t101 _ A4.out).mono ?_); rintro e w' ⟨rfl, ⟨nd, rfl⟩⟩; refine ⟨_, rfl, ?_⟩) | (at_builtin; refine print_append_str (w0 := w) w.heap.size rfl (.tmp 14) _ 23 9 5 rfl Tryd.underlying23 Tryd.underlying9 info5 u7 x7_1 x0_1 rfl rfl ?aO ?aB ?aS ?aL ?_; (case aB => exact (by repeat (first | (with_reducible first | exact HB.out | apply below_alloc | apply pw_below_drewN | apply below_drew1) | exact HB.out))); (case aO => exact (Kd.own_of_R (by (with_reducible repeat (first | apply Kd.R_alloc | apply Kd.R_drewN | apply Kd.R_drew)); exact HO_7.out))); (case aS => exact (below_size (by repeat (first | (with_reducible first | exact HB.out | apply below_alloc | apply pw_below_drewN | apply below_drew1) | exact HB.out)))); (case aL => have := LMc6.out; omega); intro v103 w7 ho0 hb hg; have ho := Kd.R_of_own (h1 := fun _ => rfl) (ok := fun _ => True) ho0 (fun _ _ => trivial); clear ho0; have hat := True.intro; rw [← Ny102.out] at ho; change Kd.R (Kd.int .u8) 5 w7 w.heap.size (fun _ => True) v103 y102 at ho; have n0_ := Aside0.mk (hb); have n1_ := Aside0.mk (ho); clear HB; clear HO_7; have HB := n0_; have HO104 := n1_; clear n0_ n1_; clear ho hb hg hat; have hcv8 := own_string (P := Tryd.prog) Tryd.underlying23 Tryd.underlying5 Tryd.underlying9 (Kd.own_of_R HO104.out)))
          go_ret
          exact ⟨by first | rfl | (simp [errW_none, errW_some] <;> rfl) | (simp [*, errW_none, errW_some] <;> rfl), by repeat (first | (with_reducible first | exact HB.out | apply below_alloc | apply pw_below_drewN | apply below_drew1) | exact HB.out)⟩
        · rw [if_neg c6] at H
          exact absurd H (by simp)
      · rw [if_neg c5] at H
        have c5b0 : decide (t101 < 0) = false := decide_eq_false c5
        clear c5
        by_cases c9 : 0 ≤ t101
        · rw [if_pos c9] at H
          have c9b0 := eq_true c9
          have c9b1 : decide (0 ≤ t101) = true := decide_eq_true c9
          clear c9
          by_cases c10 : t101 ≤ (x0_1.size : Int)
          · rw [if_pos c10] at H
            have c10b0 := eq_true c10
            have c10b1 : decide (t101 ≤ (x0_1.size : Int)) = true := decide_eq_true c10
            clear c10
            by_cases c11 : x7_1.length + (x0_1.extract 0 (t101 : Int).toNat).size < 140737488355328
            · rw [if_pos c11] at H
              have LMc11 := Aside0.mk c11
              clear c11
              obtain ⟨y105, hy105⟩ : ∃ y_ : List Int, y_ = (x7_1 ++ bytesOf (x0_1.extract 0 (t101 : Int).toNat)) := ⟨_, rfl⟩
              replace H : (if y105.length + a2.size < 140737488355328 then (if 0 ≤ (wrap64 (t101 + (a1.size : Int))) then (if (wrap64 (t101 + (a1.size : Int))) ≤ (x0_1.size : Int) then (dwarf_zzReplaceAll.l0 k1 (x0_1.extract ((wrap64 (t101 + (a1.size : Int))) : Int).toNat x0_1.size) a1 a2 (y105 ++ bytesOf a2)) else (none)) else (none)) else (none)) = some r := by first | (rw [hy105]; with_reducible exact H) | (have H2_ := (Option.bind_some _ _).symm.trans H; rw [hy105]; with_reducible exact H2_) | (have H2_ := (Option.bind_some _ _).symm.trans H; with_reducible exact H2_) | with_reducible exact H | (rw [hy105]; exact H) | exact H
              have Ny105 := Aside0.mk hy105
              clear hy105
              by_cases c12 : y105.length + a2.size < 140737488355328
              · rw [if_pos c12] at H
                have LMc12 := Aside0.mk c12
                clear c12
                obtain ⟨y108, hy108⟩ : ∃ y_ : List Int, y_ = (y105 ++ bytesOf a2) := ⟨_, rfl⟩
                replace H : (if 0 ≤ (wrap64 (t101 + (a1.size : Int))) then (if (wrap64 (t101 + (a1.size : Int))) ≤ (x0_1.size : Int) then (dwarf_zzReplaceAll.l0 k1 (x0_1.extract ((wrap64 (t101 + (a1.size : Int))) : Int).toNat x0_1.size) a1 a2 y108) else (none)) else (none)) = some r := by first | (rw [hy108]; with_reducible exact H) | (have H2_ := (Option.bind_some _ _).symm.trans H; rw [hy108]; with_reducible exact H2_) | (have H2_ := (Option.bind_some _ _).symm.trans H; with_reducible exact H2_) | with_reducible exact H | (rw [hy108]; exact H) | exact H
                have Ny108 := Aside0.mk hy108
                clear hy108
                obtain ⟨ji13, hji13⟩ : ∃ j_ : Int, (wrap64 (t101 + (a1.size : Int))) = j_ := ⟨_, rfl⟩
                replace H : (if 0 ≤ (ji13) then (if (ji13) ≤ (x0_1.size : Int) then (dwarf_zzReplaceAll.l0 k1 (x0_1.extract ((ji13) : Int).toNat x0_1.size) a1 a2 y108) else (none)) else (none)) = some r := by first | (rw [hji13] at H; exact H) | (simp only [hji13] at H ⊢; exact H)
                (try rw [hji13] at A4)
                have hji13w : (IntKind.i64.wrap (t101 + (a1.size : Int))) = ji13 := (i64_w _).trans hji13
                by_cases c14 : 0 ≤ (ji13)
                · rw [if_pos c14] at H
                  have c14b0 := eq_true c14
                  have c14b1 : decide (0 ≤ (ji13)) = true := decide_eq_true c14
                  clear c14
                  by_cases c15 : (ji13) ≤ (x0_1.size : Int)
                  · rw [if_pos c15] at H
                    have c15b0 := eq_true c15
                    have c15b1 : decide ((ji13) ≤ (x0_1.size : Int)) = true := decide_eq_true c15
                    clear c15
                    have H' := Aside0.mk H
                    clear H
                    go_wp2_with (first | ((with_reducible refine gate_callee (f := 77) rfl ?_); refine goesL_ (some 11) rfl rfl Tryd.func77 (by kernel_rfl) rfl #[.string x0_1, .string a1] rfl (by (try simp only [List.map_toArray, List.map_cons, List.map_nil]); first | done | rfl | (simp only [List.length_drop, List.length_take]; rfl)) ?_; (with_reducible refine (dwarf_zzIndex.calls k1 x0_1 a1 t101 _ A4.out).mono ?_); rintro e w' ⟨rfl, ⟨nd, rfl⟩⟩; refine ⟨_, rfl, ?_⟩) | (at_builtin; refine print_append_str (w0 := w) w.heap.size rfl (.tmp 18) _ 23 9 5 rfl Tryd.underlying23 Tryd.underlying9 info5 u7 x7_1 (x0_1.extract 0 (t101 : Int).toNat) rfl rfl ?aO ?aB ?aS ?aL ?_; (case aB => exact (by repeat (first | (with_reducible first | exact HB.out | apply below_alloc | apply pw_below_drewN | apply below_drew1) | exact HB.out))); (case aO => exact (Kd.own_of_R (by (with_reducible repeat (first | apply Kd.R_alloc | apply Kd.R_drewN | apply Kd.R_drew)); exact HO_7.out))); (case aS => exact (below_size (by repeat (first | (with_reducible first | exact HB.out | apply below_alloc | apply pw_below_drewN | apply below_drew1) | exact HB.out)))); (case aL => have := LMc11.out; omega); intro v106 w16 ho0 hb hg; have ho := Kd.R_of_own (h1 := fun _ => rfl) (ok := fun _ => True) ho0 (fun _ _ => trivial); clear ho0; have hat := True.intro; rw [← Ny105.out] at ho; change Kd.R (Kd.int .u8) 5 w16 w.heap.size (fun _ => True) v106 y105 at ho; have n0_ := Aside0.mk (hb); have n1_ := Aside0.mk (ho); clear HB; clear HO_7; have HB := n0_; have HO107 := n1_; clear n0_ n1_; clear ho hb hg hat) | (at_builtin; refine print_append_str (w0 := w) w.heap.size rfl (.tmp 22) _ 23 9 5 rfl Tryd.underlying23 Tryd.underlying9 info5 v106 y105 a2 rfl rfl ?aO ?aB ?aS ?aL ?_; (case aB => exact (by repeat (first | (with_reducible first | exact HB.out | apply below_alloc | apply pw_below_drewN | apply below_drew1) | exact HB.out))); (case aO => exact (Kd.own_of_R (by (with_reducible repeat (first | apply Kd.R_alloc | apply Kd.R_drewN | apply Kd.R_drew)); exact HO107.out))); (case aS => exact (below_size (by repeat (first | (with_reducible first | exact HB.out | apply below_alloc | apply pw_below_drewN | apply below_drew1) | exact HB.out)))); (case aL => have := LMc12.out; omega); intro v109 w17 ho0 hb hg; have ho := Kd.R_of_own (h1 := fun _ => rfl) (ok := fun _ => True) ho0 (fun _ _ => trivial); clear ho0; have hat := True.intro; rw [← Ny108.out] at ho; change Kd.R (Kd.int .u8) 5 w17 w.heap.size (fun _ => True) v109 y108 at ho; have n0_ := Aside0.mk (hb); have n1_ := Aside0.mk (ho); clear HB; clear HO107; have HB := n0_; have HO110 := n1_; clear n0_ n1_; clear ho hb hg hat))
                    go_roundg k1
                    case measure => have := HK1.out; omega
                    case rel => exact ⟨(x0_1.extract ((ji13) : Int).toNat x0_1.size), (y108), (by first | rfl | (simp; done) | (simp only [← hji13] <;> (first | rfl | simp)) | (simp [*]; done)), H', ⟨by have := HK1.out; omega⟩, ⟨by (with_reducible repeat (first | apply Kd.R_alloc | apply Kd.R_drewN | apply Kd.R_drew)); exact HO110.out⟩, ⟨by repeat (first | (with_reducible first | exact HB.out | apply below_alloc | apply pw_below_drewN | apply below_drew1) | exact HB.out)⟩⟩
                  · rw [if_neg c15] at H
                    exact absurd H (by simp)
                · rw [if_neg c14] at H
                  exact absurd H (by simp)
              · rw [if_neg c12] at H
                exact absurd H (by simp)
            · rw [if_neg c11] at H
              exact absurd H (by simp)
          · rw [if_neg c10] at H
            exact absurd H (by simp)
        · rw [if_neg c9] at H
          exact absurd H (by simp)

end Go.Proofs.YtdepfipebogdcaaDoor.PPth

namespace Go.Proofs.YtdepfipebogdcaaDoor.PPth
open Go.RowKit Go.Proofs.YtdepfipebogdcaaDoorW.PrintWords Go.Proofs.YtdepfipebogdcaaDoorW.PrintLast Go.Proofs.YtdepfipebogdcaaDoorW.PrintMore Go.Proofs.YtdepfipebogdcaaDoor.Given
attribute [local go_sem] max2_int max_two   -- for this text's walks alone
set_option linter.unusedVariables false
set_option linter.unusedSimpArgs false

/-! ### dwarf_splitDrive: function 58 -/
mutual
def dwarf_splitDrive.j0 : Nat → ByteArray → Bool → Option (ByteArray × ByteArray)
  | 0, _, _ => none
  | k + 1, x0, x15 => if x15 = true then (if 0 < (x0.size : Int) then (if 97 ≤ (bt x0 0) then (if (bt x0 0) ≤ 122 then (if 0 ≤ 2 then (if 2 ≤ (x0.size : Int) then (some (x0.extract 0 2, x0.extract 2 x0.size)) else (none)) else (none)) else (if 65 ≤ (bt x0 0) then (if (bt x0 0) ≤ 90 then (if 0 ≤ 2 then (if 2 ≤ (x0.size : Int) then (some (x0.extract 0 2, x0.extract 2 x0.size)) else (none)) else (none)) else (dwarf_splitDrive.j1 k x0)) else (dwarf_splitDrive.j1 k x0))) else (if 65 ≤ (bt x0 0) then (if (bt x0 0) ≤ 90 then (if 0 ≤ 2 then (if 2 ≤ (x0.size : Int) then (some (x0.extract 0 2, x0.extract 2 x0.size)) else (none)) else (none)) else (dwarf_splitDrive.j1 k x0)) else (dwarf_splitDrive.j1 k x0))) else (none)) else (dwarf_splitDrive.j1 k x0)
def dwarf_splitDrive.j1 : Nat → ByteArray → Option (ByteArray × ByteArray)
  | 0, _ => none
  | k + 1, x0 => if (x0.size : Int) > 3 then (if 0 < (x0.size : Int) then (if (bt x0 0) = 92 then (if 1 < (x0.size : Int) then (if (bt x0 1) = 92 then (dwarf_splitDrive.j2 k x0 true) else (dwarf_splitDrive.j2 k x0 ((bt x0 1) == 47))) else (none)) else (if (bt x0 0) = 47 then (if 1 < (x0.size : Int) then (if (bt x0 1) = 92 then (dwarf_splitDrive.j2 k x0 true) else (dwarf_splitDrive.j2 k x0 ((bt x0 1) == 47))) else (none)) else (dwarf_splitDrive.j2 k x0 false))) else (none)) else (dwarf_splitDrive.j2 k x0 false)
def dwarf_splitDrive.j2 : Nat → ByteArray → Bool → Option (ByteArray × ByteArray)
  | 0, _, _ => none
  | k + 1, x0, x58 => if x58 = true then ((dwarf_zzReplaceAll.f k x0 (⟨#[47]⟩ : ByteArray) (⟨#[92]⟩ : ByteArray)).bind fun t111 => (if 2 ≤ (t111.size : Int) then ((strings_IndexByte.f (t111.extract 2 t111.size) 92).bind fun t112 => (if (wrap64 (t112 + 2)) > 2 then (if 0 ≤ (wrap64 ((wrap64 (t112 + 2)) + 1)) then (if (wrap64 ((wrap64 (t112 + 2)) + 1)) ≤ (t111.size : Int) then ((strings_IndexByte.f (t111.extract ((wrap64 ((wrap64 (t112 + 2)) + 1)) : Int).toNat t111.size) 92).bind fun t113 => (if (wrap64 ((wrap64 (t113 + (wrap64 (t112 + 2)))) + 1)) > (wrap64 (t112 + 2)) then (if 0 ≤ (wrap64 ((wrap64 (t113 + (wrap64 (t112 + 2)))) + 1)) then (if (wrap64 ((wrap64 (t113 + (wrap64 (t112 + 2)))) + 1)) ≤ (x0.size : Int) then (some (x0.extract 0 ((wrap64 ((wrap64 (t113 + (wrap64 (t112 + 2)))) + 1)) : Int).toNat, x0.extract ((wrap64 ((wrap64 (t113 + (wrap64 (t112 + 2)))) + 1)) : Int).toNat x0.size)) else (none)) else (none)) else (some ((⟨#[]⟩ : ByteArray), x0)))) else (none)) else (none)) else (some ((⟨#[]⟩ : ByteArray), x0)))) else (none))) else (some ((⟨#[]⟩ : ByteArray), x0))
end
def dwarf_splitDrive.f (k : Nat) (a0 : ByteArray) : Option (ByteArray × ByteArray) := if (a0.size : Int) ≥ 2 then (if 1 < (a0.size : Int) then (dwarf_splitDrive.j0 k a0 ((bt a0 1) == 58)) else (none)) else (dwarf_splitDrive.j0 k a0 false)
theorem dwarf_splitDrive.mono_l : ∀ k, (∀ y0 y1, LeO (dwarf_splitDrive.j0 k y0 y1) (dwarf_splitDrive.j0 (k + 1) y0 y1)) ∧ (∀ y0, LeO (dwarf_splitDrive.j1 k y0) (dwarf_splitDrive.j1 (k + 1) y0)) ∧ (∀ y0 y1, LeO (dwarf_splitDrive.j2 k y0 y1) (dwarf_splitDrive.j2 (k + 1) y0 y1))
  | 0 => ⟨fun _ _ r h => by simp [dwarf_splitDrive.j0] at h, fun _ r h => by simp [dwarf_splitDrive.j1] at h, fun _ _ r h => by simp [dwarf_splitDrive.j2] at h⟩
  | k + 1 => by
    obtain ⟨ih0, ih1, ih2⟩ := dwarf_splitDrive.mono_l k
    refine ⟨?_, ?_, ?_⟩
    · intro y0 y1
      unfold dwarf_splitDrive.j0
      repeat' first
      | (with_reducible exact ih0 _ _)
      | (with_reducible exact ih1 _)
      | (with_reducible exact ih2 _ _)
      | (with_reducible exact dwarf_zzReplaceAll.mono _ _ _ _)
      | (with_reducible exact LeO.refl _)
      | (with_reducible exact LeO.none _)
      | (with_reducible refine LeO.ite ?_ ?_)
      | (with_reducible refine LeO.bind ?_ (fun _ => ?_))
      | exact ih0 _ _
      | exact ih1 _
      | exact ih2 _ _
      | exact dwarf_zzReplaceAll.mono _ _ _ _
      | exact LeO.none _
      | refine LeO.ite ?_ ?_
      | refine LeO.bind ?_ (fun _ => ?_)
    · intro y0
      unfold dwarf_splitDrive.j1
      repeat' first
      | (with_reducible exact ih0 _ _)
      | (with_reducible exact ih1 _)
      | (with_reducible exact ih2 _ _)
      | (with_reducible exact dwarf_zzReplaceAll.mono _ _ _ _)
      | (with_reducible exact LeO.refl _)
      | (with_reducible exact LeO.none _)
      | (with_reducible refine LeO.ite ?_ ?_)
      | (with_reducible refine LeO.bind ?_ (fun _ => ?_))
      | exact ih0 _ _
      | exact ih1 _
      | exact ih2 _ _
      | exact dwarf_zzReplaceAll.mono _ _ _ _
      | exact LeO.none _
      | refine LeO.ite ?_ ?_
      | refine LeO.bind ?_ (fun _ => ?_)
    · intro y0 y1
      unfold dwarf_splitDrive.j2
      repeat' first
      | (with_reducible exact ih0 _ _)
      | (with_reducible exact ih1 _)
      | (with_reducible exact ih2 _ _)
      | (with_reducible exact dwarf_zzReplaceAll.mono _ _ _ _)
      | (with_reducible exact LeO.refl _)
      | (with_reducible exact LeO.none _)
      | (with_reducible refine LeO.ite ?_ ?_)
      | (with_reducible refine LeO.bind ?_ (fun _ => ?_))
      | exact ih0 _ _
      | exact ih1 _
      | exact ih2 _ _
      | exact dwarf_zzReplaceAll.mono _ _ _ _
      | exact LeO.none _
      | refine LeO.ite ?_ ?_
      | refine LeO.bind ?_ (fun _ => ?_)
theorem dwarf_splitDrive.mono : ∀ a0 k, LeO (dwarf_splitDrive.f k a0) (dwarf_splitDrive.f (k + 1) a0) := by
  intro a0 k
  obtain ⟨ih0, ih1, ih2⟩ := dwarf_splitDrive.mono_l k
  unfold dwarf_splitDrive.f
  repeat' first
      | (with_reducible exact ih0 _ _)
      | (with_reducible exact ih1 _)
      | (with_reducible exact ih2 _ _)
      | (with_reducible exact dwarf_zzReplaceAll.mono _ _ _ _)
      | (with_reducible exact LeO.refl _)
      | (with_reducible exact LeO.none _)
      | (with_reducible refine LeO.ite ?_ ?_)
      | (with_reducible refine LeO.bind ?_ (fun _ => ?_))
      | exact ih0 _ _
      | exact ih1 _
      | exact ih2 _ _
      | exact dwarf_zzReplaceAll.mono _ _ _ _
      | exact LeO.none _
      | refine LeO.ite ?_ ?_
      | refine LeO.bind ?_ (fun _ => ?_)
set_option maxHeartbeats 8000000 in
set_option maxRecDepth 100000 in
theorem dwarf_splitDrive.calls (k : Nat) (a0 : ByteArray) (r1 : ByteArray) (r2 : ByteArray) (w : World) (h : dwarf_splitDrive.f k a0 = some (r1, r2)) :
    Calls Tryd.prog 58 #[.string a0] w fun e w' => e = .returned (.tuple #[.string r1, .string r2]) ∧ Below w.heap.size w w' := by
  have HB := Aside0.mk (Below.refl w.heap.size w)
  have H : (if (a0.size : Int) ≥ 2 then (if 1 < (a0.size : Int) then (dwarf_splitDrive.j0 k a0 ((bt a0 1) == 58)) else (none)) else (dwarf_splitDrive.j0 k a0 false)) = some (r1, r2) := h
  clear h
  have HC2 := Aside0.mk H
  clear H
  go_enter Tryd.func58, Tryd.ntmps58
  go_upto_region 1 with (fail)
  repeat (go_quiet (fail); go_upto_region 1 with (fail))
  go_cut [15] (fun v15 wc => ∃ (kq : Nat) (x15_1 : Bool), v15 = .bool x15_1 ∧ Aside0 (dwarf_splitDrive.j0 kq a0 x15_1 = some (r1, r2)) ∧ Aside0 (kq ≤ k) ∧ Aside0 (Below w.heap.size w wc))
  case first =>
    have H := HC2.out
    clear HC2
    by_cases c3 : (a0.size : Int) ≥ 2
    · rw [if_pos c3] at H
      have c3b0 : decide (2 ≤ (a0.size : Int)) = true := decide_eq_true c3
      have c3b1 : decide (2 ≤ a0.size) = true := decide_eq_true (by omega)
      clear c3
      (first | rw [c3b0] | (simp only [i64_w, i32_w]; rw [c3b0]) | skip)
      by_cases c4 : 1 < (a0.size : Int)
      · rw [if_pos c4] at H
        have c4b0 : decide (1 < (a0.size : Int)) = true := decide_eq_true c4
        have c4b1 : decide (1 < a0.size) = true := decide_eq_true (by omega)
        clear c4
        have H' := Aside0.mk H
        clear H
        have p5 : 0 ≤ (1 : Int) := (by omega)
        have q5 : 1 < a0.size := (by have : (1 : Int) < (a0.size : Int) := of_decide_eq_true (by first | (with_reducible assumption) | assumption); omega)
        have hx5 : ∀ h : 1 < a0.size, ((a0[1]'h).toNat : Int) = bt a0 1 := bt_at a0 1
        clear p5
        have qi5 : (1 < (a0.size : Int)) = True := eq_true (of_decide_eq_true (by first | (with_reducible assumption) | assumption))
        replace q5 := eq_true q5
        go_wp2
        repeat (go_quiet (fail); try go_wp2)
        go_meet
        case rel => exact ⟨_, (((bt a0 1) == 58)), (by first | rfl | (simp; done) | (simp [*]; done)), H', ⟨by first | omega | exact Nat.le_refl _⟩, ⟨by repeat (first | (with_reducible first | exact HB.out | apply below_alloc | apply pw_below_drewN | apply below_drew1) | exact HB.out)⟩⟩
      · rw [if_neg c4] at H
        exact absurd H (by simp)
    · rw [if_neg c3] at H
      have c3b0 : decide (2 ≤ (a0.size : Int)) = false := decide_eq_false c3
      have c3b1 : decide (2 ≤ a0.size) = false := decide_eq_false (by omega)
      clear c3
      (first | rw [c3b0] | (simp only [i64_w, i32_w]; rw [c3b0]) | skip)
      have H' := Aside0.mk H
      clear H
      go_wp2
      repeat (go_quiet (fail); try go_wp2)
      go_meet
      case rel => exact ⟨_, (false), (by first | rfl | (simp; done) | (simp [*]; done)), H', ⟨by first | omega | exact Nat.le_refl _⟩, ⟨by repeat (first | (with_reducible first | exact HB.out | apply below_alloc | apply pw_below_drewN | apply below_drew1) | exact HB.out)⟩⟩
  case rest =>
    clear HC2
    try clear p2
    try clear c3
    try clear c3b0
    try clear c3b1
    try clear c4
    try clear c4b0
    try clear c4b1
    try clear c5
    try clear p5
    try clear q5
    try clear hx5
    try clear qi5
    try clear p5
    try clear q5
    obtain ⟨kq, x15_1, rfl, HA, HJ1, HB⟩ := hcut
    cases kq with
    | zero => exact absurd HA.out (by simp [dwarf_splitDrive.j0])
    | succ kj1 =>
      have H := HA.out
      clear HA
      simp only [dwarf_splitDrive.j0] at H
      have HC6 := Aside0.mk H
      clear H
      go_upto_if 15 with (fail)
      repeat (go_quiet (fail); go_upto_if 15 with (fail))
      go_cut [] (fun wc => ∃ (kq : Nat), Aside0 (dwarf_splitDrive.j1 kq a0 = some (r1, r2)) ∧ Aside0 (kq ≤ kj1) ∧ Aside0 (Below w.heap.size w wc))
      case first =>
        have H := HC6.out
        clear HC6
        by_cases c7 : x15_1 = true
        · subst c7
          have H1 : (if 0 < (a0.size : Int) then (if 97 ≤ (bt a0 0) then (if (bt a0 0) ≤ 122 then (if 0 ≤ 2 then (if 2 ≤ (a0.size : Int) then (some (a0.extract 0 2, a0.extract 2 a0.size)) else (none)) else (none)) else (if 65 ≤ (bt a0 0) then (if (bt a0 0) ≤ 90 then (if 0 ≤ 2 then (if 2 ≤ (a0.size : Int) then (some (a0.extract 0 2, a0.extract 2 a0.size)) else (none)) else (none)) else (dwarf_splitDrive.j1 kj1 a0)) else (dwarf_splitDrive.j1 kj1 a0))) else (if 65 ≤ (bt a0 0) then (if (bt a0 0) ≤ 90 then (if 0 ≤ 2 then (if 2 ≤ (a0.size : Int) then (some (a0.extract 0 2, a0.extract 2 a0.size)) else (none)) else (none)) else (dwarf_splitDrive.j1 kj1 a0)) else (dwarf_splitDrive.j1 kj1 a0))) else (none)) = some (r1, r2) := by rw [if_pos rfl] at H; exact H
          clear H
          have H := H1
          clear H1
          by_cases c8 : 0 < (a0.size : Int)
          · rw [if_pos c8] at H
            have c8b0 : decide (0 < (a0.size : Int)) = true := decide_eq_true c8
            have c8b1 : decide (0 < a0.size) = true := decide_eq_true (by omega)
            clear c8
            (first | rw [c8b0] | (simp only [i64_w, i32_w]; rw [c8b0]) | skip)
            by_cases c10 : 97 ≤ (bt a0 0)
            · rw [if_pos c10] at H
              have c10b0 : decide (97 ≤ (bt a0 0)) = true := decide_eq_true c10
              clear c10
              by_cases c11 : (bt a0 0) ≤ 122
              · rw [if_pos c11] at H
                have c11b0 : decide ((bt a0 0) ≤ 122) = true := decide_eq_true c11
                clear c11
                by_cases c12 : 0 ≤ 2
                · rw [if_pos c12] at H
                  have c12b0 := eq_true c12
                  have c12b1 : decide (0 ≤ 2) = true := decide_eq_true c12
                  clear c12
                  by_cases c13 : 2 ≤ (a0.size : Int)
                  · rw [if_pos c13] at H
                    have c13b0 := eq_true c13
                    have c13b1 : decide (2 ≤ (a0.size : Int)) = true := decide_eq_true c13
                    clear c13
                    have c14b0 := eq_true (of_decide_eq_true (by first | (with_reducible assumption) | assumption) : 2 ≤ (a0.size : Int))
                    simp only [Option.some.injEq, Prod.mk.injEq] at H
                    obtain ⟨rfl, rfl⟩ := H
                    have p9 : 0 ≤ (0 : Int) := (by omega)
                    have q9 : 0 < a0.size := (by have : (0 : Int) < (a0.size : Int) := of_decide_eq_true (by first | (with_reducible assumption) | assumption); omega)
                    have hx9 : ∀ h : 0 < a0.size, ((a0[0]'h).toNat : Int) = bt a0 0 := bt_at a0 0
                    clear p9
                    have qi9 : (0 < (a0.size : Int)) = True := eq_true (of_decide_eq_true (by first | (with_reducible assumption) | assumption))
                    replace q9 := eq_true q9
                    go_wp2
                    repeat (go_quiet (fail); try go_wp2)
                    go_ret2
                    exact ⟨by first | rfl | (simp [errW_none, errW_some] <;> rfl) | (simp [*, errW_none, errW_some] <;> rfl), by repeat (first | (with_reducible first | exact HB.out | apply below_alloc | apply pw_below_drewN | apply below_drew1) | exact HB.out)⟩
                  · rw [if_neg c13] at H
                    exact absurd H (by simp)
                · rw [if_neg c12] at H
                  exact absurd H (by simp)
              · rw [if_neg c11] at H
                have c11b0 : decide ((bt a0 0) ≤ 122) = false := decide_eq_false c11
                clear c11
                by_cases c15 : 65 ≤ (bt a0 0)
                · rw [if_pos c15] at H
                  have c15b0 : decide (65 ≤ (bt a0 0)) = true := decide_eq_true c15
                  clear c15
                  by_cases c16 : (bt a0 0) ≤ 90
                  · rw [if_pos c16] at H
                    have c16b0 : decide ((bt a0 0) ≤ 90) = true := decide_eq_true c16
                    clear c16
                    by_cases c17 : 0 ≤ 2
                    · rw [if_pos c17] at H
                      have c17b0 := eq_true c17
                      have c17b1 : decide (0 ≤ 2) = true := decide_eq_true c17
                      clear c17
                      by_cases c18 : 2 ≤ (a0.size : Int)
                      · rw [if_pos c18] at H
                        have c18b0 := eq_true c18
                        have c18b1 : decide (2 ≤ (a0.size : Int)) = true := decide_eq_true c18
                        clear c18
                        have c19b0 := eq_true (of_decide_eq_true (by first | (with_reducible assumption) | assumption) : 2 ≤ (a0.size : Int))
                        simp only [Option.some.injEq, Prod.mk.injEq] at H
                        obtain ⟨rfl, rfl⟩ := H
                        have p9 : 0 ≤ (0 : Int) := (by omega)
                        have q9 : 0 < a0.size := (by have : (0 : Int) < (a0.size : Int) := of_decide_eq_true (by first | (with_reducible assumption) | assumption); omega)
                        have hx9 : ∀ h : 0 < a0.size, ((a0[0]'h).toNat : Int) = bt a0 0 := bt_at a0 0
                        clear p9
                        have qi9 : (0 < (a0.size : Int)) = True := eq_true (of_decide_eq_true (by first | (with_reducible assumption) | assumption))
                        replace q9 := eq_true q9
                        go_wp2
                        repeat (go_quiet (fail); try go_wp2)
                        go_ret2
                        exact ⟨by first | rfl | (simp [errW_none, errW_some] <;> rfl) | (simp [*, errW_none, errW_some] <;> rfl), by repeat (first | (with_reducible first | exact HB.out | apply below_alloc | apply pw_below_drewN | apply below_drew1) | exact HB.out)⟩
                      · rw [if_neg c18] at H
                        exact absurd H (by simp)
                    · rw [if_neg c17] at H
                      exact absurd H (by simp)
                  · rw [if_neg c16] at H
                    have c16b0 : decide ((bt a0 0) ≤ 90) = false := decide_eq_false c16
                    clear c16
                    have H' := Aside0.mk H
                    clear H
                    have p9 : 0 ≤ (0 : Int) := (by omega)
                    have q9 : 0 < a0.size := (by have : (0 : Int) < (a0.size : Int) := of_decide_eq_true (by first | (with_reducible assumption) | assumption); omega)
                    have hx9 : ∀ h : 0 < a0.size, ((a0[0]'h).toNat : Int) = bt a0 0 := bt_at a0 0
                    clear p9
                    have qi9 : (0 < (a0.size : Int)) = True := eq_true (of_decide_eq_true (by first | (with_reducible assumption) | assumption))
                    replace q9 := eq_true q9
                    go_wp2
                    repeat (go_quiet (fail); try go_wp2)
                    go_meet
                    case rel => exact ⟨_, H', ⟨by have := HJ1.out; first | omega | exact Nat.le_refl _⟩, ⟨by repeat (first | (with_reducible first | exact HB.out | apply below_alloc | apply pw_below_drewN | apply below_drew1) | exact HB.out)⟩⟩
                · rw [if_neg c15] at H
                  have c15b0 : decide (65 ≤ (bt a0 0)) = false := decide_eq_false c15
                  clear c15
                  have H' := Aside0.mk H
                  clear H
                  have p9 : 0 ≤ (0 : Int) := (by omega)
                  have q9 : 0 < a0.size := (by have : (0 : Int) < (a0.size : Int) := of_decide_eq_true (by first | (with_reducible assumption) | assumption); omega)
                  have hx9 : ∀ h : 0 < a0.size, ((a0[0]'h).toNat : Int) = bt a0 0 := bt_at a0 0
                  clear p9
                  have qi9 : (0 < (a0.size : Int)) = True := eq_true (of_decide_eq_true (by first | (with_reducible assumption) | assumption))
                  replace q9 := eq_true q9
                  go_wp2
                  repeat (go_quiet (fail); try go_wp2)
                  go_meet
                  case rel => exact ⟨_, H', ⟨by have := HJ1.out; first | omega | exact Nat.le_refl _⟩, ⟨by repeat (first | (with_reducible first | exact HB.out | apply below_alloc | apply pw_below_drewN | apply below_drew1) | exact HB.out)⟩⟩
            · rw [if_neg c10] at H
              have c10b0 : decide (97 ≤ (bt a0 0)) = false := decide_eq_false c10
              clear c10
              by_cases c20 : 65 ≤ (bt a0 0)
              · rw [if_pos c20] at H
                have c20b0 : decide (65 ≤ (bt a0 0)) = true := decide_eq_true c20
                clear c20
                by_cases c21 : (bt a0 0) ≤ 90
                · rw [if_pos c21] at H
                  have c21b0 : decide ((bt a0 0) ≤ 90) = true := decide_eq_true c21
                  clear c21
                  by_cases c22 : 0 ≤ 2
                  · rw [if_pos c22] at H
                    have c22b0 := eq_true c22
                    have c22b1 : decide (0 ≤ 2) = true := decide_eq_true c22
                    clear c22
                    by_cases c23 : 2 ≤ (a0.size : Int)
                    · rw [if_pos c23] at H
                      have c23b0 := eq_true c23
                      have c23b1 : decide (2 ≤ (a0.size : Int)) = true := decide_eq_true c23
                      clear c23
                      have c24b0 := eq_true (of_decide_eq_true (by first | (with_reducible assumption) | assumption) : 2 ≤ (a0.size : Int))
                      simp only [Option.some.injEq, Prod.mk.injEq] at H
                      obtain ⟨rfl, rfl⟩ := H
                      have p9 : 0 ≤ (0 : Int) := (by omega)
                      have q9 : 0 < a0.size := (by have : (0 : Int) < (a0.size : Int) := of_decide_eq_true (by first | (with_reducible assumption) | assumption); omega)
                      have hx9 : ∀ h : 0 < a0.size, ((a0[0]'h).toNat : Int) = bt a0 0 := bt_at a0 0
                      clear p9
                      have qi9 : (0 < (a0.size : Int)) = True := eq_true (of_decide_eq_true (by first | (with_reducible assumption) | assumption))
                      replace q9 := eq_true q9
                      go_wp2
                      repeat (go_quiet (fail); try go_wp2)
                      go_ret2
                      exact ⟨by first | rfl | (simp [errW_none, errW_some] <;> rfl) | (simp [*, errW_none, errW_some] <;> rfl), by repeat (first | (with_reducible first | exact HB.out | apply below_alloc | apply pw_below_drewN | apply below_drew1) | exact HB.out)⟩
                    · rw [if_neg c23] at H
                      exact absurd H (by simp)
                  · rw [if_neg c22] at H
                    exact absurd H (by simp)
                · rw [if_neg c21] at H
                  have c21b0 : decide ((bt a0 0) ≤ 90) = false := decide_eq_false c21
                  clear c21
                  have H' := Aside0.mk H
                  clear H
                  have p9 : 0 ≤ (0 : Int) := (by omega)
                  have q9 : 0 < a0.size := (by have : (0 : Int) < (a0.size : Int) := of_decide_eq_true (by first | (with_reducible assumption) | assumption); omega)
                  have hx9 : ∀ h : 0 < a0.size, ((a0[0]'h).toNat : Int) = bt a0 0 := bt_at a0 0
                  clear p9
                  have qi9 : (0 < (a0.size : Int)) = True := eq_true (of_decide_eq_true (by first | (with_reducible assumption) | assumption))
                  replace q9 := eq_true q9
                  go_wp2
                  repeat (go_quiet (fail); try go_wp2)
                  go_meet
                  case rel => exact ⟨_, H', ⟨by have := HJ1.out; first | omega | exact Nat.le_refl _⟩, ⟨by repeat (first | (with_reducible first | exact HB.out | apply below_alloc | apply pw_below_drewN | apply below_drew1) | exact HB.out)⟩⟩
              · rw [if_neg c20] at H
                have c20b0 : decide (65 ≤ (bt a0 0)) = false := decide_eq_false c20
                clear c20
                have H' := Aside0.mk H
                clear H
                have p9 : 0 ≤ (0 : Int) := (by omega)
                have q9 : 0 < a0.size := (by have : (0 : Int) < (a0.size : Int) := of_decide_eq_true (by first | (with_reducible assumption) | assumption); omega)
                have hx9 : ∀ h : 0 < a0.size, ((a0[0]'h).toNat : Int) = bt a0 0 := bt_at a0 0
                clear p9
                have qi9 : (0 < (a0.size : Int)) = True := eq_true (of_decide_eq_true (by first | (with_reducible assumption) | assumption))
                replace q9 := eq_true q9
                go_wp2
                repeat (go_quiet (fail); try go_wp2)
                go_meet
                case rel => exact ⟨_, H', ⟨by have := HJ1.out; first | omega | exact Nat.le_refl _⟩, ⟨by repeat (first | (with_reducible first | exact HB.out | apply below_alloc | apply pw_below_drewN | apply below_drew1) | exact HB.out)⟩⟩
          · rw [if_neg c8] at H
            exact absurd H (by simp)
        · replace c7 := Bool.eq_false_iff.mpr c7
          subst c7
          have H1 : (dwarf_splitDrive.j1 kj1 a0) = some (r1, r2) := by rw [if_neg (show ¬ (false = true) by decide)] at H; exact H
          clear H
          have H := H1
          clear H1
          have H' := Aside0.mk H
          clear H
          go_wp2
          repeat (go_quiet (fail); try go_wp2)
          go_meet
          case rel => exact ⟨_, H', ⟨by have := HJ1.out; first | omega | exact Nat.le_refl _⟩, ⟨by repeat (first | (with_reducible first | exact HB.out | apply below_alloc | apply pw_below_drewN | apply below_drew1) | exact HB.out)⟩⟩
      case rest =>
        clear HC6
        try clear c1
        try clear c2
        try clear p2
        try clear c3
        try clear c3b0
        try clear c3b1
        try clear c4
        try clear c4b0
        try clear c4b1
        try clear c5
        try clear p5
        try clear q5
        try clear hx5
        try clear qi5
        try clear c7
        try clear c8
        try clear c8b0
        try clear c8b1
        try clear p9
        try clear q9
        try clear hx9
        try clear qi9
        try clear c10
        try clear c10b0
        try clear c11
        try clear c11b0
        try clear c12
        try clear c12b0
        try clear c12b1
        try clear c13
        try clear c13b0
        try clear c13b1
        try clear c14
        try clear c14b0
        try clear c15
        try clear c15b0
        try clear c16
        try clear c16b0
        try clear c17
        try clear c17b0
        try clear c17b1
        try clear c18
        try clear c18b0
        try clear c18b1
        try clear c19
        try clear c19b0
        try clear c20
        try clear c20b0
        try clear c21
        try clear c21b0
        try clear c22
        try clear c22b0
        try clear c22b1
        try clear c23
        try clear c23b0
        try clear c23b1
        try clear c24
        try clear c24b0
        try clear p2
        try clear p5
        try clear p9
        try clear q5
        try clear q9
        obtain ⟨kq, HA, HJ5, HB⟩ := hcut
        cases kq with
        | zero => exact absurd HA.out (by simp [dwarf_splitDrive.j1])
        | succ kj5 =>
          have H := HA.out
          clear HA
          simp only [dwarf_splitDrive.j1] at H
          have HC25 := Aside0.mk H
          clear H
          go_upto_region 5 with (fail)
          repeat (go_quiet (fail); go_upto_region 5 with (fail))
          go_cut [58] (fun v58 wc => ∃ (kq : Nat) (x58_24 : Bool), v58 = .bool x58_24 ∧ Aside0 (dwarf_splitDrive.j2 kq a0 x58_24 = some (r1, r2)) ∧ Aside0 (kq ≤ kj5) ∧ Aside0 (Below w.heap.size w wc))
          case first =>
            have H := HC25.out
            clear HC25
            by_cases c26 : (a0.size : Int) > 3
            · rw [if_pos c26] at H
              have c26b0 : decide (3 < (a0.size : Int)) = true := decide_eq_true c26
              have c26b1 : decide (3 < a0.size) = true := decide_eq_true (by omega)
              clear c26
              (first | rw [c26b0] | (simp only [i64_w, i32_w]; rw [c26b0]) | skip)
              by_cases c27 : 0 < (a0.size : Int)
              · rw [if_pos c27] at H
                have c27b0 : decide (0 < (a0.size : Int)) = true := decide_eq_true c27
                have c27b1 : decide (0 < a0.size) = true := decide_eq_true (by omega)
                clear c27
                by_cases c29 : (bt a0 0) = 92
                · rw [if_pos c29] at H
                  have c29b0 : ((bt a0 0) == 92) = true := beq_iff_eq.mpr c29
                  have c29b1 : ((bt a0 0) != 92) = false := bne_eq_false_iff_eq.mpr c29
                  clear c29
                  by_cases c30 : 1 < (a0.size : Int)
                  · rw [if_pos c30] at H
                    have c30b0 : decide (1 < (a0.size : Int)) = true := decide_eq_true c30
                    have c30b1 : decide (1 < a0.size) = true := decide_eq_true (by omega)
                    clear c30
                    by_cases c32 : (bt a0 1) = 92
                    · rw [if_pos c32] at H
                      have c32b0 : ((bt a0 1) == 92) = true := beq_iff_eq.mpr c32
                      have c32b1 : ((bt a0 1) != 92) = false := bne_eq_false_iff_eq.mpr c32
                      clear c32
                      have H' := Aside0.mk H
                      clear H
                      have p28 : 0 ≤ (0 : Int) := (by omega)
                      have q28 : 0 < a0.size := (by have : (0 : Int) < (a0.size : Int) := of_decide_eq_true (by first | (with_reducible assumption) | assumption); omega)
                      have hx28 : ∀ h : 0 < a0.size, ((a0[0]'h).toNat : Int) = bt a0 0 := bt_at a0 0
                      clear p28
                      have qi28 : (0 < (a0.size : Int)) = True := eq_true (of_decide_eq_true (by first | (with_reducible assumption) | assumption))
                      replace q28 := eq_true q28
                      have p31 : 0 ≤ (1 : Int) := (by omega)
                      have q31 : 1 < a0.size := (by have : (1 : Int) < (a0.size : Int) := of_decide_eq_true (by first | (with_reducible assumption) | assumption); omega)
                      have hx31 : ∀ h : 1 < a0.size, ((a0[1]'h).toNat : Int) = bt a0 1 := bt_at a0 1
                      clear p31
                      have qi31 : (1 < (a0.size : Int)) = True := eq_true (of_decide_eq_true (by first | (with_reducible assumption) | assumption))
                      replace q31 := eq_true q31
                      go_wp2
                      repeat (go_quiet (fail); try go_wp2)
                      go_meet
                      case rel => exact ⟨_, (true), (by first | rfl | (simp; done) | (simp [*]; done)), H', ⟨by have := HJ1.out; have := HJ5.out; first | omega | exact Nat.le_refl _⟩, ⟨by repeat (first | (with_reducible first | exact HB.out | apply below_alloc | apply pw_below_drewN | apply below_drew1) | exact HB.out)⟩⟩
                    · rw [if_neg c32] at H
                      have c32b0 : ((bt a0 1) == 92) = false := beq_eq_false_iff_ne.mpr c32
                      have c32b1 : ((bt a0 1) != 92) = true := bne_iff_ne.mpr c32
                      have H' := Aside0.mk H
                      clear H
                      have p28 : 0 ≤ (0 : Int) := (by omega)
                      have q28 : 0 < a0.size := (by have : (0 : Int) < (a0.size : Int) := of_decide_eq_true (by first | (with_reducible assumption) | assumption); omega)
                      have hx28 : ∀ h : 0 < a0.size, ((a0[0]'h).toNat : Int) = bt a0 0 := bt_at a0 0
                      clear p28
                      have qi28 : (0 < (a0.size : Int)) = True := eq_true (of_decide_eq_true (by first | (with_reducible assumption) | assumption))
                      replace q28 := eq_true q28
                      have p31 : 0 ≤ (1 : Int) := (by omega)
                      have q31 : 1 < a0.size := (by have : (1 : Int) < (a0.size : Int) := of_decide_eq_true (by first | (with_reducible assumption) | assumption); omega)
                      have hx31 : ∀ h : 1 < a0.size, ((a0[1]'h).toNat : Int) = bt a0 1 := bt_at a0 1
                      clear p31
                      have qi31 : (1 < (a0.size : Int)) = True := eq_true (of_decide_eq_true (by first | (with_reducible assumption) | assumption))
                      replace q31 := eq_true q31
                      have p33 : 0 ≤ (1 : Int) := (by omega)
                      have q33 : 1 < a0.size := (by have : (1 : Int) < (a0.size : Int) := of_decide_eq_true (by first | (with_reducible assumption) | assumption); omega)
                      have hx33 : ∀ h : 1 < a0.size, ((a0[1]'h).toNat : Int) = bt a0 1 := bt_at a0 1
                      clear p33
                      have qi33 : (1 < (a0.size : Int)) = True := eq_true (of_decide_eq_true (by first | (with_reducible assumption) | assumption))
                      replace q33 := eq_true q33
                      go_wp2
                      repeat (go_quiet (fail); try go_wp2)
                      go_meet
                      case rel => exact ⟨_, (((bt a0 1) == 47)), (by first | rfl | (simp; done) | (simp [*]; done)), H', ⟨by have := HJ1.out; have := HJ5.out; first | omega | exact Nat.le_refl _⟩, ⟨by repeat (first | (with_reducible first | exact HB.out | apply below_alloc | apply pw_below_drewN | apply below_drew1) | exact HB.out)⟩⟩
                  · rw [if_neg c30] at H
                    exact absurd H (by simp)
                · rw [if_neg c29] at H
                  have c29b0 : ((bt a0 0) == 92) = false := beq_eq_false_iff_ne.mpr c29
                  have c29b1 : ((bt a0 0) != 92) = true := bne_iff_ne.mpr c29
                  by_cases c35 : (bt a0 0) = 47
                  · rw [if_pos c35] at H
                    have c35b0 : ((bt a0 0) == 47) = true := beq_iff_eq.mpr c35
                    have c35b1 : ((bt a0 0) != 47) = false := bne_eq_false_iff_eq.mpr c35
                    clear c35
                    by_cases c36 : 1 < (a0.size : Int)
                    · rw [if_pos c36] at H
                      have c36b0 : decide (1 < (a0.size : Int)) = true := decide_eq_true c36
                      have c36b1 : decide (1 < a0.size) = true := decide_eq_true (by omega)
                      clear c36
                      by_cases c38 : (bt a0 1) = 92
                      · rw [if_pos c38] at H
                        have c38b0 : ((bt a0 1) == 92) = true := beq_iff_eq.mpr c38
                        have c38b1 : ((bt a0 1) != 92) = false := bne_eq_false_iff_eq.mpr c38
                        clear c38
                        have H' := Aside0.mk H
                        clear H
                        have p28 : 0 ≤ (0 : Int) := (by omega)
                        have q28 : 0 < a0.size := (by have : (0 : Int) < (a0.size : Int) := of_decide_eq_true (by first | (with_reducible assumption) | assumption); omega)
                        have hx28 : ∀ h : 0 < a0.size, ((a0[0]'h).toNat : Int) = bt a0 0 := bt_at a0 0
                        clear p28
                        have qi28 : (0 < (a0.size : Int)) = True := eq_true (of_decide_eq_true (by first | (with_reducible assumption) | assumption))
                        replace q28 := eq_true q28
                        have p34 : 0 ≤ (0 : Int) := (by omega)
                        have q34 : 0 < a0.size := (by have : (0 : Int) < (a0.size : Int) := of_decide_eq_true (by first | (with_reducible assumption) | assumption); omega)
                        have hx34 : ∀ h : 0 < a0.size, ((a0[0]'h).toNat : Int) = bt a0 0 := bt_at a0 0
                        clear p34
                        have qi34 : (0 < (a0.size : Int)) = True := eq_true (of_decide_eq_true (by first | (with_reducible assumption) | assumption))
                        replace q34 := eq_true q34
                        have p37 : 0 ≤ (1 : Int) := (by omega)
                        have q37 : 1 < a0.size := (by have : (1 : Int) < (a0.size : Int) := of_decide_eq_true (by first | (with_reducible assumption) | assumption); omega)
                        have hx37 : ∀ h : 1 < a0.size, ((a0[1]'h).toNat : Int) = bt a0 1 := bt_at a0 1
                        clear p37
                        have qi37 : (1 < (a0.size : Int)) = True := eq_true (of_decide_eq_true (by first | (with_reducible assumption) | assumption))
                        replace q37 := eq_true q37
                        go_wp2
                        repeat (go_quiet (fail); try go_wp2)
                        go_meet
                        case rel => exact ⟨_, (true), (by first | rfl | (simp; done) | (simp [*]; done)), H', ⟨by have := HJ1.out; have := HJ5.out; first | omega | exact Nat.le_refl _⟩, ⟨by repeat (first | (with_reducible first | exact HB.out | apply below_alloc | apply pw_below_drewN | apply below_drew1) | exact HB.out)⟩⟩
                      · rw [if_neg c38] at H
                        have c38b0 : ((bt a0 1) == 92) = false := beq_eq_false_iff_ne.mpr c38
                        have c38b1 : ((bt a0 1) != 92) = true := bne_iff_ne.mpr c38
                        have H' := Aside0.mk H
                        clear H
                        have p28 : 0 ≤ (0 : Int) := (by omega)
                        have q28 : 0 < a0.size := (by have : (0 : Int) < (a0.size : Int) := of_decide_eq_true (by first | (with_reducible assumption) | assumption); omega)
                        have hx28 : ∀ h : 0 < a0.size, ((a0[0]'h).toNat : Int) = bt a0 0 := bt_at a0 0
                        clear p28
                        have qi28 : (0 < (a0.size : Int)) = True := eq_true (of_decide_eq_true (by first | (with_reducible assumption) | assumption))
                        replace q28 := eq_true q28
                        have p34 : 0 ≤ (0 : Int) := (by omega)
                        have q34 : 0 < a0.size := (by have : (0 : Int) < (a0.size : Int) := of_decide_eq_true (by first | (with_reducible assumption) | assumption); omega)
                        have hx34 : ∀ h : 0 < a0.size, ((a0[0]'h).toNat : Int) = bt a0 0 := bt_at a0 0
                        clear p34
                        have qi34 : (0 < (a0.size : Int)) = True := eq_true (of_decide_eq_true (by first | (with_reducible assumption) | assumption))
                        replace q34 := eq_true q34
                        have p37 : 0 ≤ (1 : Int) := (by omega)
                        have q37 : 1 < a0.size := (by have : (1 : Int) < (a0.size : Int) := of_decide_eq_true (by first | (with_reducible assumption) | assumption); omega)
                        have hx37 : ∀ h : 1 < a0.size, ((a0[1]'h).toNat : Int) = bt a0 1 := bt_at a0 1
                        clear p37
                        have qi37 : (1 < (a0.size : Int)) = True := eq_true (of_decide_eq_true (by first | (with_reducible assumption) | assumption))
                        replace q37 := eq_true q37
                        have p39 : 0 ≤ (1 : Int) := (by omega)
                        have q39 : 1 < a0.size := (by have : (1 : Int) < (a0.size : Int) := of_decide_eq_true (by first | (with_reducible assumption) | assumption); omega)
                        have hx39 : ∀ h : 1 < a0.size, ((a0[1]'h).toNat : Int) = bt a0 1 := bt_at a0 1
                        clear p39
                        have qi39 : (1 < (a0.size : Int)) = True := eq_true (of_decide_eq_true (by first | (with_reducible assumption) | assumption))
                        replace q39 := eq_true q39
                        go_wp2
                        repeat (go_quiet (fail); try go_wp2)
                        go_meet
                        case rel => exact ⟨_, (((bt a0 1) == 47)), (by first | rfl | (simp; done) | (simp [*]; done)), H', ⟨by have := HJ1.out; have := HJ5.out; first | omega | exact Nat.le_refl _⟩, ⟨by repeat (first | (with_reducible first | exact HB.out | apply below_alloc | apply pw_below_drewN | apply below_drew1) | exact HB.out)⟩⟩
                    · rw [if_neg c36] at H
                      exact absurd H (by simp)
                  · rw [if_neg c35] at H
                    have c35b0 : ((bt a0 0) == 47) = false := beq_eq_false_iff_ne.mpr c35
                    have c35b1 : ((bt a0 0) != 47) = true := bne_iff_ne.mpr c35
                    have H' := Aside0.mk H
                    clear H
                    have p28 : 0 ≤ (0 : Int) := (by omega)
                    have q28 : 0 < a0.size := (by have : (0 : Int) < (a0.size : Int) := of_decide_eq_true (by first | (with_reducible assumption) | assumption); omega)
                    have hx28 : ∀ h : 0 < a0.size, ((a0[0]'h).toNat : Int) = bt a0 0 := bt_at a0 0
                    clear p28
                    have qi28 : (0 < (a0.size : Int)) = True := eq_true (of_decide_eq_true (by first | (with_reducible assumption) | assumption))
                    replace q28 := eq_true q28
                    have p34 : 0 ≤ (0 : Int) := (by omega)
                    have q34 : 0 < a0.size := (by have : (0 : Int) < (a0.size : Int) := of_decide_eq_true (by first | (with_reducible assumption) | assumption); omega)
                    have hx34 : ∀ h : 0 < a0.size, ((a0[0]'h).toNat : Int) = bt a0 0 := bt_at a0 0
                    clear p34
                    have qi34 : (0 < (a0.size : Int)) = True := eq_true (of_decide_eq_true (by first | (with_reducible assumption) | assumption))
                    replace q34 := eq_true q34
                    go_wp2
                    repeat (go_quiet (fail); try go_wp2)
                    go_meet
                    case rel => exact ⟨_, (false), (by first | rfl | (simp; done) | (simp [*]; done)), H', ⟨by have := HJ1.out; have := HJ5.out; first | omega | exact Nat.le_refl _⟩, ⟨by repeat (first | (with_reducible first | exact HB.out | apply below_alloc | apply pw_below_drewN | apply below_drew1) | exact HB.out)⟩⟩
              · rw [if_neg c27] at H
                exact absurd H (by simp)
            · rw [if_neg c26] at H
              have c26b0 : decide (3 < (a0.size : Int)) = false := decide_eq_false c26
              have c26b1 : decide (3 < a0.size) = false := decide_eq_false (by omega)
              clear c26
              (first | rw [c26b0] | (simp only [i64_w, i32_w]; rw [c26b0]) | skip)
              have H' := Aside0.mk H
              clear H
              go_wp2
              repeat (go_quiet (fail); try go_wp2)
              go_meet
              case rel => exact ⟨_, (false), (by first | rfl | (simp; done) | (simp [*]; done)), H', ⟨by have := HJ1.out; have := HJ5.out; first | omega | exact Nat.le_refl _⟩, ⟨by repeat (first | (with_reducible first | exact HB.out | apply below_alloc | apply pw_below_drewN | apply below_drew1) | exact HB.out)⟩⟩
          case rest =>
            clear HC25
            try clear c1
            try clear c2
            try clear p2
            try clear q2
            try clear hx2
            try clear qi2
            try clear c3
            try clear c3b0
            try clear c3b1
            try clear p3
            try clear q3
            try clear hx3
            try clear qi3
            try clear c4
            try clear c4b0
            try clear c4b1
            try clear c5
            try clear p5
            try clear q5
            try clear hx5
            try clear qi5
            try clear c7
            try clear c8
            try clear c8b0
            try clear c8b1
            try clear p9
            try clear q9
            try clear hx9
            try clear qi9
            try clear c10
            try clear c10b0
            try clear c11
            try clear c11b0
            try clear c12
            try clear c12b0
            try clear c12b1
            try clear c13
            try clear c13b0
            try clear c13b1
            try clear c14
            try clear c14b0
            try clear c15
            try clear c15b0
            try clear c16
            try clear c16b0
            try clear c17
            try clear c17b0
            try clear c17b1
            try clear c18
            try clear c18b0
            try clear c18b1
            try clear c19
            try clear c19b0
            try clear c20
            try clear c20b0
            try clear c21
            try clear c21b0
            try clear c22
            try clear c22b0
            try clear c22b1
            try clear c23
            try clear c23b0
            try clear c23b1
            try clear c24
            try clear c24b0
            try clear c26
            try clear c26b0
            try clear c26b1
            try clear c27
            try clear c27b0
            try clear c27b1
            try clear p28
            try clear q28
            try clear hx28
            try clear qi28
            try clear c29
            try clear c29b0
            try clear c29b1
            try clear c30
            try clear c30b0
            try clear c30b1
            try clear p31
            try clear q31
            try clear hx31
            try clear qi31
            try clear c32
            try clear c32b0
            try clear c32b1
            try clear p33
            try clear q33
            try clear hx33
            try clear qi33
            try clear p34
            try clear q34
            try clear hx34
            try clear qi34
            try clear c35
            try clear c35b0
            try clear c35b1
            try clear c36
            try clear c36b0
            try clear c36b1
            try clear p37
            try clear q37
            try clear hx37
            try clear qi37
            try clear c38
            try clear c38b0
            try clear c38b1
            try clear p39
            try clear q39
            try clear hx39
            try clear qi39
            try clear p2
            try clear p28
            try clear p31
            try clear p33
            try clear p34
            try clear p37
            try clear p39
            try clear p5
            try clear p9
            try clear q28
            try clear q31
            try clear q33
            try clear q34
            try clear q37
            try clear q39
            try clear q5
            try clear q9
            obtain ⟨kq, x58_24, rfl, HA, HJ24, HB⟩ := hcut
            cases kq with
            | zero => exact absurd HA.out (by simp [dwarf_splitDrive.j2])
            | succ kj24 =>
              have H := HA.out
              clear HA
              simp only [dwarf_splitDrive.j2] at H
              by_cases c40 : x58_24 = true
              · subst c40
                have H1 : ((dwarf_zzReplaceAll.f kj24 a0 (⟨#[47]⟩ : ByteArray) (⟨#[92]⟩ : ByteArray)).bind fun t111 => (if 2 ≤ (t111.size : Int) then ((strings_IndexByte.f (t111.extract 2 t111.size) 92).bind fun t112 => (if (wrap64 (t112 + 2)) > 2 then (if 0 ≤ (wrap64 ((wrap64 (t112 + 2)) + 1)) then (if (wrap64 ((wrap64 (t112 + 2)) + 1)) ≤ (t111.size : Int) then ((strings_IndexByte.f (t111.extract ((wrap64 ((wrap64 (t112 + 2)) + 1)) : Int).toNat t111.size) 92).bind fun t113 => (if (wrap64 ((wrap64 (t113 + (wrap64 (t112 + 2)))) + 1)) > (wrap64 (t112 + 2)) then (if 0 ≤ (wrap64 ((wrap64 (t113 + (wrap64 (t112 + 2)))) + 1)) then (if (wrap64 ((wrap64 (t113 + (wrap64 (t112 + 2)))) + 1)) ≤ (a0.size : Int) then (some (a0.extract 0 ((wrap64 ((wrap64 (t113 + (wrap64 (t112 + 2)))) + 1)) : Int).toNat, a0.extract ((wrap64 ((wrap64 (t113 + (wrap64 (t112 + 2)))) + 1)) : Int).toNat a0.size)) else (none)) else (none)) else (some ((⟨#[]⟩ : ByteArray), a0)))) else (none)) else (none)) else (some ((⟨#[]⟩ : ByteArray), a0)))) else (none))) = some (r1, r2) := by rw [if_pos rfl] at H; exact H
                clear H
                have H := H1
                clear H1
                replace H := Option.bind_eq_some_iff.mp H
                obtain ⟨t111, A410, H⟩ := H
                replace H : (if 2 ≤ (t111.size : Int) then ((strings_IndexByte.f (t111.extract 2 t111.size) 92).bind fun t112 => (if (wrap64 (t112 + 2)) > 2 then (if 0 ≤ (wrap64 ((wrap64 (t112 + 2)) + 1)) then (if (wrap64 ((wrap64 (t112 + 2)) + 1)) ≤ (t111.size : Int) then ((strings_IndexByte.f (t111.extract ((wrap64 ((wrap64 (t112 + 2)) + 1)) : Int).toNat t111.size) 92).bind fun t113 => (if (wrap64 ((wrap64 (t113 + (wrap64 (t112 + 2)))) + 1)) > (wrap64 (t112 + 2)) then (if 0 ≤ (wrap64 ((wrap64 (t113 + (wrap64 (t112 + 2)))) + 1)) then (if (wrap64 ((wrap64 (t113 + (wrap64 (t112 + 2)))) + 1)) ≤ (a0.size : Int) then (some (a0.extract 0 ((wrap64 ((wrap64 (t113 + (wrap64 (t112 + 2)))) + 1)) : Int).toNat, a0.extract ((wrap64 ((wrap64 (t113 + (wrap64 (t112 + 2)))) + 1)) : Int).toNat a0.size)) else (none)) else (none)) else (some ((⟨#[]⟩ : ByteArray), a0)))) else (none)) else (none)) else (some ((⟨#[]⟩ : ByteArray), a0)))) else (none)) = some (r1, r2) := H
                have A41 := Aside0.mk A410
                clear A410
                by_cases c42 : 2 ≤ (t111.size : Int)
                · rw [if_pos c42] at H
                  have c42b0 := eq_true c42
                  have c42b1 : decide (2 ≤ (t111.size : Int)) = true := decide_eq_true c42
                  clear c42
                  replace H := Option.bind_eq_some_iff.mp H
                  obtain ⟨t112, A430, H⟩ := H
                  replace H : (if (wrap64 (t112 + 2)) > 2 then (if 0 ≤ (wrap64 ((wrap64 (t112 + 2)) + 1)) then (if (wrap64 ((wrap64 (t112 + 2)) + 1)) ≤ (t111.size : Int) then ((strings_IndexByte.f (t111.extract ((wrap64 ((wrap64 (t112 + 2)) + 1)) : Int).toNat t111.size) 92).bind fun t113 => (if (wrap64 ((wrap64 (t113 + (wrap64 (t112 + 2)))) + 1)) > (wrap64 (t112 + 2)) then (if 0 ≤ (wrap64 ((wrap64 (t113 + (wrap64 (t112 + 2)))) + 1)) then (if (wrap64 ((wrap64 (t113 + (wrap64 (t112 + 2)))) + 1)) ≤ (a0.size : Int) then (some (a0.extract 0 ((wrap64 ((wrap64 (t113 + (wrap64 (t112 + 2)))) + 1)) : Int).toNat, a0.extract ((wrap64 ((wrap64 (t113 + (wrap64 (t112 + 2)))) + 1)) : Int).toNat a0.size)) else (none)) else (none)) else (some ((⟨#[]⟩ : ByteArray), a0)))) else (none)) else (none)) else (some ((⟨#[]⟩ : ByteArray), a0))) = some (r1, r2) := H
                  have A43 := Aside0.mk A430
                  clear A430
                  by_cases c44 : (wrap64 (t112 + 2)) > 2
                  · rw [if_pos c44] at H
                    have c44b0 : decide (2 < (wrap64 (t112 + 2))) = true := decide_eq_true c44
                    clear c44
                    obtain ⟨ji45, hji45⟩ : ∃ j_ : Int, (wrap64 ((wrap64 (t112 + 2)) + 1)) = j_ := ⟨_, rfl⟩
                    replace H : (if 0 ≤ (ji45) then (if (ji45) ≤ (t111.size : Int) then ((strings_IndexByte.f (t111.extract ((ji45) : Int).toNat t111.size) 92).bind fun t113 => (if (wrap64 ((wrap64 (t113 + (wrap64 (t112 + 2)))) + 1)) > (wrap64 (t112 + 2)) then (if 0 ≤ (wrap64 ((wrap64 (t113 + (wrap64 (t112 + 2)))) + 1)) then (if (wrap64 ((wrap64 (t113 + (wrap64 (t112 + 2)))) + 1)) ≤ (a0.size : Int) then (some (a0.extract 0 ((wrap64 ((wrap64 (t113 + (wrap64 (t112 + 2)))) + 1)) : Int).toNat, a0.extract ((wrap64 ((wrap64 (t113 + (wrap64 (t112 + 2)))) + 1)) : Int).toNat a0.size)) else (none)) else (none)) else (some ((⟨#[]⟩ : ByteArray), a0)))) else (none)) else (none)) = some (r1, r2) := by first | (rw [hji45] at H; exact H) | (simp only [hji45] at H ⊢; exact H)
                    (try rw [hji45] at A41)
                    (try rw [hji45] at A43)
                    have hji45w : (IntKind.i64.wrap ((wrap64 (t112 + 2)) + 1)) = ji45 := (i64_w _).trans hji45
                    by_cases c46 : 0 ≤ (ji45)
                    · rw [if_pos c46] at H
                      have c46b0 := eq_true c46
                      have c46b1 : decide (0 ≤ (ji45)) = true := decide_eq_true c46
                      clear c46
                      by_cases c47 : (ji45) ≤ (t111.size : Int)
                      · rw [if_pos c47] at H
                        have c47b0 := eq_true c47
                        have c47b1 : decide ((ji45) ≤ (t111.size : Int)) = true := decide_eq_true c47
                        clear c47
                        replace H := Option.bind_eq_some_iff.mp H
                        obtain ⟨t113, A480, H⟩ := H
                        replace H : (if (wrap64 ((wrap64 (t113 + (wrap64 (t112 + 2)))) + 1)) > (wrap64 (t112 + 2)) then (if 0 ≤ (wrap64 ((wrap64 (t113 + (wrap64 (t112 + 2)))) + 1)) then (if (wrap64 ((wrap64 (t113 + (wrap64 (t112 + 2)))) + 1)) ≤ (a0.size : Int) then (some (a0.extract 0 ((wrap64 ((wrap64 (t113 + (wrap64 (t112 + 2)))) + 1)) : Int).toNat, a0.extract ((wrap64 ((wrap64 (t113 + (wrap64 (t112 + 2)))) + 1)) : Int).toNat a0.size)) else (none)) else (none)) else (some ((⟨#[]⟩ : ByteArray), a0))) = some (r1, r2) := H
                        have A48 := Aside0.mk A480
                        clear A480
                        by_cases c49 : (wrap64 ((wrap64 (t113 + (wrap64 (t112 + 2)))) + 1)) > (wrap64 (t112 + 2))
                        · rw [if_pos c49] at H
                          have c49b0 : decide ((wrap64 (t112 + 2)) < (wrap64 ((wrap64 (t113 + (wrap64 (t112 + 2)))) + 1))) = true := decide_eq_true c49
                          clear c49
                          obtain ⟨ji50, hji50⟩ : ∃ j_ : Int, (wrap64 ((wrap64 (t113 + (wrap64 (t112 + 2)))) + 1)) = j_ := ⟨_, rfl⟩
                          replace H : (if 0 ≤ (ji50) then (if (ji50) ≤ (a0.size : Int) then (some (a0.extract 0 ((ji50) : Int).toNat, a0.extract ((ji50) : Int).toNat a0.size)) else (none)) else (none)) = some (r1, r2) := by first | (rw [hji50] at H; exact H) | (simp only [hji50] at H ⊢; exact H)
                          (try rw [hji50] at c49b0)
                          (try rw [hji50] at A41)
                          (try rw [hji50] at A43)
                          (try rw [hji50] at A48)
                          have hji50w : (IntKind.i64.wrap ((wrap64 (t113 + (wrap64 (t112 + 2)))) + 1)) = ji50 := (i64_w _).trans hji50
                          by_cases c51 : 0 ≤ (ji50)
                          · rw [if_pos c51] at H
                            have c51b0 := eq_true c51
                            have c51b1 : decide (0 ≤ (ji50)) = true := decide_eq_true c51
                            clear c51
                            by_cases c52 : (ji50) ≤ (a0.size : Int)
                            · rw [if_pos c52] at H
                              have c52b0 := eq_true c52
                              have c52b1 : decide ((ji50) ≤ (a0.size : Int)) = true := decide_eq_true c52
                              clear c52
                              have c53b0 := eq_true (of_decide_eq_true (by first | (with_reducible assumption) | assumption) : 0 ≤ (ji50))
                              have c54b0 := eq_true (of_decide_eq_true (by first | (with_reducible assumption) | assumption) : (ji50) ≤ (a0.size : Int))
                              simp only [Option.some.injEq, Prod.mk.injEq] at H
                              obtain ⟨rfl, rfl⟩ := H
                              go_wp2_with (first | (go_at_call 70; (with_reducible refine (dwarf_zzReplaceAll.calls kj24 a0 (⟨#[47]⟩ : ByteArray) (⟨#[92]⟩ : ByteArray) t111 _ A41.out).mono ?_); rintro e w55 ⟨rfl, hb⟩; have n0_ := Aside0.mk (below_step (by repeat (first | (with_reducible first | exact HB.out | apply below_alloc | apply pw_below_drewN | apply below_drew1) | exact HB.out)) hb); clear HB; have HB := n0_; clear n0_; (try clear hb); (try clear hb2); (try clear hk); (try clear hi)) | (go_at_call 71; (with_reducible refine (strings_IndexByte.calls (t111.extract 2 t111.size) 92 t112 _ A43.out).mono ?_); rintro e w' ⟨rfl, ⟨nd, rfl⟩⟩; (try first | exact ⟨rfl, _, World.drewN_drewN _ _ _⟩ | exact ⟨rfl, _, Eq.trans (World.drewN_drewN _ _ _) (congrArg (World.drewN _) (Nat.add_assoc _ _ _))⟩)) | (go_at_call 71; (with_reducible refine (strings_IndexByte.calls (t111.extract ((ji45) : Int).toNat t111.size) 92 t113 _ A48.out).mono ?_); rintro e w' ⟨rfl, ⟨nd, rfl⟩⟩; (try first | exact ⟨rfl, _, World.drewN_drewN _ _ _⟩ | exact ⟨rfl, _, Eq.trans (World.drewN_drewN _ _ _) (congrArg (World.drewN _) (Nat.add_assoc _ _ _))⟩)))
                              repeat (go_quiet (first | (go_at_call 70; (with_reducible refine (dwarf_zzReplaceAll.calls kj24 a0 (⟨#[47]⟩ : ByteArray) (⟨#[92]⟩ : ByteArray) t111 _ A41.out).mono ?_); rintro e w55 ⟨rfl, hb⟩; have n0_ := Aside0.mk (below_step (by repeat (first | (with_reducible first | exact HB.out | apply below_alloc | apply pw_below_drewN | apply below_drew1) | exact HB.out)) hb); clear HB; have HB := n0_; clear n0_; (try clear hb); (try clear hb2); (try clear hk); (try clear hi)) | (go_at_call 71; (with_reducible refine (strings_IndexByte.calls (t111.extract 2 t111.size) 92 t112 _ A43.out).mono ?_); rintro e w' ⟨rfl, ⟨nd, rfl⟩⟩; (try first | exact ⟨rfl, _, World.drewN_drewN _ _ _⟩ | exact ⟨rfl, _, Eq.trans (World.drewN_drewN _ _ _) (congrArg (World.drewN _) (Nat.add_assoc _ _ _))⟩)) | (go_at_call 71; (with_reducible refine (strings_IndexByte.calls (t111.extract ((ji45) : Int).toNat t111.size) 92 t113 _ A48.out).mono ?_); rintro e w' ⟨rfl, ⟨nd, rfl⟩⟩; (try first | exact ⟨rfl, _, World.drewN_drewN _ _ _⟩ | exact ⟨rfl, _, Eq.trans (World.drewN_drewN _ _ _) (congrArg (World.drewN _) (Nat.add_assoc _ _ _))⟩))); try go_wp2_with (first | (go_at_call 70; (with_reducible refine (dwarf_zzReplaceAll.calls kj24 a0 (⟨#[47]⟩ : ByteArray) (⟨#[92]⟩ : ByteArray) t111 _ A41.out).mono ?_); rintro e w55 ⟨rfl, hb⟩; have n0_ := Aside0.mk (below_step (by repeat (first | (with_reducible first | exact HB.out | apply below_alloc | apply pw_below_drewN | apply below_drew1) | exact HB.out)) hb); clear HB; have HB := n0_; clear n0_; (try clear hb); (try clear hb2); (try clear hk); (try clear hi)) | (go_at_call 71; (with_reducible refine (strings_IndexByte.calls (t111.extract 2 t111.size) 92 t112 _ A43.out).mono ?_); rintro e w' ⟨rfl, ⟨nd, rfl⟩⟩; (try first | exact ⟨rfl, _, World.drewN_drewN _ _ _⟩ | exact ⟨rfl, _, Eq.trans (World.drewN_drewN _ _ _) (congrArg (World.drewN _) (Nat.add_assoc _ _ _))⟩)) | (go_at_call 71; (with_reducible refine (strings_IndexByte.calls (t111.extract ((ji45) : Int).toNat t111.size) 92 t113 _ A48.out).mono ?_); rintro e w' ⟨rfl, ⟨nd, rfl⟩⟩; (try first | exact ⟨rfl, _, World.drewN_drewN _ _ _⟩ | exact ⟨rfl, _, Eq.trans (World.drewN_drewN _ _ _) (congrArg (World.drewN _) (Nat.add_assoc _ _ _))⟩))))
                              go_ret2
                              exact ⟨by first | rfl | (simp [errW_none, errW_some] <;> rfl) | (simp only [← hji45, ← hji50]; first | rfl | (simp [errW_none, errW_some] <;> rfl)) | (simp [*, errW_none, errW_some] <;> rfl), by repeat (first | (with_reducible first | exact HB.out | apply below_alloc | apply pw_below_drewN | apply below_drew1) | exact HB.out)⟩
                            · rw [if_neg c52] at H
                              exact absurd H (by simp)
                          · rw [if_neg c51] at H
                            exact absurd H (by simp)
                        · rw [if_neg c49] at H
                          have c49b0 : decide ((wrap64 (t112 + 2)) < (wrap64 ((wrap64 (t113 + (wrap64 (t112 + 2)))) + 1))) = false := decide_eq_false c49
                          clear c49
                          simp only [Option.some.injEq, Prod.mk.injEq] at H
                          obtain ⟨rfl, rfl⟩ := H
                          go_wp2_with (first | (go_at_call 70; (with_reducible refine (dwarf_zzReplaceAll.calls kj24 a0 (⟨#[47]⟩ : ByteArray) (⟨#[92]⟩ : ByteArray) t111 _ A41.out).mono ?_); rintro e w56 ⟨rfl, hb⟩; have n0_ := Aside0.mk (below_step (by repeat (first | (with_reducible first | exact HB.out | apply below_alloc | apply pw_below_drewN | apply below_drew1) | exact HB.out)) hb); clear HB; have HB := n0_; clear n0_; (try clear hb); (try clear hb2); (try clear hk); (try clear hi)) | (go_at_call 71; (with_reducible refine (strings_IndexByte.calls (t111.extract 2 t111.size) 92 t112 _ A43.out).mono ?_); rintro e w' ⟨rfl, ⟨nd, rfl⟩⟩; (try first | exact ⟨rfl, _, World.drewN_drewN _ _ _⟩ | exact ⟨rfl, _, Eq.trans (World.drewN_drewN _ _ _) (congrArg (World.drewN _) (Nat.add_assoc _ _ _))⟩)) | (go_at_call 71; (with_reducible refine (strings_IndexByte.calls (t111.extract ((ji45) : Int).toNat t111.size) 92 t113 _ A48.out).mono ?_); rintro e w' ⟨rfl, ⟨nd, rfl⟩⟩; (try first | exact ⟨rfl, _, World.drewN_drewN _ _ _⟩ | exact ⟨rfl, _, Eq.trans (World.drewN_drewN _ _ _) (congrArg (World.drewN _) (Nat.add_assoc _ _ _))⟩)))
                          repeat (go_quiet (first | (go_at_call 70; (with_reducible refine (dwarf_zzReplaceAll.calls kj24 a0 (⟨#[47]⟩ : ByteArray) (⟨#[92]⟩ : ByteArray) t111 _ A41.out).mono ?_); rintro e w56 ⟨rfl, hb⟩; have n0_ := Aside0.mk (below_step (by repeat (first | (with_reducible first | exact HB.out | apply below_alloc | apply pw_below_drewN | apply below_drew1) | exact HB.out)) hb); clear HB; have HB := n0_; clear n0_; (try clear hb); (try clear hb2); (try clear hk); (try clear hi)) | (go_at_call 71; (with_reducible refine (strings_IndexByte.calls (t111.extract 2 t111.size) 92 t112 _ A43.out).mono ?_); rintro e w' ⟨rfl, ⟨nd, rfl⟩⟩; (try first | exact ⟨rfl, _, World.drewN_drewN _ _ _⟩ | exact ⟨rfl, _, Eq.trans (World.drewN_drewN _ _ _) (congrArg (World.drewN _) (Nat.add_assoc _ _ _))⟩)) | (go_at_call 71; (with_reducible refine (strings_IndexByte.calls (t111.extract ((ji45) : Int).toNat t111.size) 92 t113 _ A48.out).mono ?_); rintro e w' ⟨rfl, ⟨nd, rfl⟩⟩; (try first | exact ⟨rfl, _, World.drewN_drewN _ _ _⟩ | exact ⟨rfl, _, Eq.trans (World.drewN_drewN _ _ _) (congrArg (World.drewN _) (Nat.add_assoc _ _ _))⟩))); try go_wp2_with (first | (go_at_call 70; (with_reducible refine (dwarf_zzReplaceAll.calls kj24 a0 (⟨#[47]⟩ : ByteArray) (⟨#[92]⟩ : ByteArray) t111 _ A41.out).mono ?_); rintro e w56 ⟨rfl, hb⟩; have n0_ := Aside0.mk (below_step (by repeat (first | (with_reducible first | exact HB.out | apply below_alloc | apply pw_below_drewN | apply below_drew1) | exact HB.out)) hb); clear HB; have HB := n0_; clear n0_; (try clear hb); (try clear hb2); (try clear hk); (try clear hi)) | (go_at_call 71; (with_reducible refine (strings_IndexByte.calls (t111.extract 2 t111.size) 92 t112 _ A43.out).mono ?_); rintro e w' ⟨rfl, ⟨nd, rfl⟩⟩; (try first | exact ⟨rfl, _, World.drewN_drewN _ _ _⟩ | exact ⟨rfl, _, Eq.trans (World.drewN_drewN _ _ _) (congrArg (World.drewN _) (Nat.add_assoc _ _ _))⟩)) | (go_at_call 71; (with_reducible refine (strings_IndexByte.calls (t111.extract ((ji45) : Int).toNat t111.size) 92 t113 _ A48.out).mono ?_); rintro e w' ⟨rfl, ⟨nd, rfl⟩⟩; (try first | exact ⟨rfl, _, World.drewN_drewN _ _ _⟩ | exact ⟨rfl, _, Eq.trans (World.drewN_drewN _ _ _) (congrArg (World.drewN _) (Nat.add_assoc _ _ _))⟩))))
                          go_ret2
                          exact ⟨by first | rfl | (simp [errW_none, errW_some] <;> rfl) | (simp only [← hji45]; first | rfl | (simp [errW_none, errW_some] <;> rfl)) | (simp [*, errW_none, errW_some] <;> rfl), by repeat (first | (with_reducible first | exact HB.out | apply below_alloc | apply pw_below_drewN | apply below_drew1) | exact HB.out)⟩
                      · rw [if_neg c47] at H
                        exact absurd H (by simp)
                    · rw [if_neg c46] at H
                      exact absurd H (by simp)
                  · rw [if_neg c44] at H
                    have c44b0 : decide (2 < (wrap64 (t112 + 2))) = false := decide_eq_false c44
                    clear c44
                    simp only [Option.some.injEq, Prod.mk.injEq] at H
                    obtain ⟨rfl, rfl⟩ := H
                    go_wp2_with (first | (go_at_call 70; (with_reducible refine (dwarf_zzReplaceAll.calls kj24 a0 (⟨#[47]⟩ : ByteArray) (⟨#[92]⟩ : ByteArray) t111 _ A41.out).mono ?_); rintro e w57 ⟨rfl, hb⟩; have n0_ := Aside0.mk (below_step (by repeat (first | (with_reducible first | exact HB.out | apply below_alloc | apply pw_below_drewN | apply below_drew1) | exact HB.out)) hb); clear HB; have HB := n0_; clear n0_; (try clear hb); (try clear hb2); (try clear hk); (try clear hi)) | (go_at_call 71; (with_reducible refine (strings_IndexByte.calls (t111.extract 2 t111.size) 92 t112 _ A43.out).mono ?_); rintro e w' ⟨rfl, ⟨nd, rfl⟩⟩; (try first | exact ⟨rfl, _, World.drewN_drewN _ _ _⟩ | exact ⟨rfl, _, Eq.trans (World.drewN_drewN _ _ _) (congrArg (World.drewN _) (Nat.add_assoc _ _ _))⟩)))
                    repeat (go_quiet (first | (go_at_call 70; (with_reducible refine (dwarf_zzReplaceAll.calls kj24 a0 (⟨#[47]⟩ : ByteArray) (⟨#[92]⟩ : ByteArray) t111 _ A41.out).mono ?_); rintro e w57 ⟨rfl, hb⟩; have n0_ := Aside0.mk (below_step (by repeat (first | (with_reducible first | exact HB.out | apply below_alloc | apply pw_below_drewN | apply below_drew1) | exact HB.out)) hb); clear HB; have HB := n0_; clear n0_; (try clear hb); (try clear hb2); (try clear hk); (try clear hi)) | (go_at_call 71; (with_reducible refine (strings_IndexByte.calls (t111.extract 2 t111.size) 92 t112 _ A43.out).mono ?_); rintro e w' ⟨rfl, ⟨nd, rfl⟩⟩; (try first | exact ⟨rfl, _, World.drewN_drewN _ _ _⟩ | exact ⟨rfl, _, Eq.trans (World.drewN_drewN _ _ _) (congrArg (World.drewN _) (Nat.add_assoc _ _ _))⟩))); try go_wp2_with (first | (go_at_call 70; (with_reducible refine (dwarf_zzReplaceAll.calls kj24 a0 (⟨#[47]⟩ : ByteArray) (⟨#[92]⟩ : ByteArray) t111 _ A41.out).mono ?_); rintro e w57 ⟨rfl, hb⟩; have n0_ := Aside0.mk (below_step (by repeat (first | (with_reducible first | exact HB.out | apply below_alloc | apply pw_below_drewN | apply below_drew1) | exact HB.out)) hb); clear HB; have HB := n0_; clear n0_; (try clear hb); (try clear hb2); (try clear hk); (try clear hi)) | (go_at_call 71; (with_reducible refine (strings_IndexByte.calls (t111.extract 2 t111.size) 92 t112 _ A43.out).mono ?_); rintro e w' ⟨rfl, ⟨nd, rfl⟩⟩; (try first | exact ⟨rfl, _, World.drewN_drewN _ _ _⟩ | exact ⟨rfl, _, Eq.trans (World.drewN_drewN _ _ _) (congrArg (World.drewN _) (Nat.add_assoc _ _ _))⟩))))
                    go_ret2
                    exact ⟨by first | rfl | (simp [errW_none, errW_some] <;> rfl) | (simp [*, errW_none, errW_some] <;> rfl), by repeat (first | (with_reducible first | exact HB.out | apply below_alloc | apply pw_below_drewN | apply below_drew1) | exact HB.out)⟩
                · rw [if_neg c42] at H
                  exact absurd H (by simp)
              · replace c40 := Bool.eq_false_iff.mpr c40
                subst c40
                have H1 : (some ((⟨#[]⟩ : ByteArray), a0)) = some (r1, r2) := by rw [if_neg (show ¬ (false = true) by decide)] at H; exact H
                clear H
                have H := H1
                clear H1
                simp only [Option.some.injEq, Prod.mk.injEq] at H
                obtain ⟨rfl, rfl⟩ := H
                go_wp2
                repeat (go_quiet (fail); try go_wp2)
                go_ret2
                exact ⟨by first | rfl | (simp [errW_none, errW_some] <;> rfl) | (simp [*, errW_none, errW_some] <;> rfl), by repeat (first | (with_reducible first | exact HB.out | apply below_alloc | apply pw_below_drewN | apply below_drew1) | exact HB.out)⟩

end Go.Proofs.YtdepfipebogdcaaDoor.PPth

namespace Go.Proofs.YtdepfipebogdcaaDoor.PPth
open Go.RowKit Go.Proofs.YtdepfipebogdcaaDoorW.PrintWords Go.Proofs.YtdepfipebogdcaaDoorW.PrintLast Go.Proofs.YtdepfipebogdcaaDoorW.PrintMore Go.Proofs.YtdepfipebogdcaaDoor.Given
attribute [local go_sem] max2_int max_two   -- for this text's walks alone
set_option linter.unusedVariables false
set_option linter.unusedSimpArgs false

/-! ### dwarf_pathIsAbs: function 44 -/
def dwarf_pathIsAbs.f (k : Nat) (a0 : ByteArray) : Option (Bool) := (dwarf_splitDrive.f k a0).bind fun bt114 => (if (bt114.2.size : Int) > 0 then (if 0 < (bt114.2.size : Int) then (if (bt bt114.2 0) = 47 then (some true) else (some ((bt bt114.2 0) == 92))) else (none)) else (some false))
theorem dwarf_pathIsAbs.mono : ∀ a0 k, LeO (dwarf_pathIsAbs.f k a0) (dwarf_pathIsAbs.f (k + 1) a0) := by
  intro a0 k
  unfold dwarf_pathIsAbs.f
  repeat' first
      | (with_reducible exact dwarf_splitDrive.mono _ _)
      | (with_reducible exact LeO.refl _)
      | (with_reducible exact LeO.none _)
      | (with_reducible refine LeO.ite ?_ ?_)
      | (with_reducible refine LeO.bind ?_ (fun _ => ?_))
      | exact dwarf_splitDrive.mono _ _
      | exact LeO.none _
      | refine LeO.ite ?_ ?_
      | refine LeO.bind ?_ (fun _ => ?_)
set_option maxHeartbeats 8000000 in
set_option maxRecDepth 100000 in
theorem dwarf_pathIsAbs.calls (k : Nat) (a0 : ByteArray) (r : Bool) (w : World) (h : dwarf_pathIsAbs.f k a0 = some r) :
    Calls Tryd.prog 44 #[.string a0] w fun e w' => e = .returned (.bool r) ∧ Below w.heap.size w w' := by
  have HB := Aside0.mk (Below.refl w.heap.size w)
  have H : ((dwarf_splitDrive.f k a0).bind fun bt114 => (if (bt114.2.size : Int) > 0 then (if 0 < (bt114.2.size : Int) then (if (bt bt114.2 0) = 47 then (some true) else (some ((bt bt114.2 0) == 92))) else (none)) else (some false))) = some r := h
  clear h
  replace H := Option.bind_eq_some_iff.mp H
  obtain ⟨⟨t114, t115⟩, A20, H⟩ := H
  replace H : (if (t115.size : Int) > 0 then (if 0 < (t115.size : Int) then (if (bt t115 0) = 47 then (some true) else (some ((bt t115 0) == 92))) else (none)) else (some false)) = some r := H
  have A2 := Aside0.mk A20
  clear A20
  by_cases c3 : (t115.size : Int) > 0
  · rw [if_pos c3] at H
    have c3b0 : decide (0 < (t115.size : Int)) = true := decide_eq_true c3
    have c3b1 : decide (0 < t115.size) = true := decide_eq_true (by omega)
    clear c3
    by_cases c4 : 0 < (t115.size : Int)
    · rw [if_pos c4] at H
      have c4b0 : decide (0 < (t115.size : Int)) = true := decide_eq_true c4
      have c4b1 : decide (0 < t115.size) = true := decide_eq_true (by omega)
      clear c4
      by_cases c6 : (bt t115 0) = 47
      · rw [if_pos c6] at H
        have c6b0 : ((bt t115 0) == 47) = true := beq_iff_eq.mpr c6
        have c6b1 : ((bt t115 0) != 47) = false := bne_eq_false_iff_eq.mpr c6
        clear c6
        obtain rfl := Option.some.inj H
        go_enter Tryd.func44, Tryd.ntmps44
        go_wp2_with (first | ((with_reducible refine gate_callee (f := 58) rfl ?_); refine goesL_ (some 5) rfl rfl Tryd.func58 (by kernel_rfl) rfl #[.string a0] rfl (by (try simp only [List.map_toArray, List.map_cons, List.map_nil]); first | done | rfl | (simp only [List.length_drop, List.length_take]; rfl)) ?_; (with_reducible refine (dwarf_splitDrive.calls k a0 t114 t115 _ A2.out).mono ?_); rintro e w7 ⟨rfl, hb⟩; refine ⟨_, rfl, ?_⟩; have n0_ := Aside0.mk (below_step (by repeat (first | (with_reducible first | exact HB.out | apply below_alloc | apply pw_below_drewN | apply below_drew1) | exact HB.out)) hb); clear HB; have HB := n0_; clear n0_; (try clear hb); (try clear hb2); (try clear hk); (try clear hi); have p5 : 0 ≤ (0 : Int) := (by omega); have q5 : 0 < t115.size := (by have : (0 : Int) < (t115.size : Int) := of_decide_eq_true (by first | (with_reducible assumption) | assumption); omega); have hx5 : ∀ h : 0 < t115.size, ((t115[0]'h).toNat : Int) = bt t115 0 := bt_at t115 0; clear p5; have qi5 : (0 < (t115.size : Int)) = True := eq_true (of_decide_eq_true (by first | (with_reducible assumption) | assumption)); replace q5 := eq_true q5))
        go_ret
        exact ⟨by first | rfl | (simp [errW_none, errW_some] <;> rfl) | (simp [*, errW_none, errW_some] <;> rfl), by repeat (first | (with_reducible first | exact HB.out | apply below_alloc | apply pw_below_drewN | apply below_drew1) | exact HB.out)⟩
      · rw [if_neg c6] at H
        have c6b0 : ((bt t115 0) == 47) = false := beq_eq_false_iff_ne.mpr c6
        have c6b1 : ((bt t115 0) != 47) = true := bne_iff_ne.mpr c6
        obtain rfl := Option.some.inj H
        go_enter Tryd.func44, Tryd.ntmps44
        go_wp2_with (first | ((with_reducible refine gate_callee (f := 58) rfl ?_); refine goesL_ (some 5) rfl rfl Tryd.func58 (by kernel_rfl) rfl #[.string a0] rfl (by (try simp only [List.map_toArray, List.map_cons, List.map_nil]); first | done | rfl | (simp only [List.length_drop, List.length_take]; rfl)) ?_; (with_reducible refine (dwarf_splitDrive.calls k a0 t114 t115 _ A2.out).mono ?_); rintro e w9 ⟨rfl, hb⟩; refine ⟨_, rfl, ?_⟩; have n0_ := Aside0.mk (below_step (by repeat (first | (with_reducible first | exact HB.out | apply below_alloc | apply pw_below_drewN | apply below_drew1) | exact HB.out)) hb); clear HB; have HB := n0_; clear n0_; (try clear hb); (try clear hb2); (try clear hk); (try clear hi); have p5 : 0 ≤ (0 : Int) := (by omega); have q5 : 0 < t115.size := (by have : (0 : Int) < (t115.size : Int) := of_decide_eq_true (by first | (with_reducible assumption) | assumption); omega); have hx5 : ∀ h : 0 < t115.size, ((t115[0]'h).toNat : Int) = bt t115 0 := bt_at t115 0; clear p5; have qi5 : (0 < (t115.size : Int)) = True := eq_true (of_decide_eq_true (by first | (with_reducible assumption) | assumption)); replace q5 := eq_true q5; have p8 : 0 ≤ (0 : Int) := (by omega); have q8 : 0 < t115.size := (by have : (0 : Int) < (t115.size : Int) := of_decide_eq_true (by first | (with_reducible assumption) | assumption); omega); have hx8 : ∀ h : 0 < t115.size, ((t115[0]'h).toNat : Int) = bt t115 0 := bt_at t115 0; clear p8; have qi8 : (0 < (t115.size : Int)) = True := eq_true (of_decide_eq_true (by first | (with_reducible assumption) | assumption)); replace q8 := eq_true q8))
        go_ret
        exact ⟨by first | rfl | (simp [errW_none, errW_some] <;> rfl) | (simp [*, errW_none, errW_some] <;> rfl), by repeat (first | (with_reducible first | exact HB.out | apply below_alloc | apply pw_below_drewN | apply below_drew1) | exact HB.out)⟩
    · rw [if_neg c4] at H
      exact absurd H (by simp)
  · rw [if_neg c3] at H
    have c3b0 : decide (0 < (t115.size : Int)) = false := decide_eq_false c3
    have c3b1 : decide (0 < t115.size) = false := decide_eq_false (by omega)
    clear c3
    obtain rfl := Option.some.inj H
    go_enter Tryd.func44, Tryd.ntmps44
    go_wp2_with (first | ((with_reducible refine gate_callee (f := 58) rfl ?_); refine goesL_ (some 5) rfl rfl Tryd.func58 (by kernel_rfl) rfl #[.string a0] rfl (by (try simp only [List.map_toArray, List.map_cons, List.map_nil]); first | done | rfl | (simp only [List.length_drop, List.length_take]; rfl)) ?_; (with_reducible refine (dwarf_splitDrive.calls k a0 t114 t115 _ A2.out).mono ?_); rintro e w10 ⟨rfl, hb⟩; refine ⟨_, rfl, ?_⟩; have n0_ := Aside0.mk (below_step (by repeat (first | (with_reducible first | exact HB.out | apply below_alloc | apply pw_below_drewN | apply below_drew1) | exact HB.out)) hb); clear HB; have HB := n0_; clear n0_; (try clear hb); (try clear hb2); (try clear hk); (try clear hi)))
    go_ret
    exact ⟨by first | rfl | (simp [errW_none, errW_some] <;> rfl) | (simp [*, errW_none, errW_some] <;> rfl), by repeat (first | (with_reducible first | exact HB.out | apply below_alloc | apply pw_below_drewN | apply below_drew1) | exact HB.out)⟩

/-- THE ONE PURE STATEMENT of dwarf_pathIsAbs: yours. -/
def dwarf_pathIsAbs.Pure : Prop := ∀ (a0 : ByteArray), a0.size ≤ 140737488351232 → ∃ k, dwarf_pathIsAbs.f k a0 = some true
theorem dwarf_pathIsAbs.walk (P : dwarf_pathIsAbs.Pure) (a0 : ByteArray) (w : World) (w0 : a0.size ≤ 140737488351232) :
    Calls Tryd.prog 44 #[.string a0] w fun e w' => e = .returned (.bool true) ∧ Below w.heap.size w w' := by
  obtain ⟨k, h⟩ := P a0 w0
  refine (dwarf_pathIsAbs.calls k a0 true w h).mono ?_
  rintro e w' ⟨rfl, hd⟩
  exact ⟨rfl, hd⟩

end Go.Proofs.YtdepfipebogdcaaDoor.PPth

/- What the printed functions on paths come to, told in lists of bytes. -/
namespace Go.Proofs.YtdepfipebogdcaaDoor.Paths
open Go.RowKit Go.Proofs.YtdepfipebogdcaaDoor.PPth Go.Proofs.YtdepfipebogdcaaDoorW.PrintWords Go.Proofs.YtdepfipebogdcaaDoorW.PrintLast Go.Proofs.YtdepfipebogdcaaDoorW.PrintMore Go.Proofs.YtdepfipebogdcaaDoor.Given

abbrev by_ (s : ByteArray) : List UInt8 := s.data.toList
theorem by_length (s : ByteArray) : (by_ s).length = s.size := by
  show s.data.toList.length = s.data.size
  rw [Array.length_toList]
theorem by_extract (s : ByteArray) (a b : Nat) : by_ (s.extract a b) = ((by_ s).take b).drop a := by
  show (s.extract a b).data.toList = _
  rw [ByteArray.data_extract, Array.toList_extract, List.extract_eq_take_drop, List.drop_take]
theorem by_ext {s t : ByteArray} (h : by_ s = by_ t) : s = t := ByteArray.ext (Array.ext' h)
theorem by_append (s t : ByteArray) : by_ (s ++ t) = by_ s ++ by_ t := by simp [by_, ByteArray.data_append]
theorem bt_of (s : ByteArray) (i : Nat) (h : i < s.size) : bt s (i : Int) = (((by_ s)[i]'(by rw [by_length]; exact h)).toNat : Int) := by
  unfold bt
  rw [dif_pos (by simpa using h)]
  simp [by_]
  rfl
theorem index_lt (c : UInt8) : ∀ l : List UInt8, Lib.indexByte l c < l.length
  | [] => by simp [Lib.indexByte]
  | b :: r => by
    have := index_lt c r
    rw [Lib.indexByte]
    split
    · simp; try omega
    · split
      · simp; try omega
      · simp; try omega
theorem index_at (c : UInt8) : ∀ (h r : List UInt8), (∀ b ∈ h, b ≠ c) → Lib.indexByte (h ++ c :: r) c = h.length
  | [], r, _ => by simp [Lib.indexByte]
  | b :: h, r, hb => by
    have ih := index_at c h r (fun x hx => hb x (by simp [hx]))
    have hne : (b == c) = false := beq_eq_false_iff_ne.2 (hb b (by simp))
    rw [List.cons_append, Lib.indexByte, hne, ih]
    have : ((h.length : Int) == -1) = false := by simp
    rw [this]
    simp
/-- Slashes turned. -/
def turned (l : List UInt8) : List UInt8 := l.map fun b => if b = 47 then 92 else b

theorem lit47 : (⟨#[47]⟩ : ByteArray).toList = [47] := by rw [Lib.toList_data]
/-- zzIndex of a byte: where it stands, or nowhere. -/
theorem zzIndex_f (s : ByteArray) (hs : s.size < 1000000000000) (d : Nat) : ∀ i, s.size - i = d → i ≤ s.size → (∀ j (hj : j < s.size), j < i → (by_ s)[j]'(by rw [by_length]; exact hj) ≠ 47) →
    (Ev (fun k => dwarf_zzIndex.l0 k s (⟨#[47]⟩ : ByteArray) (i : Int)) (-1) ∧ ∀ b ∈ by_ s, b ≠ 47) ∨ (∃ j : Nat, ∃ h : j < s.size, Ev (fun k => dwarf_zzIndex.l0 k s (⟨#[47]⟩ : ByteArray) (i : Int)) (j : Int) ∧ (by_ s)[j]'(by rw [by_length]; exact h) = 47 ∧ ∀ m (hm : m < s.size), m < j → (by_ s)[m]'(by rw [by_length]; exact hm) ≠ 47) := by
  induction d with
  | zero =>
    intro i hd hi hj
    left
    refine ⟨Ev.step (f := fun _ => some (-1)) (fun k => ?_) (Ev.now _), fun b hb => ?_⟩
    · simp only [dwarf_zzIndex.l0]
      have : wrap64 ((i : Int) + ((⟨#[47]⟩ : ByteArray).size : Int)) = (i : Int) + 1 := by show wrap64 ((i : Int) + 1) = _; unfold wrap64; omega
      rw [this, if_neg (by omega)]
    · obtain ⟨j, hj', rfl⟩ := List.mem_iff_getElem.1 hb
      rw [by_length] at hj'
      exact hj j hj' (by omega)
  | succ d ih =>
    intro i hd hi hj
    have hlt : i < s.size := by omega
    have hw : wrap64 ((i : Int) + ((⟨#[47]⟩ : ByteArray).size : Int)) = ((i + 1 : Nat) : Int) := by show wrap64 ((i : Int) + 1) = _; unfold wrap64; omega
    have hw2 : wrap64 ((i : Int) + 1) = ((i + 1 : Nat) : Int) := by unfold wrap64; omega
    have hex : (s.extract i (i + 1)).toList = [(by_ s)[i]'(by rw [by_length]; exact hlt)] := by
      rw [Lib.toList_data]
      show by_ _ = _
      have hL : i < (by_ s).length := by rw [by_length]; exact hlt
      rw [by_extract, List.drop_take, show i + 1 - i = 1 by omega, List.drop_eq_getElem_cons hL]
      rfl
    by_cases h0 : (by_ s)[i]'(by rw [by_length]; exact hlt) = 47
    · right
      refine ⟨i, hlt, Ev.step (f := fun _ => some (i : Int)) (fun k => ?_) (Ev.now _), h0, fun m hm hmi => hj m hm hmi⟩
      simp only [dwarf_zzIndex.l0]
      rw [hw, if_pos (by omega), if_pos (by omega), if_pos (by omega), Int.toNat_natCast, Int.toNat_natCast, hex, h0, if_pos lit47.symm]
    · have hne : ¬ (s.extract i (i + 1)).toList = (⟨#[47]⟩ : ByteArray).toList := by
        rw [hex, lit47]
        intro e
        injection e with e1 _
        exact h0 e1
      have hjj : ∀ j (hj : j < s.size), j < i + 1 → (by_ s)[j]'(by rw [by_length]; exact hj) ≠ 47 := fun j hj' hji => by
        by_cases hc : j = i
        · subst hc; exact h0
        · exact hj j hj' (by omega)
      have st : ∀ r, Ev (fun k => dwarf_zzIndex.l0 k s (⟨#[47]⟩ : ByteArray) ((i + 1 : Nat) : Int)) r → Ev (fun k => dwarf_zzIndex.l0 k s (⟨#[47]⟩ : ByteArray) (i : Int)) r := fun r hr => by
        refine Ev.step (fun k => ?_) hr
        simp only [dwarf_zzIndex.l0]
        rw [hw, if_pos (by omega), if_pos (by omega), if_pos (by omega), Int.toNat_natCast, Int.toNat_natCast, if_neg hne, hw2]
      rcases ih (i + 1) (by omega) (by omega) hjj with ⟨h1, h2⟩ | ⟨j, h, h1, h2⟩
      · exact .inl ⟨st _ h1, h2⟩
      · exact .inr ⟨j, h, st _ h1, h2⟩

theorem by_nums (xs : List Int) : by_ (strOfNums xs) = Lib.bytesOf xs := by
  show (strOfNums xs).data.toList = _
  rw [← Lib.toList_data, Lib.strOfNums_toList]
theorem by_app (xs ys : List Int) : by_ (strOfNums (xs ++ ys)) = by_ (strOfNums xs) ++ by_ (strOfNums ys) := by
  rw [by_nums, by_nums, by_nums, Lib.bytesOf, List.map_append]
  rfl
theorem by_bytesOf (s : ByteArray) : by_ (strOfNums (bytesOf s)) = by_ s := by
  rw [by_nums, Lib.bytesOf, bytesOf, List.map_map]
  conv => rhs; rw [← List.map_id (by_ s)]
  apply List.map_congr_left
  intro b _
  simp
theorem turned_self {l : List UInt8} (h : ∀ b ∈ l, b ≠ 47) : turned l = l := by
  unfold turned
  conv => rhs; rw [← List.map_id l]
  apply List.map_congr_left
  intro b hb
  rw [if_neg (h b hb)]
  rfl
theorem size_extract0 (s : ByteArray) (j : Nat) (h : j ≤ s.size) : (s.extract 0 j).size = j := by
  rw [← by_length, by_extract, List.drop_zero, List.length_take, by_length]; omega
theorem size_extractE (s : ByteArray) (j : Nat) (h : j ≤ s.size) : (s.extract j s.size).size = s.size - j := by
  rw [← by_length, by_extract, List.length_drop, List.length_take, by_length]; omega

/-- zzReplaceAll of slashes by backslashes. -/
theorem zzReplaceAll_f (n : Nat) : ∀ (s : ByteArray) (out : List Int), s.size = n → s.size + out.length < 1000000000000 →
    ∃ t, Ev (fun k => dwarf_zzReplaceAll.l0 k s (⟨#[47]⟩ : ByteArray) (⟨#[92]⟩ : ByteArray) out) t ∧ by_ t = by_ (strOfNums out) ++ turned (by_ s) := by
  induction n using Nat.strongRecOn with
  | _ n ih =>
    intro s out hn hs
    have step : ∀ k, dwarf_zzReplaceAll.l0 (k + 1) s (⟨#[47]⟩ : ByteArray) (⟨#[92]⟩ : ByteArray) out = (dwarf_zzIndex.f k s (⟨#[47]⟩ : ByteArray)).bind fun t101 => (if t101 < 0 then (if out.length + s.size < 140737488355328 then (some (strOfNums (out ++ bytesOf s))) else (none)) else (if 0 ≤ t101 then (if t101 ≤ (s.size : Int) then (if out.length + (s.extract 0 (t101 : Int).toNat).size < 140737488355328 then ((some (out ++ bytesOf (s.extract 0 (t101 : Int).toNat) : List Int)).bind fun y105 => (if y105.length + (⟨#[92]⟩ : ByteArray).size < 140737488355328 then (if 0 ≤ (wrap64 (t101 + ((⟨#[47]⟩ : ByteArray).size : Int))) then (if (wrap64 (t101 + ((⟨#[47]⟩ : ByteArray).size : Int))) ≤ (s.size : Int) then (dwarf_zzReplaceAll.l0 k (s.extract ((wrap64 (t101 + ((⟨#[47]⟩ : ByteArray).size : Int))) : Int).toNat s.size) (⟨#[47]⟩ : ByteArray) (⟨#[92]⟩ : ByteArray) (y105 ++ bytesOf (⟨#[92]⟩ : ByteArray))) else (none)) else (none)) else (none))) else (none)) else (none)) else (none))) := fun k => by simp only [dwarf_zzReplaceAll.l0]
    rcases zzIndex_f s (by omega) _ 0 rfl (by omega) (fun j _ h => by omega) with ⟨h1, h2⟩ | ⟨j, hj, h1, h2, h3⟩
    · have h1' : Ev (fun k => dwarf_zzIndex.f k s (⟨#[47]⟩ : ByteArray)) (-1) := by unfold dwarf_zzIndex.f; exact h1
      refine ⟨strOfNums (out ++ bytesOf s), Ev.step step (Ev.bind h1' ?_), ?_⟩
      · refine Ev.congr (f := fun _ => some (strOfNums (out ++ bytesOf s))) (fun n => ?_) (Ev.now _)
        rw [if_pos (by decide), if_pos (by omega)]
      · rw [by_app, by_bytesOf, turned_self h2]
    · have h1' : Ev (fun k => dwarf_zzIndex.f k s (⟨#[47]⟩ : ByteArray)) (j : Int) := by unfold dwarf_zzIndex.f; exact h1
      have hw : wrap64 ((j : Int) + ((⟨#[47]⟩ : ByteArray).size : Int)) = ((j + 1 : Nat) : Int) := by show wrap64 ((j : Int) + 1) = _; unfold wrap64; omega
      have hsz := size_extract0 s j (by omega)
      have hse := size_extractE s (j + 1) (by omega)
      obtain ⟨t, ht1, ht2⟩ := ih (s.size - (j + 1)) (by omega) (s.extract (j + 1) s.size) ((out ++ bytesOf (s.extract 0 j)) ++ bytesOf (⟨#[92]⟩ : ByteArray)) hse (by
        rw [hse, List.length_append, List.length_append, bytesOf_length, bytesOf_length, hsz]
        show s.size - (j + 1) + (out.length + j + 1) < _
        omega)
      refine ⟨t, Ev.step step (Ev.bind h1' ?_), ?_⟩
      · refine Ev.congr (fun n => ?_) ht1
        simp only [hw, Int.toNat_natCast, Option.bind_some]
        rw [if_neg (by omega), if_pos (by omega), if_pos (by omega), if_pos (by rw [hsz]; omega)]
        rw [if_pos (by rw [List.length_append, bytesOf_length, hsz]; show out.length + j + 1 < _; omega), if_pos (by omega), if_pos (by omega)]
      · have hjl : j < (by_ s).length := by rw [by_length]; exact hj
        have hsplit : by_ s = (by_ s).take j ++ 47 :: (by_ s).drop (j + 1) := by
          conv => lhs; rw [← List.take_append_drop j (by_ s), List.drop_eq_getElem_cons hjl, h2]
        have hpre : turned ((by_ s).take j) = (by_ s).take j := turned_self (fun b hb => by
          obtain ⟨m, hm, rfl⟩ := List.mem_iff_getElem.1 hb
          rw [List.length_take] at hm
          rw [List.getElem_take]
          exact h3 m (by omega) (by omega))
        have e1 : by_ (s.extract 0 j) = (by_ s).take j := by rw [by_extract, List.drop_zero]
        have e2 : by_ (s.extract (j + 1) s.size) = (by_ s).drop (j + 1) := by rw [by_extract, ← by_length, List.take_length]
        have e3 : turned (by_ s) = (by_ s).take j ++ 92 :: turned ((by_ s).drop (j + 1)) := by
          conv => lhs; rw [hsplit]
          unfold turned at hpre ⊢
          rw [List.map_append, hpre, List.map_cons, if_pos rfl]
        rw [ht2, by_app, by_app, by_bytesOf, by_bytesOf, e1, e2, e3]
        simp [by_]

/-- The two parts of a path. -/
def Cut (s : ByteArray) (n : Nat) (r : ByteArray × ByteArray) : Prop := n ≤ s.size ∧ by_ r.1 = (by_ s).take n ∧ by_ r.2 = (by_ s).drop n
theorem cut_mk (s : ByteArray) (n : Nat) (h : n ≤ s.size) : Cut s n (s.extract 0 n, s.extract n s.size) := by
  refine ⟨h, ?_, ?_⟩
  · show by_ (s.extract 0 n) = _
    rw [by_extract, List.drop_zero]
  · show by_ (s.extract n s.size) = _
    rw [by_extract, ← by_length, List.take_length]
theorem cut_none (s : ByteArray) : Cut s 0 ((⟨#[]⟩ : ByteArray), s) := ⟨Nat.zero_le _, by simp [by_], by simp⟩

def j2b (x0 t111 : ByteArray) : Option (ByteArray × ByteArray) := (if 2 ≤ (t111.size : Int) then ((strings_IndexByte.f (t111.extract 2 t111.size) 92).bind fun t112 => (if (wrap64 (t112 + 2)) > 2 then (if 0 ≤ (wrap64 ((wrap64 (t112 + 2)) + 1)) then (if (wrap64 ((wrap64 (t112 + 2)) + 1)) ≤ (t111.size : Int) then ((strings_IndexByte.f (t111.extract ((wrap64 ((wrap64 (t112 + 2)) + 1)) : Int).toNat t111.size) 92).bind fun t113 => (if (wrap64 ((wrap64 (t113 + (wrap64 (t112 + 2)))) + 1)) > (wrap64 (t112 + 2)) then (if 0 ≤ (wrap64 ((wrap64 (t113 + (wrap64 (t112 + 2)))) + 1)) then (if (wrap64 ((wrap64 (t113 + (wrap64 (t112 + 2)))) + 1)) ≤ (x0.size : Int) then (some (x0.extract 0 ((wrap64 ((wrap64 (t113 + (wrap64 (t112 + 2)))) + 1)) : Int).toNat, x0.extract ((wrap64 ((wrap64 (t113 + (wrap64 (t112 + 2)))) + 1)) : Int).toNat x0.size)) else (none)) else (none)) else (some ((⟨#[]⟩ : ByteArray), x0)))) else (none)) else (none)) else (some ((⟨#[]⟩ : ByteArray), x0)))) else (none))
theorem j2_step (s : ByteArray) (k : Nat) : dwarf_splitDrive.j2 (k + 1) s true = (dwarf_zzReplaceAll.f k s (⟨#[47]⟩ : ByteArray) (⟨#[92]⟩ : ByteArray)).bind fun t => j2b s t := by
  simp only [dwarf_splitDrive.j2, j2b]
  rw [if_pos trivial]

/-- Nothing is cut off, or a slash stands there. -/
def Sl (s : ByteArray) (n : Nat) : Prop := n = 0 ∨ (turned (by_ s))[n]? = some 92
theorem index_hit (c : UInt8) : ∀ l : List UInt8, 0 ≤ Lib.indexByte l c → l[(Lib.indexByte l c).toNat]? = some c
  | [], h => by simp [Lib.indexByte] at h
  | x :: r, h => by
    rw [Lib.indexByte] at h ⊢
    split
    · rename_i hx
      simp at hx
      simp [hx]
    · rename_i hx
      rw [if_neg hx] at h
      split
      · rename_i hr
        rw [if_pos hr] at h
        omega
      · rename_i hr
        have h1 := Lib.indexByte_ge r c
        have hr2 : Lib.indexByte r c ≠ -1 := by simpa using hr
        have h2 : 0 ≤ Lib.indexByte r c := by omega
        have h3 := index_hit c r h2
        have h4 : (Lib.indexByte r c + 1).toNat = (Lib.indexByte r c).toNat + 1 := by omega
        rw [h4, List.getElem?_cons_succ]
        exact h3
/-- Behind two slashes: where the share ends. -/
theorem j2_true (s : ByteArray) (hs : s.size < 2147483648) (h3 : 3 < s.size) : ∃ n r, Cut s n r ∧ Ev (fun k => dwarf_splitDrive.j2 k s true) r ∧
    (∀ H S R : List UInt8, turned (by_ s) = 92 :: 92 :: (H ++ 92 :: (S ++ 92 :: R)) → H ≠ [] → (∀ b ∈ H, b ≠ 92) → (∀ b ∈ S, b ≠ 92) → n = H.length + S.length + 3) ∧ Sl s n := by
  obtain ⟨t, ht1, ht2⟩ := zzReplaceAll_f _ s [] rfl (by simpa using (by omega : s.size < 1000000000000))
  have ht : by_ t = turned (by_ s) := by rw [ht2]; rfl
  have hsz : t.size = s.size := by rw [← by_length, ht, turned, List.length_map, by_length]
  have ht1' : Ev (fun k => dwarf_zzReplaceAll.f k s (⟨#[47]⟩ : ByteArray) (⟨#[92]⟩ : ByteArray)) t := by unfold dwarf_zzReplaceAll.f; exact ht1
  obtain ⟨a, ha⟩ : ∃ a, Lib.indexByte (by_ (t.extract 2 t.size)) 92 = a := ⟨_, rfl⟩
  have ha1 := Lib.indexByte_ge (by_ (t.extract 2 t.size)) 92
  have ha2 := index_lt 92 (by_ (t.extract 2 t.size))
  rw [ha, by_length, size_extractE t 2 (by omega), hsz] at ha2
  rw [ha] at ha1
  have fa : strings_IndexByte.f (t.extract 2 t.size) 92 = some a := by unfold strings_IndexByte.f; rw [← ha]; rfl
  have hw : wrap64 (a + 2) = a + 2 := by unfold wrap64; omega
  by_cases hc : a + 2 > 2
  · have hw2 : wrap64 (a + 2 + 1) = ((a.toNat + 3 : Nat) : Int) := by unfold wrap64; omega
    obtain ⟨b, hb⟩ : ∃ b, Lib.indexByte (by_ (t.extract (a.toNat + 3) t.size)) 92 = b := ⟨_, rfl⟩
    have hb1 := Lib.indexByte_ge (by_ (t.extract (a.toNat + 3) t.size)) 92
    have hb2 := index_lt 92 (by_ (t.extract (a.toNat + 3) t.size))
    rw [hb, by_length, size_extractE t (a.toNat + 3) (by omega), hsz] at hb2
    rw [hb] at hb1
    have fb : strings_IndexByte.f (t.extract (a.toNat + 3) t.size) 92 = some b := by unfold strings_IndexByte.f; rw [← hb]; rfl
    have hw3 : wrap64 (b + (a + 2)) = b + (a + 2) := by unfold wrap64; omega
    have hw4 : wrap64 (b + (a + 2) + 1) = b + (a + 2) + 1 := by unfold wrap64; omega
    have share : ∀ H S R : List UInt8, turned (by_ s) = 92 :: 92 :: (H ++ 92 :: (S ++ 92 :: R)) → (∀ b ∈ H, b ≠ 92) → (∀ b ∈ S, b ≠ 92) → a = H.length ∧ b = S.length := by
      intro H S R hT hH hS
      have e1 : by_ (t.extract 2 t.size) = H ++ 92 :: (S ++ 92 :: R) := by rw [by_extract, ← by_length, List.take_length, ht, hT]; rfl
      have ea : a = H.length := by rw [← ha, e1, index_at 92 H _ hH]
      have e2 : by_ (t.extract (a.toNat + 3) t.size) = S ++ 92 :: R := by
        rw [by_extract, ← by_length, List.take_length, ht, hT, ea, Int.toNat_natCast]
        show (H ++ 92 :: (S ++ 92 :: R)).drop (H.length + 1) = _
        rw [List.drop_append]
        simp
      exact ⟨ea, by rw [← hb, e2, index_at 92 S _ hS]⟩
    by_cases hd : b + (a + 2) + 1 > a + 2
    · obtain ⟨n, hn⟩ : ∃ n : Nat, b + (a + 2) + 1 = (n : Int) := ⟨(b + (a + 2) + 1).toNat, by omega⟩
      have e : j2b s t = some (s.extract 0 n, s.extract n s.size) := by
        unfold j2b
        rw [if_pos (by omega), fa]
        simp only [Option.bind_some, hw, hw2, Int.toNat_natCast]
        rw [if_pos hc, if_pos (by omega), if_pos (by omega), fb]
        simp only [Option.bind_some, hw3, hw4]
        have g2 : (0 : Int) ≤ b + (a + 2) + 1 := by omega
        have g3 : b + (a + 2) + 1 ≤ (s.size : Int) := by omega
        rw [if_pos hd, if_pos g2, if_pos g3, hn, Int.toNat_natCast]
      refine ⟨n, _, cut_mk s n (by omega), Ev.step (j2_step s) (Ev.bind ht1' (Ev.congr (f := fun _ => some (s.extract 0 n, s.extract n s.size)) (fun _ => e) (Ev.now _))), ?_, ?_⟩
      rotate_left
      · right
        have h1 := index_hit 92 (by_ (t.extract (a.toNat + 3) t.size)) (by rw [hb]; omega)
        rw [hb, by_extract, ← by_length, List.take_length, ht, List.getElem?_drop] at h1
        rw [← h1]
        congr 1
        omega
      intro H S R hT _ hH hS
      obtain ⟨h1, h2⟩ := share H S R hT hH hS
      omega
    · have e : j2b s t = some ((⟨#[]⟩ : ByteArray), s) := by
        unfold j2b
        rw [if_pos (by omega), fa]
        simp only [Option.bind_some, hw, hw2, Int.toNat_natCast]
        rw [if_pos hc, if_pos (by omega), if_pos (by omega), fb]
        simp only [Option.bind_some, hw3, hw4]
        rw [if_neg (by omega)]
      refine ⟨0, _, cut_none s, Ev.step (j2_step s) (Ev.bind ht1' (Ev.congr (f := fun _ => some ((⟨#[]⟩ : ByteArray), s)) (fun _ => e) (Ev.now _))), ?_, .inl rfl⟩
      intro H S R hT _ hH hS
      obtain ⟨h1, h2⟩ := share H S R hT hH hS
      omega
  · have e : j2b s t = some ((⟨#[]⟩ : ByteArray), s) := by
      unfold j2b
      rw [if_pos (by omega), fa]
      simp only [Option.bind_some, hw]
      rw [if_neg (by omega)]
    refine ⟨0, _, cut_none s, Ev.step (j2_step s) (Ev.bind ht1' (Ev.congr (f := fun _ => some ((⟨#[]⟩ : ByteArray), s)) (fun _ => e) (Ev.now _))), ?_, .inl rfl⟩
    intro H S R hT hne hH hS
    have e1 : by_ (t.extract 2 t.size) = H ++ 92 :: (S ++ 92 :: R) := by rw [by_extract, ← by_length, List.take_length, ht, hT]; rfl
    have ea : a = H.length := by rw [← ha, e1, index_at 92 H _ hH]
    have : 0 < H.length := List.length_pos_iff.2 hne
    omega

/-- Without two slashes there is no share. -/
theorem j2_false (s : ByteArray) : Ev (fun k => dwarf_splitDrive.j2 k s false) ((⟨#[]⟩ : ByteArray), s) := by
  refine Ev.step (f := fun _ => some ((⟨#[]⟩ : ByteArray), s)) (fun k => ?_) (Ev.now _)
  simp only [dwarf_splitDrive.j2]
  rw [if_neg (by decide)]

theorem j2_any (s : ByteArray) (hs : s.size < 2147483648) (h3 : 3 < s.size) (b : Bool) : ∃ n r, Cut s n r ∧ Sl s n ∧ Ev (fun k => dwarf_splitDrive.j2 k s b) r := by
  cases b with
  | false => exact ⟨0, _, cut_none s, .inl rfl, j2_false s⟩
  | true => obtain ⟨n, r, h1, h2, _, h4⟩ := j2_true s hs h3; exact ⟨n, r, h1, h4, h2⟩

theorem j1_any (s : ByteArray) (hs : s.size < 2147483648) : ∃ n r, Cut s n r ∧ Sl s n ∧ Ev (fun k => dwarf_splitDrive.j1 k s) r := by
  by_cases c : (s.size : Int) > 3
  · have pick : ∀ b, (∀ k, dwarf_splitDrive.j1 (k + 1) s = dwarf_splitDrive.j2 k s b) → ∃ n r, Cut s n r ∧ Sl s n ∧ Ev (fun k => dwarf_splitDrive.j1 k s) r := fun b hb => by
      obtain ⟨n, r, h1, h4, h2⟩ := j2_any s hs (by omega) b
      exact ⟨n, r, h1, h4, Ev.step hb h2⟩
    by_cases c1 : bt s 0 = 92
    · by_cases c2 : bt s 1 = 92
      · exact pick true (fun k => by simp only [dwarf_splitDrive.j1]; rw [if_pos c, if_pos (by omega), if_pos c1, if_pos (by omega), if_pos c2])
      · exact pick (bt s 1 == 47) (fun k => by simp only [dwarf_splitDrive.j1]; rw [if_pos c, if_pos (by omega), if_pos c1, if_pos (by omega), if_neg c2])
    · by_cases c3 : bt s 0 = 47
      · by_cases c2 : bt s 1 = 92
        · exact pick true (fun k => by simp only [dwarf_splitDrive.j1]; rw [if_pos c, if_pos (by omega), if_neg c1, if_pos c3, if_pos (by omega), if_pos c2])
        · exact pick (bt s 1 == 47) (fun k => by simp only [dwarf_splitDrive.j1]; rw [if_pos c, if_pos (by omega), if_neg c1, if_pos c3, if_pos (by omega), if_neg c2])
      · exact pick false (fun k => by simp only [dwarf_splitDrive.j1]; rw [if_pos c, if_pos (by omega), if_neg c1, if_neg c3])
  · exact ⟨0, _, cut_none s, .inl rfl, Ev.step (fun k => by simp only [dwarf_splitDrive.j1]; rw [if_neg c]) (j2_false s)⟩

/-- A letter. -/
def Letter (c : Int) : Prop := (97 ≤ c ∧ c ≤ 122) ∨ (65 ≤ c ∧ c ≤ 90)
theorem j0_other (s : ByteArray) (h2 : 2 ≤ s.size) (hl : ¬ Letter (bt s 0)) (k : Nat) : dwarf_splitDrive.j0 (k + 1) s true = dwarf_splitDrive.j1 k s := by
  simp only [dwarf_splitDrive.j0]
  rw [if_pos trivial, if_pos (by omega)]
  unfold Letter at hl
  by_cases c1 : 97 ≤ bt s 0
  · rw [if_pos c1, if_neg (by omega)]
    rw [if_pos (by omega), if_neg (by omega)]
  · rw [if_neg c1]
    by_cases c2 : 65 ≤ bt s 0
    · rw [if_pos c2, if_neg (by omega)]
    · rw [if_neg c2]
theorem j0_false (s : ByteArray) (k : Nat) : dwarf_splitDrive.j0 (k + 1) s false = dwarf_splitDrive.j1 k s := by
  simp only [dwarf_splitDrive.j0]
  rw [if_neg (by decide)]

theorem sd_slash (s : ByteArray) (hs : s.size < 2147483648) (h0 : bt s 0 = 47) : ∃ n r, Cut s n r ∧ Sl s n ∧ Ev (fun k => dwarf_splitDrive.f k s) r := by
  obtain ⟨n, r, h1, h4, h2⟩ := j1_any s hs
  refine ⟨n, r, h1, h4, ?_⟩
  unfold dwarf_splitDrive.f
  have hl : ¬ Letter (bt s 0) := by unfold Letter; omega
  by_cases c : (s.size : Int) ≥ 2
  · by_cases c1 : (bt s 1 == 58) = true
    · refine Ev.congr (f := fun k => dwarf_splitDrive.j0 k s true) (fun k => ?_) (Ev.step (j0_other s (by omega) hl) h2)
      rw [if_pos c, if_pos (by omega), c1]
    · rw [Bool.not_eq_true] at c1
      refine Ev.congr (f := fun k => dwarf_splitDrive.j0 k s false) (fun k => ?_) (Ev.step (j0_false s) h2)
      rw [if_pos c, if_pos (by omega), c1]
  · refine Ev.congr (f := fun k => dwarf_splitDrive.j0 k s false) (fun k => ?_) (Ev.step (j0_false s) h2)
    rw [if_neg c]
/-- A path with a slash ahead is absolute. -/
theorem abs_slash (s : ByteArray) (hs : s.size < 2147483648) (h0 : (by_ s).head? = some 47) : Ev (fun k => dwarf_pathIsAbs.f k s) true := by
  have hpos : 0 < s.size := by
    rw [← by_length]
    cases hb : by_ s with
    | nil => rw [hb] at h0; cases h0
    | cons x r => simp
  have hb0 : bt s 0 = 47 := by
    have h := bt_of s 0 hpos
    have h1 : (by_ s)[0]'(by rw [by_length]; exact hpos) = 47 := by
      rw [List.head?_eq_getElem?, List.getElem?_eq_getElem (by rw [by_length]; exact hpos)] at h0
      exact Option.some.inj h0
    rw [h1] at h
    exact h
  obtain ⟨n, ⟨d, r⟩, ⟨c1, c2, c3⟩, h4, h2⟩ := sd_slash s hs hb0
  simp only at c2 c3
  have hn : ∃ x, (by_ s)[n]? = some x ∧ (x = 47 ∨ x = 92) := by
    rcases h4 with rfl | h4
    · exact ⟨47, by rw [← List.head?_eq_getElem?]; exact h0, .inl rfl⟩
    · unfold turned at h4
      rw [List.getElem?_map] at h4
      obtain ⟨x, hx, he⟩ := Option.map_eq_some_iff.1 h4
      refine ⟨x, hx, ?_⟩
      by_cases hx47 : x = 47
      · exact .inl hx47
      · rw [if_neg hx47] at he
        exact .inr he
  obtain ⟨x, hx, hx2⟩ := hn
  have hr0 : (by_ r)[0]? = some x := by rw [c3, List.getElem?_drop]; exact hx
  have hrp : 0 < r.size := by
    rw [← by_length]
    cases hb : by_ r with
    | nil => rw [hb] at hr0; cases hr0
    | cons x r => simp
  have hbr : bt r 0 = (x.toNat : Int) := by
    have h := bt_of r 0 hrp
    have h1 : (by_ r)[0]'(by rw [by_length]; exact hrp) = x := by
      rw [List.getElem?_eq_getElem (by rw [by_length]; exact hrp)] at hr0
      exact Option.some.inj hr0
    rw [h1] at h
    exact h
  unfold dwarf_pathIsAbs.f
  refine Ev.bind h2 (Ev.congr (f := fun _ => some true) (fun k => ?_) (Ev.now _))
  simp only
  rw [if_pos (by omega), if_pos (by omega), hbr]
  rcases hx2 with rfl | rfl
  · rfl
  · rfl
theorem sd_no (s : ByteArray) (h2 : 2 ≤ s.size) (hc : bt s 1 ≠ 58) (h0 : bt s 0 ≠ 92 ∧ bt s 0 ≠ 47) : Ev (fun k => dwarf_splitDrive.f k s) ((⟨#[]⟩ : ByteArray), s) := by
  unfold dwarf_splitDrive.f
  have hj : Ev (fun k => dwarf_splitDrive.j1 k s) ((⟨#[]⟩ : ByteArray), s) := by
    refine Ev.step (fun k => ?_) (j2_false s)
    simp only [dwarf_splitDrive.j1]
    by_cases c : (s.size : Int) > 3
    · rw [if_pos c, if_pos (by omega), if_neg h0.1, if_neg h0.2]
    · rw [if_neg c]
  refine Ev.congr (f := fun k => dwarf_splitDrive.j0 k s false) (fun k => ?_) (Ev.step (j0_false s) hj)
  rw [if_pos (by omega), if_pos (by omega), beq_eq_false_iff_ne.2 hc]
end Go.Proofs.YtdepfipebogdcaaDoor.Paths

/- Names of letters joined to a directory of a slash and letters. -/
namespace Go.Proofs.YtdepfipebogdcaaDoor.Paths
set_option maxRecDepth 100000
open Go Go.RowKit Go.Proofs.YtdepfipebogdcaaDoor.PPth Go.Proofs.YtdepfipebogdcaaDoorW.PrintWords Go.Proofs.YtdepfipebogdcaaDoorW.PrintLast Go.Proofs.YtdepfipebogdcaaDoorW.PrintMore Go.Proofs.YtdepfipebogdcaaDoor.Given Go.Proofs.YtdepfipebogdcaaDoor.Line

theorem bt_at (s : ByteArray) (i : Nat) (c : UInt8) (h : (by_ s)[i]? = some c) : bt s (i : Int) = (c.toNat : Int) := by
  obtain ⟨h1, h2⟩ := List.getElem?_eq_some_iff.1 h
  have hb : i < s.size := by rw [← by_length]; exact h1
  unfold bt
  simp
  rw [← h2]
  simp [by_, hb]
  rfl
/-- Letters. -/
def Low (l : List UInt8) : Prop := ∀ c ∈ l, 97 ≤ c.toNat ∧ c.toNat ≤ 122
theorem low_ne {c : UInt8} (h : 97 ≤ c.toNat ∧ c.toNat ≤ 122) : c ≠ 47 ∧ c ≠ 46 ∧ c ≠ 58 ∧ c ≠ 92 := by
  refine ⟨?_, ?_, ?_, ?_⟩ <;> (intro e; rw [e] at h; revert h; decide)

/-- A path of a slash and letters has no drive. -/
theorem sd_home {s : ByteArray} {l : List UInt8} (h : by_ s = 47 :: l) (hl : Low l) : Ev (fun k => dwarf_splitDrive.f k s) ((⟨#[]⟩ : ByteArray), s) := by
  have b0 : bt s 0 = 47 := bt_at s 0 47 (by rw [h]; rfl)
  have hj2 : Ev (fun k => dwarf_splitDrive.j2 k s false) ((⟨#[]⟩ : ByteArray), s) := by
    refine Ev.step (f := fun _ => some ((⟨#[]⟩ : ByteArray), s)) (fun k => ?_) (Ev.now _)
    simp only [dwarf_splitDrive.j2]
    rw [if_neg (by decide)]
  have b1 : 2 ≤ s.size → bt s 1 ≠ 47 ∧ bt s 1 ≠ 92 ∧ bt s 1 ≠ 58 := by
    intro h2
    cases l with
    | nil => rw [← by_length, h] at h2; simp at h2
    | cons c l =>
      have e1 : bt s 1 = (c.toNat : Int) := bt_at s 1 c (by rw [h]; rfl)
      have := hl c (by simp)
      rw [e1]
      omega
  have hj1 : Ev (fun k => dwarf_splitDrive.j1 k s) ((⟨#[]⟩ : ByteArray), s) := by
    refine Ev.step (fun k => ?_) hj2
    simp only [dwarf_splitDrive.j1]
    by_cases c : (s.size : Int) > 3
    · obtain ⟨n1, n2, n3⟩ := b1 (by omega)
      have e : (bt s 1 == 47) = false := beq_eq_false_iff_ne.2 n1
      rw [if_pos c, if_pos (by omega), if_neg (by omega), if_pos b0, if_pos (by omega), if_neg n2, e]
    · rw [if_neg c]
  unfold dwarf_splitDrive.f
  have hj0 : Ev (fun k => dwarf_splitDrive.j0 k s false) ((⟨#[]⟩ : ByteArray), s) := by
    refine Ev.step (fun k => ?_) hj1
    simp only [dwarf_splitDrive.j0]
    rw [if_neg (by decide)]
  refine Ev.congr (f := fun k => dwarf_splitDrive.j0 k s false) (fun k => ?_) hj0
  by_cases c : (s.size : Int) ≥ 2
  · obtain ⟨n1, n2, n3⟩ := b1 (by omega)
    have e : (bt s 1 == 58) = false := beq_eq_false_iff_ne.2 n3
    rw [if_pos c, if_pos (by omega), e]
  · rw [if_neg c]

theorem take_word (D : List UInt8) (r : List UInt8) (hD : Low D) : (D ++ 47 :: r).takeWhile (· != 47) = D := by
  induction D with
  | nil => simp
  | cons c D ih =>
    have := (low_ne (hD c (by simp))).1
    rw [List.cons_append, List.takeWhile_cons, if_pos (by simpa using this), ih (fun x hx => hD x (by simp [hx]))]
theorem take_word_end (D : List UInt8) (hD : Low D) : D.takeWhile (· != 47) = D := by
  induction D with
  | nil => rfl
  | cons c D ih =>
    have := (low_ne (hD c (by simp))).1
    rw [List.takeWhile_cons, if_pos (by simpa using this), ih (fun x hx => hD x (by simp [hx]))]
open Go.Lib.Pa in
theorem join_two {D M : List UInt8} (hD : Low D) (hM : Low M) (d0 : D ≠ []) (m0 : M ≠ []) : joinL [47 :: D, M] = 47 :: (D ++ 47 :: M) := by
  have hb : joinBuf [47 :: D, M] = 47 :: (D ++ 47 :: M) := by simp [joinBuf, joinStep]
  obtain ⟨c, D', rfl⟩ : ∃ c D', D = c :: D' := by cases D with
    | nil => exact absurd rfl d0
    | cons c D' => exact ⟨c, D', rfl⟩
  obtain ⟨e, M', rfl⟩ : ∃ c M', M = c :: M' := by cases M with
    | nil => exact absurd rfl m0
    | cons c M' => exact ⟨c, M', rfl⟩
  have hc := low_ne (hD c (by simp))
  have he := low_ne (hM e (by simp))
  unfold joinL
  rw [hb, if_neg (by simp)]
  unfold clean
  rw [if_neg (by simp)]
  have hroot : ((some (47 : UInt8)) == some 47) = true := by decide
  simp only [List.head?_cons, hroot, if_true]
  generalize hL : 47 :: (c :: D' ++ 47 :: e :: M') = L
  have hLl : L.length = D'.length + M'.length + 4 := by rw [← hL]; simp; omega
  obtain ⟨F, hF⟩ : ∃ F, L.length = F + 4 := ⟨D'.length + M'.length, by omega⟩
  have g1 : L[1]? = some c := by rw [← hL]; rfl
  have dr1 : L.drop 1 = (c :: D') ++ 47 :: e :: M' := by rw [← hL]; rfl
  have g2 : L[1 + (c :: D').length]? = some 47 := by
    rw [← List.getElem?_drop, dr1, List.getElem?_append_right (Nat.le_refl _)]
    simp
  have dr3 : L.drop (1 + (c :: D').length + 1) = e :: M' := by
    rw [← List.drop_drop, ← List.drop_drop, dr1, List.drop_left]
    rfl
  have g3 : L[1 + (c :: D').length + 1]? = some e := by
    have := List.getElem?_drop (xs := L) (i := 1 + (c :: D').length + 1) (j := 0)
    rw [dr3] at this
    simpa using this.symm
  have st : cleanLoop L true L.length [47] 1 1 = L := by
    rw [hF]
    have n1 : ¬ (L[1]? = some 47) := by rw [g1]; intro h; exact hc.1 (Option.some.inj h)
    have n2 : ¬ (L[1]? = some 46) := by rw [g1]; intro h; exact hc.2.1 (Option.some.inj h)
    rw [cleanLoop, if_pos (by omega), if_neg n1, if_neg (fun h => n2 h.1), if_neg (fun h => n2 h.1), dr1, take_word _ _ hD]
    rw [cleanLoop, if_pos (by rw [hLl]; simp; omega), if_pos g2]
    have n3 : ¬ (L[1 + (c :: D').length + 1]? = some 47) := by rw [g3]; intro h; exact he.1 (Option.some.inj h)
    have n4 : ¬ (L[1 + (c :: D').length + 1]? = some 46) := by rw [g3]; intro h; exact he.2.1 (Option.some.inj h)
    rw [cleanLoop, if_pos (by rw [hLl]; simp; omega), if_neg n3, if_neg (fun h => n4 h.1), if_neg (fun h => n4 h.1), dr3, take_word_end _ hM]
    rw [cleanLoop, if_neg (by rw [hLl]; simp; omega), ← hL]
    simp
  rw [st, if_neg (by rw [← hL]; simp)]
/-- Letters alone, from a place on. -/
def lowB (l : List UInt8) : Bool := l.all fun c => decide (97 ≤ c.toNat) && decide (c.toNat ≤ 122)
theorem lowB_iff (l : List UInt8) : lowB l = true ↔ Low l := by
  unfold lowB Low
  simp only [List.all_eq_true, Bool.and_eq_true, decide_eq_true_eq]
theorem lowB_yes {c : UInt8} {l : List UInt8} (h : 97 ≤ c.toNat ∧ c.toNat ≤ 122) : lowB (c :: l) = lowB l := by simp [lowB, h.1, h.2]
theorem lowB_no {c : UInt8} {l : List UInt8} (h : ¬ (97 ≤ c.toNat ∧ c.toNat ≤ 122)) : lowB (c :: l) = false := by
  by_cases h1 : 97 ≤ c.toNat
  · have h2 : ¬ c.toNat ≤ 122 := fun h3 => h ⟨h1, h3⟩
    unfold lowB
    rw [List.all_cons, decide_eq_false h2]
    simp
  · unfold lowB
    rw [List.all_cons, decide_eq_false h1]
    simp
theorem bt_head {s : ByteArray} {c : UInt8} {l : List UInt8} (h : by_ s = c :: l) : bt s 0 = (c.toNat : Int) := by
  have hpos : 0 < s.size := by rw [← by_length, h]; simp
  have := bt_of s 0 hpos
  simp only [h] at this
  exact this
theorem bt_second {s : ByteArray} {c d : UInt8} {l : List UInt8} (h : by_ s = c :: d :: l) : bt s 1 = (d.toNat : Int) := by
  have hpos : 1 < s.size := by rw [← by_length, h]; simp
  have := bt_of s 1 hpos
  simp only [h] at this
  exact this
theorem abs_plain {s : ByteArray} {c : UInt8} {l : List UInt8} (h : by_ s = c :: l) (hc : (97 ≤ c.toNat ∧ c.toNat ≤ 122)) (hl : ∀ x ∈ l.head?, x ≠ 58) : Ev (fun k => dwarf_pathIsAbs.f k s) false := by
  have hb := bt_head h
  have h47 : (c.toNat : Int) ≠ 47 ∧ (c.toNat : Int) ≠ 92 := by have := hc.1; have := hc.2; omega
  have hpos : 0 < s.size := by rw [← by_length, h]; simp
  have hs : Ev (fun k => dwarf_splitDrive.f k s) ((⟨#[]⟩ : ByteArray), s) := by
    cases l with
    | nil =>
      have h1 : s.size = 1 := by rw [← by_length, h]; rfl
      unfold dwarf_splitDrive.f
      refine Ev.congr (f := fun k => dwarf_splitDrive.j0 k s false) (fun k => ?_) (Ev.step (j0_false s) (Ev.step (f := fun k => dwarf_splitDrive.j2 k s false) (fun k => ?_) (j2_false s)))
      · rw [if_neg (by omega)]
      · simp only [dwarf_splitDrive.j1]
        rw [if_neg (by omega)]
    | cons d l =>
      have h2 : 2 ≤ s.size := by rw [← by_length, h]; simp
      refine sd_no s h2 ?_ ⟨by rw [hb]; exact h47.2, by rw [hb]; exact h47.1⟩
      rw [bt_second h]
      have := hl d rfl
      intro e
      apply this
      rw [← UInt8.toNat_inj]
      show d.toNat = 58
      omega
  unfold dwarf_pathIsAbs.f
  refine Ev.bind hs (Ev.congr (f := fun _ => some false) (fun k => ?_) (Ev.now _))
  simp only
  rw [if_pos (by omega), if_pos (by omega), hb, if_neg h47.1]
  have : ((c.toNat : Int) == 92) = false := beq_eq_false_iff_ne.2 h47.2
  rw [this]
theorem two_new (w : World) (cs : Array Value) (t : TypeId) : (w.alloc (.cells cs t)).heap[w.heap.size]? = some (.cells cs t (0, 0)) := by
  show (w.heap.push _)[w.heap.size]? = _
  exact Array.getElem?_push_size
theorem path_home (s t : ByteArray) (k : Nat) (r : ByteArray) (w : World) (hs : dwarf_splitDrive.f k s = some ((⟨#[]⟩ : ByteArray), s)) (h0 : s.size ≠ 0) (hsz : s.size < 100000000000000) (htz : t.size < 100000000000000)
    (hr : (⟨(Go.Lib.Pa.joinL [by_ s, by_ t]).toArray⟩ : ByteArray) = r) :
    Calls Tryd.prog 45 #[.string s, .string t] w fun e w' => e = .returned (.string r) ∧ Below w.heap.size w w' := by
  have f3 : decide ((s.size : Int) = 0) = false := decide_eq_false (by omega)
  have HB := Aside0.mk (Below.refl w.heap.size w)
  have H1 := Aside0.mk hs
  go_enter Tryd.func45, Tryd.ntmps45
  go_wp2_with fail
  refine (dwarf_splitDrive.calls k s _ s _ H1.out).mono ?_
  rintro e w1 ⟨rfl, hb⟩
  have n0_ := Aside0.mk (HB.out.trans (hb.mono HB.out.size))
  clear HB hb
  have HB := n0_
  clear n0_
  go_wp2_with fail
  have hA : ∀ (j : Nat) x, [s, t][j]? = some x → (w1.alloc (.cells #[.string s, .string t] 9)).cell? ⟨w1.heap.size, 0 + j, none⟩ = some (.string x) := by
    intro j x hx
    have hlt : j < 2 := (List.getElem?_eq_some_iff.1 hx).1
    rw [Nat.zero_add, blk_cell (two_new w1 _ 9) j]
    rcases j with _ | _ | j
    · cases hx; rfl
    · cases hx; rfl
    · omega
  have HB2 : Aside0 (Below w.heap.size w (w1.alloc (.cells #[.string s, .string t] 9))) := ⟨HB.out.alloc HB.out.size _⟩
  clear HB
  have HB := HB2
  clear HB2
  have hC := Tryd.path_Join w1.heap.size 0 2 [s, t] (w1.alloc (.cells #[.string s, .string t] 9)) hA (by show w1.heap.size < (w1.heap.push _).size; rw [Array.size_push]; exact Nat.lt_succ_self _) (by
    show Go.Lib.Pa.lens [by_ s, by_ t] + 2 ≤ _
    simp only [Go.Lib.Pa.lens, List.map_cons, List.map_nil, List.sum_cons, List.sum_nil, by_length]
    omega)
  rw [show (⟨(Go.Lib.Pa.joinL ([s, t].map (·.data.toList))).toArray⟩ : ByteArray) = r from hr] at hC
  refine (hC).mono ?_
  rintro e w2 ⟨rfl, hb⟩
  have n0_ := Aside0.mk (HB.out.trans (hb.mono HB.out.size))
  clear HB hb
  have HB := n0_
  clear n0_
  go_wp2_with fail
  go_ret
  exact ⟨rfl, HB.out⟩

theorem letters_low {l : List UInt8} (h : letters l = true) : Low l ∧ l ≠ [] := by
  unfold letters at h
  rw [Bool.and_eq_true] at h
  refine ⟨fun c hc => ?_, ?_⟩
  · have := List.all_eq_true.1 h.2 c hc
    rw [Bool.and_eq_true, decide_eq_true_eq, decide_eq_true_eq] at this
    exact this
  · intro e
    rw [e] at h
    cases h.1
theorem abs_no {nm : ByteArray} (h : letters nm.data.toList = true) : AbsNo nm := by
  obtain ⟨hl, h0⟩ := letters_low h
  obtain ⟨c, l, hcl⟩ : ∃ c l, by_ nm = c :: l := by
    cases e : by_ nm with
    | nil => exact absurd e h0
    | cons c l => exact ⟨c, l, rfl⟩
  have hl' : Low (c :: l) := by rw [← hcl]; exact hl
  intro W
  obtain ⟨k, hk⟩ := Ev.rounds (abs_plain (s := nm) hcl (hl' c (by simp)) (fun x hx => (low_ne (hl' x (List.mem_cons_of_mem _ (List.mem_of_mem_head? hx)))).2.2.1))
  exact dwarf_pathIsAbs.calls k nm false W hk
theorem join_ok {dir nm : ByteArray} (hd : homely dir = true) (h : letters nm.data.toList = true) (hdz : dir.size < 100000000000000) (hnz : nm.size < 100000000000000) : JoinOk dir nm (dir ++ (⟨#[47]⟩ : ByteArray) ++ nm) := by
  unfold homely at hd
  split at hd
  · rename_i c r hcr
    rw [Bool.and_eq_true, beq_iff_eq] at hd
    obtain ⟨rfl, hr⟩ := hd
    obtain ⟨hD, d0⟩ := letters_low hr
    obtain ⟨hM, m0⟩ := letters_low h
    have e1 : by_ dir = 47 :: r := hcr
    obtain ⟨k, hk⟩ := sd_home e1 hD
    intro W
    refine path_home dir nm k _ W (hk k (Nat.le_refl _)) ?_ hdz hnz ?_
    · rw [← by_length, e1]
      simp
    · apply by_ext
      rw [e1, join_two hD hM d0 m0, by_append, by_append, e1]
      simp [by_]
  · cases hd
/-- A file's whole name is what readFileEntry makes of it. -/
theorem names_ok {dir : ByteArray} (hz : dir.size < 100000000000000) : ∀ nm d r, nm.size < 2147483648 → nameIn [dir] nm d = some r → NameOk [dir] nm d.toNat r := by
  intro nm d r hs hn
  unfold nameIn at hn
  split at hn
  · rename_i h47
    obtain rfl := Option.some.inj hn
    refine .inl ⟨rfl, fun W => ?_⟩
    obtain ⟨k, hk⟩ := Ev.rounds (abs_slash nm hs h47)
    exact (dwarf_pathIsAbs.calls k nm true W hk)
  · split at hn
    · rename_i h2
      obtain ⟨h3, _, h4, h5⟩ := h2
      obtain rfl := Option.some.inj hn
      have hd : d.toNat = 0 := by simp at h4; omega
      rw [hd] at h5 ⊢
      exact .inr ⟨abs_no h3, by simp, join_ok h5 h3 hz (by omega)⟩
    · cases hn
end Go.Proofs.YtdepfipebogdcaaDoor.Paths

/- The contract of impl.LineSteps, proved by hand: steps that read rows, of a table of version 4. -/
namespace Go.Proofs.YtdepfipebogdcaaDoor.PPl
set_option maxRecDepth 100000
open Go.RowKit Go.Proofs.YtdepfipebogdcaaDoorW.PrintWords Go.Proofs.YtdepfipebogdcaaDoorW.PrintLast Go.Proofs.YtdepfipebogdcaaDoorW.PrintMore Go.Proofs.YtdepfipebogdcaaDoor.Leb Go.Proofs.YtdepfipebogdcaaDoor.Buf Go.Proofs.YtdepfipebogdcaaDoor.Line

/-- An answer: a row, or none. -/
def ansS (o : Option Line.Row) : S41 := ⟨⟨(rowOr o).ad, (rowOr o).ix, ⟨flNone (rowOr o).fl, flName (rowOr o).fl, flTime (rowOr o).fl, flLen (rowOr o).fl⟩, (rowOr o).li, (rowOr o).co, (rowOr o).st, (rowOr o).bb, (rowOr o).pe, (rowOr o).eb, (rowOr o).isa, (rowOr o).di, (rowOr o).es⟩, [], codeOr o⟩
/-- Steps that read rows. -/
def stepsOf (k : K) (m : Nat) : St → List S67 → Option (List S41)
  | _, [] => some []
  | s, x :: l => if x.f0 = 0 then (k.nx m s).bind fun os => (stepsOf k m os.2 l).bind fun r => some (ansS os.1 :: r) else none
def impl_LineSteps.f (m : Nat) (l0 l1 : List Int) (a2 a3 : Int) (a4 : Bool) (a5 : ByteArray) (l6 : List S67) : Option (List S41 × Int) :=
  if 0 ≤ a2 ∧ l0.length < 140737488355328 ∧ l1.length < 140737488355328 ∧ a5.size < 100000000000000 ∧ l6.length < 1000000000000 then
    (hdr4n l0 a2.toNat a3 a4 a5).bind fun kf => (stepsOf kf.1 m (kf.1.reset (first kf.2)) l6).bind fun l => some (l, 0) else none

theorem nx_mono {k : K} : ∀ (m : Nat) (s : St), LeO (k.nx m s) (k.nx (m + 1) s)
  | 0, s => fun r h => by simp [K.nx] at h
  | m + 1, s => fun r h => by
    rw [K.nx] at h ⊢
    split at h
    · exact h
    · obtain ⟨⟨o, s'⟩, h1, h2⟩ := Option.bind_eq_some_iff.1 h
      rw [h1]
      simp only [Option.bind_some] at h2 ⊢
      split at h2
      · rename_i hc
        rw [if_pos hc]
        cases o with
        | some r => exact h2
        | none => exact nx_mono m _ r h2
      · cases h2
theorem stepsOf_mono {k : K} (m : Nat) : ∀ (l : List S67) (s : St), LeO (stepsOf k m s l) (stepsOf k (m + 1) s l)
  | [], _ => LeO.refl _
  | x :: l, s => by
    unfold stepsOf
    exact LeO.ite (LeO.bind (nx_mono m s) (fun os => LeO.bind (stepsOf_mono m l os.2) (fun _ => LeO.refl _))) (LeO.refl _)
theorem impl_LineSteps.mono : ∀ l0 l1 a2 a3 a4 a5 l6 m, LeO (impl_LineSteps.f m l0 l1 a2 a3 a4 a5 l6) (impl_LineSteps.f (m + 1) l0 l1 a2 a3 a4 a5 l6) := by
  intro l0 l1 a2 a3 a4 a5 l6 m
  unfold impl_LineSteps.f
  exact LeO.ite (LeO.bind (LeO.refl _) (fun kf => LeO.bind (stepsOf_mono m l6 _) (fun _ => LeO.refl _))) (LeO.refl _)

/-- The package's variables are laid. -/
def Glob (w : World) : Prop := ∃ bm ea, MapOk w bm ∧ 2 < w.heap.size ∧ w.cell? ⟨0, 0, none⟩ = some (.iface 175 (.pointer (some ea)))
theorem Glob.below {w w' : World} (h : Glob w) (hb : Below w.heap.size w w') : Glob w' := by
  obtain ⟨bm, ea, h1, h2, h3⟩ := h
  have l1 := World.block_lt_of_cell? w _ h1.glob
  have l3 := World.block_lt_of_cell? w _ h3
  exact ⟨bm, ea, ⟨(hb.cell (p := ⟨2, 0, none⟩) l1).trans h1.glob, Nat.lt_of_lt_of_le h1.lt hb.size, fun w2 h => h1.run w2 (h.trans (hb.block bm h1.lt))⟩, Nat.lt_of_lt_of_le h2 hb.size, (hb.cell (p := ⟨0, 0, none⟩) l3).trans h3⟩

theorem hk0 {sec : List Int} {off : Nat} {asz : Int} {big : Bool} {dir : ByteArray} {k : K} {fs : List (Option Fl)} (h : hdr4n sec off asz big dir = some (k, fs)) : KOk k := by
  obtain ⟨b0, b1, b2, b3, v0, v1, h0, h1, h2, h3, mi, mo, ds, lb, lr, OB, tl, l2, U, Hl, M, LN, F, hl, e1, e2, e3, e4, e5, e6, e7, e8, e9, e10, e11, e12, e13, e14, rfl, rfl⟩ := hdr4n_some h
  have hbd : Bytes (sec.drop off) := e12.drop off
  rw [hl] at hbd
  have g1 := hbd mi (by simp)
  have g2 := hbd mo (by simp)
  have g3 := hbd lb (by simp)
  have g4 := hbd lr (by simp)
  have g5 := hbd (OB : Int) (by simp)
  have e4' : -128 ≤ sbyte lb ∧ sbyte lb < 128 := by unfold sbyte; split <;> omega
  exact ⟨g1.1, g1.2, e8, g2.2, e4'.1, e4'.2, e9, g4.2, g5.1, g5.2, by simp; omega, e12⟩
theorem names_of {sec : List Int} {off : Nat} {asz : Int} {big : Bool} {dir : ByteArray} {k : K} {fs : List (Option Fl)} (h : hdr4n sec off asz big dir = some (k, fs)) (hd : dir.size < 100000000000000) : Names k := by
  obtain ⟨b0, b1, b2, b3, v0, v1, h0, h1, h2, h3, mi, mo, ds, lb, lr, OB, tl, l2, U, Hl, M, LN, F, hl, e1, e2, e3, e4, e5, e6, e7, e8, e9, e10, e11, e12, e13, e14, rfl, rfl⟩ := hdr4n_some h
  exact Paths.names_ok hd
theorem ol_of {sec : List Int} {off : Nat} {asz : Int} {big : Bool} {dir : ByteArray} {k : K} {fs : List (Option Fl)} (h : hdr4n sec off asz big dir = some (k, fs)) : ∀ x ∈ k.ol, x < 256 := by
  obtain ⟨b0, b1, b2, b3, v0, v1, h0, h1, h2, h3, mi, mo, ds, lb, lr, OB, tl, l2, U, Hl, M, LN, F, hl, e1, e2, e3, e4, e5, e6, e7, e8, e9, e10, e11, e12, e13, e14, rfl, rfl⟩ := hdr4n_some h
  have hbd : Bytes (sec.drop off) := e12.drop off
  rw [hl] at hbd
  intro x hx
  simp only [List.mem_cons] at hx
  rcases hx with rfl | hx
  · omega
  · exact (hbd x (by simp [List.mem_of_mem_take hx])).2
theorem kx_below {w w' : World} {base g : Nat} (h : Kx w w' base g g) {B : Nat} (hB : B ≤ w.heap.size) (hg : B ≤ g) (hb : B ≤ base) : Below B w w' := ⟨h.os, h.tape, h.output, h.size, fun k hk => h.block k (by omega) (by
  rintro (h1 | h1 | ⟨h1, _⟩) <;> omega)⟩
/-- What was answered stays where the reader is written. -/
theorem S_kx {w w' : World} {b0 base g : Nat} {v : Value} {xs : List S41} {cg : Array Value} (h : Kd.S k41 41 w b0 (fun _ => True) v xs) (hk : Kx w w' base g g) (hg : w.heap[g]? = some (.cells cg 94 (0, 0))) : Kd.S k41 41 w' b0 (fun _ => True) v xs := by
  refine Kd.S_mono (Kd.S_move (Kd.S_bound h) (fun k hk' => ?_)) (fun _ _ => trivial)
  obtain ⟨_, _, h3, q, hq, cells, hc⟩ := hk'
  refine hk.block k h3 ?_
  have hq' : q = 41 ∨ q = 36 := by
    have : q ∈ 41 :: k41.E := hq
    simp [k41, k38, k36, Kd.iso, Kd.pair, Kd.slice, Kd.int, Kd.bool, Kd.string, Kd.scalar] at this
    exact this
  rintro (e | e | ⟨_, cs, x, e⟩)
  · subst e
    rw [hg] at hc
    cases hc
    rcases hq' with h | h <;> exact absurd h (by decide)
  · subst e
    rw [hg] at hc
    cases hc
    rcases hq' with h | h <;> exact absurd h (by decide)
  · rw [hc] at e
    cases e
    rcases hq' with h | h <;> exact absurd h (by decide)
theorem NB_kx {w w' : World} {base g b0 : Nat} {v : Value} {xs : List S41} {cg : Array Value} (hn : NB w v) (h : Kd.S k41 41 w b0 (fun _ => True) v xs) (hk : Kx w w' base g g) (hg : w.heap[g]? = some (.cells cg 94 (0, 0))) : NB w' v := by
  intro k hk' cs t f hc
  obtain ⟨cells, h1⟩ := Kd.S_typed h k hk'
  refine hn k hk' cs t f ?_
  rw [← hc]
  refine (hk.block k (blk_lt h1) ?_).symm
  rintro (e | e | ⟨_, cs, x, e⟩)
  · subst e; rw [hg] at h1; cases h1
  · subst e; rw [hg] at h1; cases h1
  · rw [h1] at e; cases e
theorem NB_below {w w' : World} {v : Value} {b0 : Nat} {xs : List S41} (hn : NB w v) (h : Kd.S k41 41 w b0 (fun _ => True) v xs) (hb : Below w.heap.size w w') : NB w' v := by
  intro k hk' cs t f hc
  exact hn k hk' cs t f (by rw [← hc]; exact (hb.block k (Kd.S_lt h k hk')).symm)
/-- The reader stays where an answer is appended. -/
theorem HasR.grown {w w1 : World} {g b0 : Nat} {c : RC} {k : K} {s : St} {v : Value} {xs : List S41} (h : HasR w g c k s) (hS : Kd.S k41 41 w b0 (fun _ => True) v xs) (hn : NB w v) (hg : w.grownBy w1 v.ownBlock) : HasR w1 g c k s := by
  cases ho : v.ownBlock with
  | none =>
    rw [ho] at hg
    exact h.under ⟨hg.os, hg.tape, hg.output, hg.size, fun k hk => hg.block k hk (by simp)⟩
  | some b =>
    rw [ho] at hg
    obtain ⟨cells, h1⟩ := Kd.S_typed hS b ho
    exact h.aside (b := b) ⟨hg.os, hg.tape, hg.output, hg.size, fun k hk hne => hg.block k hk (by intro e; injection e with e; exact hne e)⟩ h1 (hn b ho _ _ _ h1) (by decide) (by decide) (by decide) (by decide) (by decide) (by decide)

set_option maxHeartbeats 1000000 in
theorem impl_LineSteps.calls (m : Nat) (A0 : Option Addr) (c0 : Nat) (l0 : List Int) (A1 : Option Addr) (c1 : Nat) (l1 : List Int) (a2 a3 : Int) (a4 : Bool) (a5 : ByteArray) (A6 : Option Addr) (c6 : Nat) (l6 : List S67) (r1 : List S41) (r2 : Int) (w : World)
    (hr0 : Kd.C (Kd.int .u8) w A0 l0.length l0) (hc0 : l0.length ≤ c0) (hr1 : Kd.C (Kd.int .u8) w A1 l1.length l1) (hc1 : l1.length ≤ c1) (hr6 : Kd.C k67 w A6 l6.length l6) (hc6 : l6.length ≤ c6) (h : impl_LineSteps.f m l0 l1 a2 a3 a4 a5 l6 = some (r1, r2)) (hG : Glob w) :
    Calls Tryd.prog 14 #[.slice A0 l0.length c0, .slice A1 l1.length c1, .int .i64 a2, .int .i64 a3, .bool a4, .string a5, .slice A6 l6.length c6] w fun e w' => ∃ v0_ : Value, e = .returned (.tuple #[v0_, .int .i64 r2]) ∧ Kd.S k41 41 w' w.heap.size (fun _ => True) v0_ r1 ∧ Below w.heap.size w w' := by
  unfold impl_LineSteps.f at h
  split at h
  · rename_i hcond
    obtain ⟨q1, q2, q3, q4, q5⟩ := hcond
    obtain ⟨⟨k, fs⟩, hh, h⟩ := Option.bind_eq_some_iff.1 h
    obtain ⟨rr, hst, h⟩ := Option.bind_eq_some_iff.1 h
    simp only [Option.some.injEq, Prod.mk.injEq] at h
    obtain ⟨rfl, rfl⟩ := h
    simp only at hst
    obtain ⟨off, rfl⟩ := Int.eq_ofNat_of_zero_le q1
    rw [Int.toNat_natCast] at hh
    have HX := Aside0.mk (And.intro hr0 (And.intro hr1 (And.intro hr6 (And.intro hc6 (And.intro hG (And.intro hh hst))))))
    have HQ := Aside0.mk (And.intro q2 (And.intro q3 (And.intro q4 q5)))
    clear hr0 hc0 hr1 hc1 hr6 hc6 hG hh hst q1 q2 q3 q4 q5
    go_enter Tryd.func14, Tryd.ntmps14
    go_wp2_with fail
    refine (copied_calls A0 c0 l0 w HX.out.1 HQ.out.1).mono ?_
    rintro e w1 ⟨v1, rfl, ho1, hb1⟩
    obtain ⟨B1, d1, hv1, hd1, hC1⟩ := Kd.R_reads ho1
    have hty1 := Kd.R_typed ho1
    subst hv1
    have H1 := Aside0.mk (And.intro hd1 (And.intro hC1 (And.intro hb1 hty1)))
    clear ho1 hb1 hC1 hd1 hty1
    go_wp2_with fail
    refine (copied_calls A1 c1 l1 w1 (Kd.C_below HX.out.2.1 H1.out.2.2.1) HQ.out.2.1).mono ?_
    rintro e w2 ⟨v2, rfl, ho2, hb2⟩
    obtain ⟨B2, d2, hv2, hd2, hC2⟩ := Kd.R_reads ho2
    subst hv2
    have hb02 := H1.out.2.2.1.trans (hb2.mono H1.out.2.2.1.size)
    have hA2 : ∀ ad, B1 = some ad → ∃ cs x, w2.heap[ad.block]? = some (.cells cs 5 x) := by
      intro ad had
      subst had
      obtain ⟨cs, h⟩ := H1.out.2.2.2 ad.block rfl
      exact ⟨cs, _, (hb2.block _ (blk_lt h)).trans h⟩
    obtain ⟨bm, ea, g1, g2, g3⟩ := HX.out.2.2.2.2.1.below hb02
    have HU := Aside0.mk (new4_calls (w := w2) (A3 := B2) (n3 := l1.length) (c3 := d2) (Kd.C_below H1.out.2.1 hb2) H1.out.1 hA2 HX.out.2.2.2.2.2.1 g1 g2 (Paths.names_ok HQ.out.2.2.1))
    have H2 := Aside0.mk (And.intro hb02 g3)
    clear ho2 hb2 hC2 hd2 hb02 hA2 g1 g2 g3
    go_wp2_with fail
    refine HU.out.mono ?_
    rintro e w3 ⟨g, c, rfl, hr, hb, hcb⟩
    have H3 := Aside0.mk (And.intro hr (And.intro hb hcb))
    clear hr hb hcb HU
    go_wp2_with fail
    have hal := below_alloc (Below.refl w3.heap.size w3) (.cells #[.slice none 0 0] 65)
    have hR4 := H3.out.1.under hal
    have hB4 : Below w.heap.size w (w3.alloc (.cells #[.slice none 0 0] 65)) := (H2.out.1.trans (H3.out.2.1.mono H2.out.1.size)).trans (hal.mono (Nat.le_trans H2.out.1.size H3.out.2.1.size))
    have H4 := Aside0.mk (And.intro hR4 hB4)
    clear hal hR4 hB4
    revert H4
    generalize w3.alloc (.cells #[.slice none 0 0] 65) = w4
    generalize w3.heap.size = gt
    intro H4
    go_loopg [19, 40] l6.length (fun kq v19 v40 w' => ∃ (v : Value) (n : Nat) (done rest : List S41) (s : St), v = v19 ∧ v40 = .int .i64 (n : Int) ∧ Aside0 (kq = l6.length - n ∧ n ≤ l6.length ∧ stepsOf k m s (l6.drop n) = some rest ∧ rr = done ++ rest ∧ done.length = n ∧ Kd.S k41 41 w' w.heap.size (fun _ => True) v done ∧ NB w' v ∧ HasR w' g c k s ∧ Below w.heap.size w w'))
    case atStart => exact ⟨_, 0, [], rr, _, rfl, rfl, ⟨by simp, Nat.zero_le _, by simpa using HX.out.2.2.2.2.2.2, rfl, rfl, Kd.S_nil _ _ _ _ _, nb_nil _, H4.out.1, H4.out.2⟩⟩
    case round =>
      obtain ⟨v, n, done, rest, s, rfl, rfl, HL⟩ := hrel
      have f1 : IntKind.i64.wrap ((n : Int) + 1) = ((n + 1 : Nat) : Int) := by
        have h1 := HL.out.2.1
        have h2 := HQ.out.2.2.2
        rw [IntKind.wrap_i64]
        omega
      by_cases hc : n < l6.length
      · have c0 : decide ((n : Int) < (l6.length : Int)) = true := decide_eq_true (by omega)
        have c1 : decide (n < l6.length) = true := decide_eq_true hc
        obtain ⟨ad, eA, t0, t1, t2⟩ := at_T67 (Kd.C_below HX.out.2.2.1 HL.out.2.2.2.2.2.2.2.2) (n : Int) (by omega) (by omega)
        have h3 := HL.out.2.2.1
        rw [List.drop_eq_getElem_cons hc] at h3
        unfold stepsOf at h3
        have hx : rd_T67 l6 (n : Int) = l6[n] := by
          unfold rd_T67
          rw [Int.toNat_natCast, List.getD_eq_getElem?_getD, List.getElem?_eq_getElem hc]
          rfl
        rw [hx] at t0 t1 t2
        rw [Int.toNat_natCast] at t0 t1 t2
        clear hx
        obtain ⟨x0, hx00⟩ : ∃ x0, l6[n] = x0 := ⟨_, rfl⟩
        rw [hx00] at t0 t1 t2 h3
        clear hx00
        split at h3
        · rename_i hx0
          rw [hx0] at t0
          obtain ⟨⟨o, s2⟩, hn, h3⟩ := Option.bind_eq_some_iff.1 h3
          obtain ⟨rest2, hs2, h3⟩ := Option.bind_eq_some_iff.1 h3
          obtain rfl := Option.some.inj h3
          simp only at hs2
          have HC := Aside0.mk (And.intro hc (And.intro hn hs2))
          clear hn hs2 h3 hx0
          subst eA
          go_wp2_with fail
          clear t0 t1 t2
          have hal := below_alloc (Below.refl wr.heap.size wr) (.cells #[.int .i64 0, .int .i64 x0.f1, .int .u64 x0.f2] 67)
          have H5 : Aside0 (Kd.S k41 41 (wr.alloc (.cells #[.int .i64 0, .int .i64 x0.f1, .int .u64 x0.f2] 67)) w.heap.size (fun _ => True) v done ∧ NB (wr.alloc (.cells #[.int .i64 0, .int .i64 x0.f1, .int .u64 x0.f2] 67)) v ∧ HasR (wr.alloc (.cells #[.int .i64 0, .int .i64 x0.f1, .int .u64 x0.f2] 67)) g c k s ∧ Below w.heap.size w (wr.alloc (.cells #[.int .i64 0, .int .i64 x0.f1, .int .u64 x0.f2] 67))) :=
            ⟨Kd.S_below HL.out.2.2.2.2.2.1 hal, NB_below HL.out.2.2.2.2.2.2.1 HL.out.2.2.2.2.2.1 hal, HL.out.2.2.2.2.2.2.2.1.under hal, HL.out.2.2.2.2.2.2.2.2.trans (hal.mono HL.out.2.2.2.2.2.2.2.2.size)⟩
          clear hal
          revert H5
          generalize wr.alloc (.cells #[.int .i64 0, .int .i64 x0.f1, .int .u64 x0.f2] 67) = w5
          intro H5
          obtain ⟨bm, ea, _, g2, g3⟩ := HX.out.2.2.2.2.1.below H5.out.2.2.2
          have hcb : w.heap.size ≤ c.base := Nat.le_trans H2.out.1.size H3.out.2.2
          have hG0 : 0 < w.heap.size := by obtain ⟨_, _, _, _, q⟩ := HX.out.2.2.2.2.1; exact World.block_lt_of_cell? w _ q
          have HU := Aside0.mk (line_next (gt := gt) (at_ := x0.f1) (pc := x0.f2) H5.out.2.2.1 (hk0 HX.out.2.2.2.2.2.1) (names_of HX.out.2.2.2.2.2.1 HQ.out.2.2.1) (ol_of HX.out.2.2.2.2.2.1) g3 (Nat.lt_of_lt_of_le hG0 hcb) HC.out.2.1)
          clear g2 g3 hG0
          refine HU.out.mono ?_
          rintro e w6 ⟨rfl, hr, hx⟩
          obtain ⟨cg, hgb⟩ : ∃ cs, w5.heap[g]? = some (.cells cs 94 (0, 0)) := by
            obtain ⟨b, cap, fp, hH, _⟩ := H5.out.2.2.1.at_
            exact hH.blk
          have hS6 := S_kx H5.out.1 hx hgb
          have H6 := Aside0.mk (And.intro hS6 (And.intro (NB_kx H5.out.2.1 H5.out.1 hx hgb) (And.intro hr (H5.out.2.2.2.trans (kx_below hx H5.out.2.2.2.size (Nat.le_trans hcb H5.out.2.2.1.base) hcb)))))
          obtain ⟨AV, cV, hV⟩ := Kd.S_slice hS6
          subst hV
          clear hr hx hgb hS6 HU hcb
          go_wp2_with ((with_reducible refine gate_builtin (b := .append) (xs := #[.tmp 44, .tmp 48]) rfl ?_); at_builtin; refine S_append_nb k41 (W := w6) w.heap.size ?b0 (.tmp 44) (.tmp 48) 26 41 (.agg #[.int .u64 0, .int .i64 0, .bool false, .string ⟨#[]⟩, .int .u64 0, .int .i64 0, .int .i64 0, .int .i64 0, .bool false, .bool false, .bool false, .bool false, .int .i64 0, .int .i64 0, .bool false, .slice none 0 0, .int .i64 0]) 136 ?b1 Tryd.underlying26 info41 ?b2 ?b3 (.slice AV done.length cV) done (ansS o) [.int .u64 (rowOr o).ad, .int .i64 (rowOr o).ix, .bool (flNone (rowOr o).fl), .string (flName (rowOr o).fl), .int .u64 (flTime (rowOr o).fl), .int .i64 (flLen (rowOr o).fl), .int .i64 (rowOr o).li, .int .i64 (rowOr o).co, .bool (rowOr o).st, .bool (rowOr o).bb, .bool (rowOr o).pe, .bool (rowOr o).eb, .int .i64 (rowOr o).isa, .int .i64 (rowOr o).di, .bool (rowOr o).es, .slice none 0 0, .int .i64 (codeOr o)] (fun _ => True) ?b4 ?b5 ?b6 (fun _ _ => trivial) ?aO ?aS ?aL ?a63 ?aN ?aC ?aZ ?_; (case b0 => rfl); (case b1 => rfl); (case b2 => rfl); (case b3 => decide); (case b4 => rfl); (case b5 => rfl); (case b6 => exact fun W => k41_mkM W _ _ (ansS o) (Kd.R_nil _ _ _ _ _)); (case aO => exact H6.out.1); (case aS => exact H6.out.2.2.2.size); (case aL => have h1 := HL.out.2.2.2.2.1; have h2 := HC.out.1; have h3 := HQ.out.2.2.2; omega); (case a63 => have h1 := HL.out.2.2.2.2.1; have h2 := HC.out.1; have h3 := HQ.out.2.2.2; unfold maxLen; omega); (case aN => exact H6.out.2.1); (case aC => simp [isByte]); (case aZ => simp [Value.cells, isByte]); intro v1 w7 ho hg hn1 hat; have HS7 := Aside0.mk (And.intro ho (And.intro hg hn1)); clear ho hg hn1 hat)
          have hal := below_alloc (Below.refl w6.heap.size w6) (.cells #[.int .u64 (rowOr o).ad, .int .i64 (rowOr o).ix, .bool (flNone (rowOr o).fl), .string (flName (rowOr o).fl), .int .u64 (flTime (rowOr o).fl), .int .i64 (flLen (rowOr o).fl), .int .i64 (rowOr o).li, .int .i64 (rowOr o).co, .bool (rowOr o).st, .bool (rowOr o).bb, .bool (rowOr o).pe, .bool (rowOr o).eb, .int .i64 (rowOr o).isa, .int .i64 (rowOr o).di, .bool (rowOr o).es, .slice none 0 0, .int .i64 (codeOr o)] 41)
          have HN := Aside0.mk (And.intro (HasR.grown (H6.out.2.2.1.under hal) (Kd.S_below H6.out.1 hal) (NB_below H6.out.2.1 H6.out.1 hal) HS7.out.2.1) ((H6.out.2.2.2.trans (hal.mono H6.out.2.2.2.size)).grown HS7.out.2.1 (Nat.le_trans H6.out.2.2.2.size hal.size) (Kd.S_base H6.out.1)))
          clear hal
          go_roundg (l6.length - (n + 1))
          case measure => have h1 := HL.out.1; have h2 := HC.out.1; omega
          case rel => exact ⟨v1, n + 1, done ++ [ansS o], rest2, s2, rfl, by first | rfl | go_num, ⟨rfl, HC.out.1, HC.out.2.2, by rw [HL.out.2.2.2.1]; simp, by simp [HL.out.2.2.2.2.1], HS7.out.1, HS7.out.2.2, HN.out.1, HN.out.2⟩⟩
        · cases h3
      · have hn : n = l6.length := by have := HL.out.2.1; omega
        have c0 : decide ((n : Int) < (l6.length : Int)) = false := decide_eq_false (by omega)
        have c1 : decide (n < l6.length) = false := decide_eq_false hc
        have HF : Aside0 (rr = done) := ⟨by
          have h1 := HL.out.2.2.1
          rw [hn, List.drop_length] at h1
          unfold stepsOf at h1
          have h2 := HL.out.2.2.2.1
          rw [← Option.some.inj h1] at h2
          simpa using h2⟩
        clear hn hc
        go_wp2_with fail
        go_ret2
        exact ⟨_, rfl, by rw [HF.out]; exact HL.out.2.2.2.2.2.1, HL.out.2.2.2.2.2.2.2.2⟩
  · cases h
end Go.Proofs.YtdepfipebogdcaaDoor.PPl

namespace Go.Proofs.YtdepfipebogdcaaDoor.PPl
open Go.RowKit Go.Proofs.YtdepfipebogdcaaDoorW.PrintWords Go.Proofs.YtdepfipebogdcaaDoorW.PrintLast Go.Proofs.YtdepfipebogdcaaDoorW.PrintMore
attribute [local go_sem] max2_int max_two   -- for this text's walks alone
set_option linter.unusedVariables false
set_option linter.unusedSimpArgs false

attribute [local go_sem high] eqA36
/-! ### spec_IsName: function 21 -/
def spec_IsName.l0 : Nat → ByteArray → Int → Option (Bool)
  | 0, _, _ => none
  | k + 1, x0, x3 => if x3 < (x0.size : Int) then (if 0 ≤ x3 then (if (bt x0 x3) < 97 then (some false) else (if (bt x0 x3) > 122 then (some false) else (spec_IsName.l0 k x0 (wrap64 (x3 + 1))))) else (none)) else (some (decide ((x0.size : Int) > 0)))
def spec_IsName.f (k : Nat) (a0 : ByteArray) : Option (Bool) := spec_IsName.l0 k a0 0
theorem spec_IsName.mono_l : ∀ k, (∀ y0 y1, LeO (spec_IsName.l0 k y0 y1) (spec_IsName.l0 (k + 1) y0 y1))
  | 0 => fun _ _ r h => by simp [spec_IsName.l0] at h
  | k + 1 => by
    have ih0 := spec_IsName.mono_l k
    · intro y0 y1
      unfold spec_IsName.l0
      repeat' first
      | (with_reducible exact ih0 _ _)
      | (with_reducible exact LeO.refl _)
      | (with_reducible exact LeO.none _)
      | (with_reducible refine LeO.ite ?_ ?_)
      | (with_reducible refine LeO.bind ?_ (fun _ => ?_))
      | exact ih0 _ _
      | exact LeO.none _
      | refine LeO.ite ?_ ?_
      | refine LeO.bind ?_ (fun _ => ?_)
theorem spec_IsName.mono : ∀ a0 k, LeO (spec_IsName.f k a0) (spec_IsName.f (k + 1) a0) := by
  intro a0 k
  have ih0 := spec_IsName.mono_l k
  unfold spec_IsName.f
  repeat' first
      | (with_reducible exact ih0 _ _)
      | (with_reducible exact LeO.refl _)
      | (with_reducible exact LeO.none _)
      | (with_reducible refine LeO.ite ?_ ?_)
      | (with_reducible refine LeO.bind ?_ (fun _ => ?_))
      | exact ih0 _ _
      | exact LeO.none _
      | refine LeO.ite ?_ ?_
      | refine LeO.bind ?_ (fun _ => ?_)
set_option maxHeartbeats 8000000 in
set_option maxRecDepth 100000 in
theorem spec_IsName.calls (k : Nat) (a0 : ByteArray) (r : Bool) (w : World) (h : spec_IsName.f k a0 = some r) :
    Calls Tryd.prog 21 #[.string a0] w fun e w' => e = .returned (.bool r) ∧ Drawn0 w w' := by
  have H : (spec_IsName.l0 k a0 0) = some r := h
  clear h
  have H' := Aside0.mk H
  clear H
  go_enter Tryd.func21, Tryd.ntmps21
  go_wp2
  go_loopg [3] k (fun kq v3 w' => ∃ (x3_1 : Int), v3 = .int .i64 x3_1 ∧ Aside0 (spec_IsName.l0 kq a0 x3_1 = some r) ∧ Aside0 (kq ≤ k) ∧ Drawn0 w w')
  case atStart => exact ⟨(0), (by first | rfl | (simp; done) | (simp [*]; done)), H', ⟨Nat.le_refl _⟩, by repeat (first | exact Drawn0.refl _ | apply Drawn0.step)⟩
  case round =>
    clear H'
    obtain ⟨x3_1, rfl, HA, HK1, ⟨m1, rfl⟩⟩ := hrel
    cases gk with
    | zero => exact absurd HA.out (by simp [spec_IsName.l0])
    | succ k1 =>
      have H := HA.out
      clear HA
      simp only [spec_IsName.l0] at H
      by_cases c2 : x3_1 < (a0.size : Int)
      · rw [if_pos c2] at H
        have c2b0 : decide (x3_1 < (a0.size : Int)) = true := decide_eq_true c2
        clear c2
        by_cases c3 : 0 ≤ x3_1
        · rw [if_pos c3] at H
          have c3b0 : decide (0 ≤ x3_1) = true := decide_eq_true c3
          clear c3
          by_cases c5 : (bt a0 x3_1) < 97
          · rw [if_pos c5] at H
            have c5b0 : decide ((bt a0 x3_1) < 97) = true := decide_eq_true c5
            clear c5
            obtain rfl := Option.some.inj H
            have p4 : 0 ≤ (x3_1 : Int) := of_decide_eq_true qA
            have q4 : x3_1 < (a0.size : Int) := of_decide_eq_true qA
            have hx4 := bt_at a0 x3_1
            replace p4 := eq_true p4
            replace q4 := eq_true q4
            go_wp2
            go_ret
            exact ⟨by first | rfl | (simp; done) | (simp [*]; done), by repeat (first | exact Drawn0.refl _ | apply Drawn0.step)⟩
          · rw [if_neg c5] at H
            have c5b0 : decide ((bt a0 x3_1) < 97) = false := decide_eq_false c5
            clear c5
            by_cases c7 : (bt a0 x3_1) > 122
            · rw [if_pos c7] at H
              have c7b0 : decide (122 < (bt a0 x3_1)) = true := decide_eq_true c7
              clear c7
              obtain rfl := Option.some.inj H
              have p4 : 0 ≤ (x3_1 : Int) := of_decide_eq_true qA
              have q4 : x3_1 < (a0.size : Int) := of_decide_eq_true qA
              have hx4 := bt_at a0 x3_1
              replace p4 := eq_true p4
              replace q4 := eq_true q4
              have p6 : 0 ≤ (x3_1 : Int) := of_decide_eq_true qA
              have q6 : x3_1 < (a0.size : Int) := of_decide_eq_true qA
              have hx6 := bt_at a0 x3_1
              replace p6 := eq_true p6
              replace q6 := eq_true q6
              go_wp2
              go_ret
              exact ⟨by first | rfl | (simp; done) | (simp [*]; done), by repeat (first | exact Drawn0.refl _ | apply Drawn0.step)⟩
            · rw [if_neg c7] at H
              have c7b0 : decide (122 < (bt a0 x3_1)) = false := decide_eq_false c7
              clear c7
              have H' := Aside0.mk H
              clear H
              have p4 : 0 ≤ (x3_1 : Int) := of_decide_eq_true qA
              have q4 : x3_1 < (a0.size : Int) := of_decide_eq_true qA
              have hx4 := bt_at a0 x3_1
              replace p4 := eq_true p4
              replace q4 := eq_true q4
              have p6 : 0 ≤ (x3_1 : Int) := of_decide_eq_true qA
              have q6 : x3_1 < (a0.size : Int) := of_decide_eq_true qA
              have hx6 := bt_at a0 x3_1
              replace p6 := eq_true p6
              replace q6 := eq_true q6
              go_wp2
              go_roundg k1
              case measure => have := HK1.out; omega
              case rel => exact ⟨(wrap64 (x3_1 + 1)), (by first | rfl | (simp; done) | (simp [*]; done)), H', ⟨by have := HK1.out; omega⟩, by repeat (first | exact Drawn0.refl _ | apply Drawn0.step)⟩
        · rw [if_neg c3] at H
          exact absurd H (by simp)
      · rw [if_neg c2] at H
        have c2b0 : decide (x3_1 < (a0.size : Int)) = false := decide_eq_false c2
        clear c2
        obtain rfl := Option.some.inj H
        go_wp2
        go_ret
        exact ⟨by first | rfl | (simp; done) | (simp [*]; done), by repeat (first | exact Drawn0.refl _ | apply Drawn0.step)⟩
end Go.Proofs.YtdepfipebogdcaaDoor.PPl

/- The contract of laws.rowsOf, proved by hand, where all rows are there. -/
namespace Go.Proofs.YtdepfipebogdcaaDoor.PPl
set_option maxRecDepth 100000
open Go.RowKit Go.Proofs.YtdepfipebogdcaaDoorW.PrintWords Go.Proofs.YtdepfipebogdcaaDoorW.PrintLast Go.Proofs.YtdepfipebogdcaaDoorW.PrintMore Go.Proofs.YtdepfipebogdcaaDoor.Leb Go.Proofs.YtdepfipebogdcaaDoor.Buf Go.Proofs.YtdepfipebogdcaaDoor.Line

/-- Rows are there, the last one the end, and no more. -/
def goodRows (l : List S41) (c : Int) (n : Nat) : Bool := c == 0 && (l.length == n + 1 && ((rd_T41 l (n : Int)).f2 == 1 && (List.range n).all fun i => (rd_T41 l (i : Int)).f2 == 0 && ((rd_T41 l (i : Int)).f0.f11 == decide (i + 1 = n))))
def laws_rowsOf.f (k : Nat) (a0_0 : Int) (a0_1 : Int) (a0_2 : Int) (a0_3 : Int) (a0_4 : Int) (a1 : Int) (l2 : List Int) (a3 : Int) : Option ((List (S38)) × Bool) :=
  if 0 ≤ a3 ∧ a3 < 1000000 then
    (laws_plain.f k a0_0 a0_1 a0_2 a0_3 a0_4 a1 l2).bind fun t => (laws_nexts.f (wrap64 (a3 + 1))).bind fun st => (impl_LineSteps.f k t ([] : List Int) 0 8 false (⟨#[]⟩ : ByteArray) st).bind fun bt =>
      if goodRows bt.1 bt.2 a3.toNat = true then some ((bt.1.take a3.toNat).map (·.f0), true) else none
  else none
theorem laws_rowsOf.mono : ∀ a0_0 a0_1 a0_2 a0_3 a0_4 a1 l2 a3 k, LeO (laws_rowsOf.f k a0_0 a0_1 a0_2 a0_3 a0_4 a1 l2 a3) (laws_rowsOf.f (k + 1) a0_0 a0_1 a0_2 a0_3 a0_4 a1 l2 a3) := by
  intro a0_0 a0_1 a0_2 a0_3 a0_4 a1 l2 a3 k
  unfold laws_rowsOf.f
  exact LeO.ite (LeO.bind (laws_plain.mono _ _ _ _ _ _ _ _) (fun _ => LeO.bind (LeO.refl _) (fun _ => LeO.bind (impl_LineSteps.mono _ _ _ _ _ _ _ _) (fun _ => LeO.refl _)))) (LeO.refl _)
theorem size41 : (Tryd.prog.info? 41).map (·.size) = some 17 := by kernel_rfl
theorem row41_new (w : World) (cells : Array Value) : ((w.alloc (.cells #[.int .u64 0, .int .i64 0, .bool false, .string ⟨#[]⟩, .int .u64 0, .int .i64 0, .int .i64 0, .int .i64 0, .bool false, .bool false, .bool false, .bool false, .int .i64 0, .int .i64 0, .bool false, .slice none 0 0, .int .i64 0] 41)).setRow w.heap.size cells).heap[w.heap.size]? = some (.cells cells 41 (0, 0)) ∧ Below w.heap.size w ((w.alloc (.cells #[.int .u64 0, .int .i64 0, .bool false, .string ⟨#[]⟩, .int .u64 0, .int .i64 0, .int .i64 0, .int .i64 0, .bool false, .bool false, .bool false, .bool false, .int .i64 0, .int .i64 0, .bool false, .slice none 0 0, .int .i64 0] 41)).setRow w.heap.size cells) :=
  ⟨setRow_heap _ _ _ cells _ _ (heap_alloc_new _ _), below_row (below_alloc (Below.refl _ _) _) (Nat.le_refl _) cells⟩
theorem rows_take {t : List S41} {j : Nat} (hj : j < t.length) : (t.take (j + 1)).map (·.f0) = (t.take j).map (·.f0) ++ [(t[j]).f0] := by
  rw [List.take_succ_eq_append_getElem hj, List.map_append]
  rfl
theorem goodRows_parts {l : List S41} {c : Int} {n : Nat} (h : goodRows l c n = true) : c = 0 ∧ l.length = n + 1 ∧ (rd_T41 l (n : Int)).f2 = 1 ∧ ∀ i, i < n → (rd_T41 l (i : Int)).f2 = 0 ∧ (rd_T41 l (i : Int)).f0.f11 = decide (i + 1 = n) := by
  unfold goodRows at h
  simp only [Bool.and_eq_true, beq_iff_eq, List.all_eq_true, List.mem_range] at h
  exact ⟨h.1, h.2.1, h.2.2.1, h.2.2.2⟩

set_option maxHeartbeats 2000000 in
theorem laws_rowsOf.calls (k : Nat) (a0_0 : Int) (a0_1 : Int) (a0_2 : Int) (a0_3 : Int) (a0_4 : Int) (a1 : Int) (A2 : Option Addr) (c2 : Nat) (l2 : List Int) (a3 : Int) (r1 : List (S38)) (r2 : Bool) (w : World) (hr2 : Kd.C (Kd.int .u8) w A2 l2.length l2) (hc2 : l2.length ≤ c2) (h : laws_rowsOf.f k a0_0 a0_1 a0_2 a0_3 a0_4 a1 l2 a3 = some (r1, r2)) (hG : Glob w) :
    Calls Tryd.prog 19 #[.agg #[.int .i64 a0_0, .int .i64 a0_1, .int .i64 a0_2, .int .i64 a0_3, .int .i64 a0_4], .int .u64 a1, .slice A2 l2.length c2, .int .i64 a3] w fun e w' => ∃ v0_ : Value, e = .returned (.tuple #[v0_, .bool r2]) ∧ Kd.R k38 38 w' w.heap.size (fun _ => True) v0_ r1 ∧ Below w.heap.size w w' := by
  unfold laws_rowsOf.f at h
  split at h
  · rename_i hcond
    obtain ⟨q1, q2⟩ := hcond
    obtain ⟨t194, A50, h⟩ := Option.bind_eq_some_iff.1 h
    obtain ⟨t197, A60, h⟩ := Option.bind_eq_some_iff.1 h
    obtain ⟨⟨t200, t201⟩, A70, h⟩ := Option.bind_eq_some_iff.1 h
    simp only at h
    split at h
    · rename_i hg
      simp only [Option.some.injEq, Prod.mk.injEq] at h
      obtain ⟨e1, rfl⟩ := h
      obtain ⟨n, hn⟩ : ∃ n : Nat, a3 = (n : Int) := ⟨a3.toNat, by omega⟩
      have htn : a3.toNat = n := by omega
      rw [htn] at hg e1
      obtain ⟨g1, g2, g3, g4⟩ := goodRows_parts hg
      subst g1
      have hw1 : wrap64 (a3 + 1) = ((n + 1 : Nat) : Int) := by unfold wrap64; omega
      have hw2 : wrap64 (a3 - 1) = (n : Int) - 1 := by unfold wrap64; omega
      have HN := Aside0.mk (And.intro hn (And.intro q2 (And.intro g2 (And.intro g3 (And.intro g4 (And.intro hw1 (And.intro hw2 e1)))))))
      have HR2 := Aside0.mk hr2
      have HC2 := Aside0.mk hc2
      have HGL := Aside0.mk hG
      have A5 := Aside0.mk A50
      have A6 := Aside0.mk A60
      have A7 := Aside0.mk A70
      clear hr2 hc2 hG A50 A60 A70 hg hn htn q1 q2 g2 g3 g4 hw1 hw2 e1
      have HB := Aside0.mk (Below.refl w.heap.size w)
      have hu31 := Tryd.underlying31
      have hu41 := Tryd.underlying41
      have hu38 := Tryd.underlying38
      go_enter Tryd.func19, Tryd.ntmps19
      go_upto_region 2 with (first | ((with_reducible refine gate_dst (N := 4) rfl ?_); (try (refine gate_guard (by rfl) ?_; dsimp only)); refine box_event ?hg (N := 4) ?hd (cs := #[.int .i64 a0_0, .int .i64 a0_1, .int .i64 a0_2, .int .i64 a0_3, .int .i64 a0_4]) (t := 31) ?hr ?_; (case hd => rfl); (case hg => rfl); (case hr => first | (go_simp; done) | (go_simp; rfl)); intro gb193 hg w9 hbox hb; have n0_ := Aside0.mk (below_step (by repeat (first | (with_reducible first | exact HB.out | apply below_alloc | apply pw_below_drewN | apply below_drew1) | exact HB.out)) hb); have n1_ := Aside0.mk (hbox); clear HB; have HB := n0_; have BK193 := n1_; clear n0_ n1_; clear hb hbox hg; have hcz10_0 : w9.cell? ⟨gb193, 0, none⟩ = some (.int .i64 a0_0) := (blk_cell BK193.out 0).trans rfl; have hcz10_1 : w9.cell? ⟨gb193, 1, none⟩ = some (.int .i64 a0_1) := (blk_cell BK193.out 1).trans rfl; have hcz10_2 : w9.cell? ⟨gb193, 2, none⟩ = some (.int .i64 a0_2) := (blk_cell BK193.out 2).trans rfl; have hcz10_3 : w9.cell? ⟨gb193, 3, none⟩ = some (.int .i64 a0_3) := (blk_cell BK193.out 3).trans rfl; have hcz10_4 : w9.cell? ⟨gb193, 4, none⟩ = some (.int .i64 a0_4) := (blk_cell BK193.out 4).trans rfl; have hfz10_0 := blk_frozen BK193.out 0; have hfz10_1 := blk_frozen BK193.out 1; have hfz10_2 := blk_frozen BK193.out 2; have hfz10_3 := blk_frozen BK193.out 3; have hfz10_4 := blk_frozen BK193.out 4) | ((with_reducible refine gate_callee (f := 15) rfl ?_); refine goesL_ (some 19) rfl rfl Tryd.func15 (by kernel_rfl) rfl #[.agg #[.int .i64 a0_0, .int .i64 a0_1, .int .i64 a0_2, .int .i64 a0_3, .int .i64 a0_4], .int .u64 a1, .slice A2 l2.length c2] rfl (by (try simp only [List.map_toArray, List.map_cons, List.map_nil]); first | done | rfl | (simp only [List.length_drop, List.length_take]; rfl)) ?_; (with_reducible refine (laws_plain.calls k a0_0 a0_1 a0_2 a0_3 a0_4 a1 _ _ l2 t194 _ ?side1 ?side2 A5.out).mono ?_); (case side1 => repeat (first | exact (Kd.C_below HR2.out HB.out) | (with_reducible refine Kd.C_alloc ?_ _) | (with_reducible refine Kd.C_drewN ?_ _) | (with_reducible refine Kd.C_drew ?_))); (case side2 => exact HC2.out); rintro e w11 ⟨v195, rfl, ho0, hb⟩; refine ⟨_, rfl, ?_⟩; have n0_ := Aside0.mk (Kd.R_lower ho0 (below_size (by repeat (first | (with_reducible first | exact HB.out | apply below_alloc | apply pw_below_drewN | apply below_drew1) | exact HB.out)))); have n2_ := Aside0.mk (below_step (by repeat (first | (with_reducible first | exact HB.out | apply below_alloc | apply pw_below_drewN | apply below_drew1) | exact HB.out)) hb); clear BK193; clear HB; have HO196 := n0_; have HB := n2_; clear n0_ n2_; (try clear hb); (try clear ho0)) | ((with_reducible refine gate_callee (f := 17) rfl ?_); refine goesL_ (some 22) rfl rfl Tryd.func17 (by kernel_rfl) rfl #[.int .i64 (wrap64 (a3 + 1))] rfl (by (try simp only [List.map_toArray, List.map_cons, List.map_nil]); first | done | rfl | (simp only [List.length_drop, List.length_take]; rfl)) ?_; (with_reducible refine (laws_nexts.calls (wrap64 (a3 + 1)) t197 _ A6.out).mono ?_); rintro e w12 ⟨v198, rfl, ho0, hb⟩; refine ⟨_, rfl, ?_⟩; have n0_ := Aside0.mk (Kd.R_below (by (with_reducible repeat (first | apply Kd.R_alloc | apply Kd.R_drewN | apply Kd.R_drew)); exact HO196.out) hb); have n1_ := Aside0.mk (Kd.R_lower ho0 (below_size (by repeat (first | (with_reducible first | exact HB.out | apply below_alloc | apply pw_below_drewN | apply below_drew1) | exact HB.out)))); have n3_ := Aside0.mk (below_step (by repeat (first | (with_reducible first | exact HB.out | apply below_alloc | apply pw_below_drewN | apply below_drew1) | exact HB.out)) hb); clear HO196; clear HB; have HO196 := n0_; have HO199 := n1_; have HB := n3_; clear n0_ n1_ n3_; (try clear hb); (try clear ho0); obtain ⟨Ao13, co13, eo13⟩ := Kd.R_slice HO196.out; subst eo13; obtain ⟨Ao14, co14, eo14⟩ := Kd.R_slice HO199.out; subst eo14) | ((with_reducible refine gate_callee (f := 14) rfl ?_); refine goesL_ (some 23) rfl rfl Tryd.func14 (by kernel_rfl) rfl #[.slice Ao13 t194.length co13, .slice none 0 0, .int .i64 0, .int .i64 8, .bool false, .string (⟨#[]⟩ : ByteArray), .slice Ao14 t197.length co14] rfl (by (try simp only [List.map_toArray, List.map_cons, List.map_nil]); first | done | rfl | (simp only [List.length_drop, List.length_take]; rfl)) ?_; (refine (impl_LineSteps.calls k _ _ t194 _ _ ([] : List Int) 0 8 false (⟨#[]⟩ : ByteArray) _ _ t197 t200 0 _ ?side1 ?side2 ?side3 ?side4 ?side5 ?side6 A7.out ?sideG).mono ?_); (case sideG => exact HGL.out.below (by repeat (first | (with_reducible first | exact HB.out | apply below_alloc | apply pw_below_drewN | apply below_drew1) | exact HB.out))); (case side1 => repeat (first | exact (Kd.R_reads' HO196.out).2.2 | (with_reducible refine Kd.C_alloc ?_ _) | (with_reducible refine Kd.C_drewN ?_ _) | (with_reducible refine Kd.C_drew ?_))); (case side2 => exact (Kd.R_reads' HO196.out).2.1); (case side3 => exact Kd.C_nil _ _); (case side4 => exact Nat.le_refl _); (case side5 => repeat (first | exact (Kd.R_reads' HO199.out).2.2 | (with_reducible refine Kd.C_alloc ?_ _) | (with_reducible refine Kd.C_drewN ?_ _) | (with_reducible refine Kd.C_drew ?_))); (case side6 => exact (Kd.R_reads' HO199.out).2.1); rintro e w15 ⟨v202, rfl, ho0, hb⟩; refine ⟨_, rfl, ?_⟩; have n2_ := Aside0.mk (Kd.S_lower ho0 (below_size (by repeat (first | (with_reducible first | exact HB.out | apply below_alloc | apply pw_below_drewN | apply below_drew1) | exact HB.out)))); have n4_ := Aside0.mk (below_step (by repeat (first | (with_reducible first | exact HB.out | apply below_alloc | apply pw_below_drewN | apply below_drew1) | exact HB.out)) hb); clear HO196; clear HO199; clear HB; have HO203 := n2_; have HB := n4_; clear n2_ n4_; (try clear hb); (try clear ho0)))
      (try simp only [Act.put, List.setIfInBounds_toArray, List.set_cons_zero, List.set_cons_succ])
      try clear hcz10_0 hcz10_1 hcz10_2 hcz10_3 hcz10_4 hfz10_0 hfz10_1 hfz10_2 hfz10_3 hfz10_4
      obtain ⟨Ao20, co20, eo20⟩ := Kd.S_slice HO203.out
      subst eo20
      have H203 := Kd.S_reads' HO203.out
      obtain ⟨ad204, A204_15, c204_15, e204, _, _, _, _, _, _, _, _, _, _, _, _, _, _, _, _, hx204_16, _, _⟩ := at_T41 H203.2.2 a3 (by have h1 := HN.out.1; omega) (by have h1 := HN.out.1; have h2 := HN.out.2.2.1; omega)
      subst e204
      have e16 : (rd_T41 t200 a3).f2 = 1 := by have h1 := HN.out.1; rw [h1]; exact HN.out.2.2.2.1
      rw [e16] at hx204_16
      clear e16
      have c17b1 : ((t200.length : Int) != (wrap64 (a3 + 1))) = false := by rw [HN.out.2.2.2.2.2.1, HN.out.2.2.1]; simp
      have p204 : (0 ≤ a3) = True := eq_true (by have h1 := HN.out.1; omega)
      have q204 : (a3 < (t200.length : Int)) = True := eq_true (by have h1 := HN.out.1; have h2 := HN.out.2.2.1; omega)
      have q27 : (a3 ≤ (t200.length : Int)) = True := eq_true (by have h1 := HN.out.1; have h2 := HN.out.2.2.1; omega)
      obtain ⟨i027, hi027, _, hsz27, _⟩ := info_parts info41
      have hcut27 := cut_to (P := Tryd.prog) 26 41 .i64 Tryd.underlying26 hi027 (some ad204) t200.length co20 a3 (of_eq_true p204) (of_eq_true q27) H203.2.1
      have HR0 := Aside0.mk (Kd.C_take (m := a3.toNat) H203.2.2 (by have h1 := HN.out.1; have h2 := HN.out.2.2.1; omega))
      obtain ⟨ys, hys⟩ : ∃ ys : List S41, ys = t200.take a3.toNat := ⟨_, rfl⟩
      have hyl : ys.length = a3.toNat := by rw [hys, List.length_take]; have h1 := HN.out.1; have h2 := HN.out.2.2.1; omega
      rw [← hyl] at hcut27
      rw [← hys] at HR0
      have HY := Aside0.mk (And.intro hys hyl)
      clear hys hyl hi027 hsz27 H203
      go_wp2_with (first | ((with_reducible refine gate_dst (N := 43) rfl ?_); (try (refine gate_guard (by rfl) ?_; dsimp only)); refine Kd.R_lit k38 _ 38 ?hg (N := 43) ?hd (xs := ([] : List (S38))) (inner := []) (ok := fun _ => True) (okp := fun _ => True) ?hr ?hp (fun _ hk => hk) trivial (Below.refl _ _) (Nat.le_refl _) (by simp) ?_; (case hd => rfl); (case hg => rfl); (case hr => first | (go_simp; done) | (go_simp; rfl)); (case hp => exact (Reps.none _ _)); intro v206 w25 ho26 hb hg_ hnew_; clear hg_ hnew_; have HO207 := Aside0.mk ho26; have HB2 := Aside0.mk hb; clear ho26 hb))
      go_loopg [12, 48] n (fun kq v12 v48 w' => ∃ (v : Value) (j : Nat), v = v12 ∧ v48 = .int .i64 (j : Int) ∧ Aside0 (kq = n - j ∧ j ≤ n ∧ Kd.R k38 38 w' w15.heap.size (fun _ => True) v ((t200.take j).map (·.f0)) ∧ Below w15.heap.size w15 w'))
      case atStart => exact ⟨_, 0, rfl, rfl, ⟨by simp, Nat.zero_le _, by simpa using HO207.out, HB2.out⟩⟩
      case round =>
        obtain ⟨v, j, rfl, rfl, HL⟩ := hrel
        have hyn : ys.length = n := by rw [HY.out.2, HN.out.1]; rfl
        have f1 : IntKind.i64.wrap ((j : Int) + 1) = ((j + 1 : Nat) : Int) := by
          have h1 := HL.out.2.1
          have h2 := HN.out.2.1
          have h3 := HN.out.1
          rw [IntKind.wrap_i64]
          omega
        by_cases hc : j < n
        · have c0 : decide ((j : Int) < (ys.length : Int)) = true := decide_eq_true (by omega)
          have c1 : decide (j < ys.length) = true := decide_eq_true (by omega)
          have hlt : j < t200.length := by have h2 := HN.out.2.2.1; omega
          obtain ⟨ad, A15, c15, eA, t0, t1, t2, t3, t4, t5, t6, t7, t8, t9, t10, t11, t12, t13, t14, t15, t16, _, _⟩ := at_T41 (Kd.C_below HR0.out HL.out.2.2.2) (j : Int) (by omega) (by have h3 := HN.out.1; omega)
          have hx : rd_T41 ys (j : Int) = t200[j] := by
            unfold rd_T41
            rw [Int.toNat_natCast, List.getD_eq_getElem?_getD, HY.out.1, List.getElem?_take_of_lt (by have h3 := HN.out.1; omega), List.getElem?_eq_getElem hlt]
            rfl
          have hx2 : rd_T41 t200 (j : Int) = t200[j] := by
            unfold rd_T41
            rw [Int.toNat_natCast, List.getD_eq_getElem?_getD, List.getElem?_eq_getElem hlt]
            rfl
          have g5 := HN.out.2.2.2.2.1 j hc
          rw [hx2] at g5
          rw [hx] at t0 t1 t2 t3 t4 t5 t6 t7 t8 t9 t10 t11 t12 t13 t14 t15 t16
          rw [Int.toNat_natCast] at t0 t1 t2 t3 t4 t5 t6 t7 t8 t9 t10 t11 t12 t13 t14 t15 t16
          have ht := rows_take hlt
          generalize t200[j] = x at *
          rw [g5.1] at t16
          rw [g5.2] at t14
          have HT := Aside0.mk (And.intro ht (And.intro hc (And.intro hlt g5.2)))
          cases eA
          clear ht hx hx2 hlt
          obtain ⟨es, hes⟩ : ∃ es : Bool, decide (j + 1 = n) = es := ⟨_, rfl⟩
          have hcmp : ((j : Int) == wrap64 (a3 - 1)) = es := by
            rw [HN.out.2.2.2.2.2.2.1, ← hes]
            by_cases hq : j + 1 = n
            · rw [decide_eq_true hq, beq_iff_eq]; omega
            · rw [decide_eq_false hq, beq_eq_false_iff_ne]; omega
          rw [hes] at t14
          have HES := Aside0.mk (And.intro hes (g5.2.trans hes))
          have hjl : j < ys.length := by omega
          clear hes g5 hc hyn
          have hs0 : (es != es) = false := by cases es <;> rfl
          go_wp2_with (first | ((refine wpList_store_row ?a0 41 (.tmp 14) (.tmp 52) ?a1 wr.heap.size #[.int .u64 x.f0.f0, .int .i64 x.f0.f1, .bool x.f0.f2.f0, .string x.f0.f2.f1, .int .u64 x.f0.f2.f2, .int .i64 x.f0.f2.f3, .int .i64 x.f0.f3, .int .i64 x.f0.f4, .bool x.f0.f5, .bool x.f0.f6, .bool x.f0.f7, .bool x.f0.f8, .int .i64 x.f0.f9, .int .i64 x.f0.f10, .bool es, .slice A15 x.f1.length c15, .int .i64 0] ?a2 ?a3 41 _ (heap_alloc_new _ _) size41 ?a4 ?a5 ?_); (case a0 => rfl); (case a1 => rfl); (case a2 => rfl); (case a3 => rfl); (case a4 => rfl); (case a5 => simp [Value.oneCell']); have hrow := row41_new wr #[.int .u64 x.f0.f0, .int .i64 x.f0.f1, .bool x.f0.f2.f0, .string x.f0.f2.f1, .int .u64 x.f0.f2.f2, .int .i64 x.f0.f2.f3, .int .i64 x.f0.f3, .int .i64 x.f0.f4, .bool x.f0.f5, .bool x.f0.f6, .bool x.f0.f7, .bool x.f0.f8, .int .i64 x.f0.f9, .int .i64 x.f0.f10, .bool es, .slice A15 x.f1.length c15, .int .i64 0]; revert hrow; generalize (wr.alloc (.cells #[.int .u64 0, .int .i64 0, .bool false, .string ⟨#[]⟩, .int .u64 0, .int .i64 0, .int .i64 0, .int .i64 0, .bool false, .bool false, .bool false, .bool false, .int .i64 0, .int .i64 0, .bool false, .slice none 0 0, .int .i64 0] 41)).setRow wr.heap.size #[.int .u64 x.f0.f0, .int .i64 x.f0.f1, .bool x.f0.f2.f0, .string x.f0.f2.f1, .int .u64 x.f0.f2.f2, .int .i64 x.f0.f2.f3, .int .i64 x.f0.f3, .int .i64 x.f0.f4, .bool x.f0.f5, .bool x.f0.f6, .bool x.f0.f7, .bool x.f0.f8, .int .i64 x.f0.f9, .int .i64 x.f0.f10, .bool es, .slice A15 x.f1.length c15, .int .i64 0] = w5; intro hrow; have HW5 := Aside0.mk hrow; obtain ⟨_, p0, _, p1, _, p2, _, p3, _, p4, _, p5, _, p6, _, p7, _, p8, _, p9, _, p10, _, p11, _, p12, _, p13, _, p14, _, p15, _, p16, _⟩ := ans_P hrow.1; clear hrow) | ((with_reducible refine gate_builtin (b := .append) (xs := #[.tmp 66, .tmp 69]) rfl ?_); at_builtin; refine Kd.R_append k38 (w0 := w15) (W := w5) w15.heap.size rfl (.tmp 66) (.tmp 69) 44 38 (.agg #[.int .u64 0, .int .i64 0, .bool false, .string ⟨#[]⟩, .int .u64 0, .int .i64 0, .int .i64 0, .int .i64 0, .bool false, .bool false, .bool false, .bool false, .int .i64 0, .int .i64 0, .bool false]) 104 rfl Tryd.underlying44 info38 rfl (by decide) (by omega) v ((t200.take j).map (·.f0)) x.f0 [.int .u64 x.f0.f0, .int .i64 x.f0.f1, .bool x.f0.f2.f0, .string x.f0.f2.f1, .int .u64 x.f0.f2.f2, .int .i64 x.f0.f2.f3, .int .i64 x.f0.f3, .int .i64 x.f0.f4, .bool x.f0.f5, .bool x.f0.f6, .bool x.f0.f7, .bool x.f0.f8, .int .i64 x.f0.f9, .int .i64 x.f0.f10, .bool es] (fun _ => True) (fun _ => False) rfl (by first | (go_simp; done) | (go_simp; rfl)) ?aP (fun _ hk => hk.elim) ?aF ?aO ?aB ?aS ?aL ?_; (case aP => have h := k38_mkM w5 w15.heap.size (fun _ => False) x.f0; rw [HES.out.2] at h; exact h); (case aF => exact (fun _ _ => trivial)); (case aO => exact Kd.R_below HL.out.2.2.1 HW5.out.2); (case aB => exact HL.out.2.2.2.trans (HW5.out.2.mono HL.out.2.2.2.size)); (case aS => exact Nat.le_trans HL.out.2.2.2.size HW5.out.2.size); (case aL => have h1 := HT.out.2.2.1; have h2 := HN.out.2.1; have h3 := HN.out.1; have h4 := HN.out.2.2.1; simp only [List.length_map, List.length_take]; omega); intro v1 w7 ho hb hg hat; have HS7 := Aside0.mk (And.intro ho hb); clear ho hb hg hat))
          go_roundg (n - (j + 1))
          case measure => have h1 := HL.out.1; have h2 := HT.out.2.1; omega
          case rel => exact ⟨v1, j + 1, rfl, by first | rfl | go_num, ⟨rfl, HT.out.2.1, by rw [HT.out.1]; exact HS7.out.1, HS7.out.2⟩⟩
        · have hjn : j = n := by have := HL.out.2.1; omega
          have c0 : decide ((j : Int) < (ys.length : Int)) = false := decide_eq_false (by omega)
          have c1 : decide (j < ys.length) = false := decide_eq_false (by omega)
          have HF : Aside0 ((t200.take j).map (·.f0) = r1) := ⟨by rw [hjn]; exact HN.out.2.2.2.2.2.2.2⟩
          clear hjn hc hyn f1
          go_wp2_with fail
          go_ret2
          exact ⟨_, rfl, by have h1 := HL.out.2.2.1; rw [HF.out] at h1; exact Kd.R_lower h1 HB.out.size, HB.out.trans (HL.out.2.2.2.mono HB.out.size)⟩
    · cases h
  · cases h
end Go.Proofs.YtdepfipebogdcaaDoor.PPl

/- Plain: what a line reader does on the bytes of each operation; no Go in sight. -/
namespace Go.Proofs.YtdepfipebogdcaaDoor.Line
open Go Go.Proofs.YtdepfipebogdcaaDoor.Leb

theorem at_add {k : K} {p : Nat} {bs l : List Int} (h : k.at p = bs ++ l) : k.at (p + bs.length) = l := by
  have e : k.at (p + bs.length) = (k.at p).drop bs.length := by unfold K.at; rw [List.drop_drop]
  rw [e, h, List.drop_left]
theorem at_cons {k : K} {p : Nat} {b : Int} {l : List Int} (h : k.at p = b :: l) : k.at (p + 1) = l := at_add (bs := [b]) h
theorem at_le {k : K} {p : Nat} {bs l : List Int} (h : k.at p = bs ++ l) (hne : bs ≠ []) : p + bs.length ≤ k.eo := by
  have h1 : (k.at p).length = (bs ++ l).length := by rw [h]
  unfold K.at at h1
  rw [List.length_drop, List.length_take, List.length_append] at h1
  have h2 := List.length_pos_iff.2 hne
  omega
/-- One step of nx. -/
theorem nx_none {k : K} {s s' : St} {bs l : List Int} (m : Nat) (h : k.at s.p = bs ++ l) (hne : bs ≠ []) (hs : k.step s = some (none, s')) (hp : s'.p = s.p + bs.length) (hn : s.n < 4294967295) : k.nx (m + 1) s = k.nx m s' ∧ k.at s'.p = l := by
  have hat : k.at s'.p = l := by rw [hp]; exact at_add h
  have hle := at_le h hne
  refine ⟨?_, hat⟩
  rw [K.nx]
  obtain ⟨b, bs', rfl⟩ : ∃ b bs', bs = b :: bs' := by cases bs with
    | nil => exact absurd rfl hne
    | cons b bs' => exact ⟨b, bs', rfl⟩
  rw [h, List.cons_append]
  simp only [hs, Option.bind_some]
  rw [if_pos ⟨by omega, hn⟩]
theorem nx_row {k : K} {s s' : St} {r : Row} {bs l : List Int} (m : Nat) (h : k.at s.p = bs ++ l) (hne : bs ≠ []) (hs : k.step s = some (some r, s')) (hp : s'.p = s.p + bs.length) (hn : s.n < 4294967295) : k.nx (m + 1) s = some (some r, s') ∧ k.at s'.p = l := by
  have hat : k.at s'.p = l := by rw [hp]; exact at_add h
  have hle := at_le h hne
  refine ⟨?_, hat⟩
  rw [K.nx]
  obtain ⟨b, bs', rfl⟩ : ∃ b bs', bs = b :: bs' := by cases bs with
    | nil => exact absurd rfl hne
    | cons b bs' => exact ⟨b, bs', rfl⟩
  rw [h, List.cons_append]
  simp only [hs, Option.bind_some]
  rw [if_pos ⟨by omega, hn⟩]
theorem nx_end {k : K} {s : St} (m : Nat) (h : k.at s.p = []) : k.nx (m + 1) s = some (none, s) := by
  rw [K.nx, h]

/-- A number that is read as it is. -/
theorem unum_of {l : List Int} {v n : Nat} (h : uread l = some (v, n)) (hv : v < 9223372036854775808) : unum l = some (v, n) := by
  unfold unum
  rw [h]
  simp only [Option.bind_some]
  rw [if_pos hv]

theorem step_spec {k : K} {s : St} {op : Int} {l : List Int} (h : k.at s.p = op :: l) (ho : k.ob ≤ op) (h1 : fit s.r ((op - k.ob) / k.lr) = true) (h2 : fitL s.r.li 0 = true) :
    k.step s = some (emit { s with r := { k.adv s.r ((op - k.ob) / k.lr) with li := s.r.li + (k.lb + (op - k.ob) % k.lr) } } (s.p + 1)) := by
  unfold K.step; rw [h]; simp only; rw [if_pos ho, if_pos ⟨h1, h2⟩]
theorem step_copy {k : K} {s : St} {l : List Int} (h : k.at s.p = 1 :: l) (ho : 1 < k.ob) : k.step s = some (emit s (s.p + 1)) := by
  unfold K.step; rw [h]; simp only; rw [if_neg (by omega)]; rfl
theorem step_advance {k : K} {s : St} {l : List Int} {v n : Nat} (h : k.at s.p = 2 :: l) (ho : 2 < k.ob) (hu : unum l = some (v, n)) (h1 : fit s.r v = true) :
    k.step s = some (none, { s with p := s.p + 1 + n, r := k.adv s.r v }) := by
  unfold K.step; rw [h]; simp only; rw [if_neg (by omega), if_neg (by decide), if_neg (by decide), if_pos trivial, at_cons h, hu]; simp only [Option.bind_some]; rw [if_pos h1]
theorem step_line {k : K} {s : St} {l : List Int} {v n : Nat} (h : k.at s.p = 3 :: l) (ho : 3 < k.ob) (hu : uread l = some (v, n)) (h1 : fitL s.r.li (sval v n) = true) :
    k.step s = some (none, { s with p := s.p + 1 + n, r := { s.r with li := s.r.li + sval v n } }) := by
  unfold K.step; rw [h]; simp only; rw [if_neg (by omega), if_neg (by decide), if_neg (by decide), if_neg (by decide), if_pos trivial, at_cons h, hu]; simp only [Option.bind_some]; rw [if_pos h1]
theorem step_file {k : K} {s : St} {l : List Int} {v n : Nat} (h : k.at s.p = 4 :: l) (ho : 4 < k.ob) (hu : unum l = some (v, n)) :
    k.step s = some (none, { ({ s with fi := v } : St).upd with p := s.p + 1 + n }) := by
  unfold K.step; rw [h]; simp only; rw [if_neg (by omega), if_neg (by decide), if_neg (by decide), if_neg (by decide), if_neg (by decide), if_pos trivial, at_cons h, hu]; simp only [Option.bind_some]
theorem step_block {k : K} {s : St} {l : List Int} (h : k.at s.p = 7 :: l) (ho : 7 < k.ob) : k.step s = some (none, { s with p := s.p + 1, r := { s.r with bb := true } }) := by
  unfold K.step; rw [h]; simp only; rw [if_neg (by omega)]; rfl
theorem step_const {k : K} {s : St} {l : List Int} (h : k.at s.p = 8 :: l) (ho : 8 < k.ob) (h1 : fit s.r ((255 - k.ob) / k.lr) = true) : k.step s = some (none, { s with p := s.p + 1, r := k.adv s.r ((255 - k.ob) / k.lr) }) := by
  unfold K.step; rw [h]; simp only; rw [if_neg (by omega), if_neg (by decide), if_neg (by decide), if_neg (by decide), if_neg (by decide), if_neg (by decide), if_neg (by decide), if_neg (by decide), if_neg (by decide), if_pos trivial, if_pos h1]
theorem step_fixed {k : K} {s : St} {b0 b1 : Int} {l : List Int} (h : k.at s.p = 9 :: b0 :: b1 :: l) (ho : 9 < k.ob) (h1 : fit s.r 0 = true) : k.step s = some (none, { s with p := s.p + 3, r := { s.r with ad := s.r.ad + two k.big b0 b1 } }) := by
  unfold K.step; rw [h]; simp only; rw [if_neg (by omega), if_neg (by decide), if_neg (by decide), if_neg (by decide), if_neg (by decide), if_neg (by decide), if_neg (by decide), if_neg (by decide), if_neg (by decide), if_neg (by decide), if_pos trivial, at_cons h]; simp only; rw [if_pos h1]
theorem step_isa {k : K} {s : St} {l : List Int} {v n : Nat} (h : k.at s.p = 12 :: l) (ho : 12 < k.ob) (hu : unum l = some (v, n)) :
    k.step s = some (none, { s with p := s.p + 1 + n, r := { s.r with isa := v } }) := by
  unfold K.step; rw [h]; simp only; rw [if_neg (by omega), if_neg (by decide), if_neg (by decide), if_neg (by decide), if_neg (by decide), if_neg (by decide), if_neg (by decide), if_neg (by decide), if_neg (by decide), if_neg (by decide), if_neg (by decide), if_neg (by decide), if_neg (by decide), if_pos trivial, at_cons h, hu]; simp only [Option.bind_some]
/-- An extended operation: its length, its number, its bytes. -/
theorem step_ext {k : K} {s : St} {ls bs l : List Int} {op : Int} (h : k.at s.p = 0 :: (ls ++ (op :: bs ++ l))) (ho : 0 < k.ob) (hu : uread (ls ++ (op :: bs ++ l)) = some (bs.length + 1, ls.length)) :
    k.step s = k.ext s (s.p + 1 + ls.length) (s.p + 1 + ls.length + (bs.length + 1)) op := by
  have h1 := at_cons h
  have h2 := at_add h1
  have h3 := at_le (bs := 0 :: (ls ++ op :: bs)) (l := l) (k := k) (p := s.p) (by rw [h]; simp) (by simp)
  unfold K.step; rw [h]; simp only; rw [if_neg (by omega), if_pos trivial, h1, hu]; simp only [Option.bind_some]
  rw [h2, List.cons_append]
  simp only
  rw [if_pos ⟨by omega, by simp at h3; omega⟩]
theorem ext_end (k : K) (s : St) (p q : Nat) : k.ext s p q 1 = some (some { s.r with es := true }, k.start { s with p := q }) := by
  unfold K.ext; rw [if_pos rfl]
theorem ext_addr8 {k : K} {s : St} {p q : Nat} {b0 b1 b2 b3 b4 b5 b6 b7 : Int} {l : List Int} (h : k.at (p + 1) = b0 :: b1 :: b2 :: b3 :: b4 :: b5 :: b6 :: b7 :: l) (ha : k.asz = 8) (hq : p + 9 ≤ q) : k.ext s p q 2 = some (none, { s with p := q, r := { s.r with ad := eight k.big b0 b1 b2 b3 b4 b5 b6 b7 } }) := by
  unfold K.ext; rw [if_neg (by decide), if_pos rfl, if_pos ha, h]; simp only; rw [if_pos hq]
theorem ext_unknown {k : K} {s : St} {p q : Nat} {op : Int} (h1 : op ≠ 1) (h2 : op ≠ 2) (h3 : op ≠ 3) (h4 : op ≠ 4) : k.ext s p q op = some (none, { s with p := q }) := by
  unfold K.ext; rw [if_neg h1, if_neg h2, if_neg h3, if_neg h4]
end Go.Proofs.YtdepfipebogdcaaDoor.Line

/- Plain: a line table of version 4 with one file, as bytes, and how it is read; no Go in sight. -/
namespace Go.Proofs.YtdepfipebogdcaaDoor.Line
open Go Go.Proofs.YtdepfipebogdcaaDoor.Leb

/-- A number's bytes, the last one first. -/
def le4 (n : Int) : List Int := [n % 256, n / 256 % 256, n / 256 / 256 % 256, n / 256 / 256 / 256 % 256]
def le8 (n : Int) : List Int := le4 n ++ le4 (n / 256 / 256 / 256 / 256)
theorem four_le4 (n : Int) (h : 0 ≤ n ∧ n < 4294967296) : four false (n % 256) (n / 256 % 256) (n / 256 / 256 % 256) (n / 256 / 256 / 256 % 256) = n ∧ four true (n / 256 / 256 / 256 % 256) (n / 256 / 256 % 256) (n / 256 % 256) (n % 256) = n := by
  simp only [four, two]
  simp
  omega
theorem four_mod (n : Int) : four false (n % 256) (n / 256 % 256) (n / 256 / 256 % 256) (n / 256 / 256 / 256 % 256) = n % 4294967296 ∧ four true (n / 256 / 256 / 256 % 256) (n / 256 / 256 % 256) (n / 256 % 256) (n % 256) = n % 4294967296 := by
  simp only [four, two]
  simp
  omega
theorem eight_le8 (n : Int) (h : 0 ≤ n ∧ n < 18446744073709551616) : ∃ b0 b1 b2 b3 b4 b5 b6 b7, le8 n = [b0, b1, b2, b3, b4, b5, b6, b7] ∧ eight false b0 b1 b2 b3 b4 b5 b6 b7 = n ∧ eight true b7 b6 b5 b4 b3 b2 b1 b0 = n := by
  refine ⟨_, _, _, _, _, _, _, _, rfl, ?_, ?_⟩
  · show four false _ _ _ _ + 4294967296 * four false _ _ _ _ = n
    rw [(four_mod n).1, (four_mod _).1]
    omega
  · show four true _ _ _ _ + 4294967296 * four true _ _ _ _ = n
    rw [(four_mod n).2, (four_mod _).2]
    omega
theorem le4_bytes (n : Int) : Bytes (le4 n) := by
  intro b hb
  simp [le4] at hb
  omega
theorem le8_bytes (n : Int) : Bytes (le8 n) := by
  intro b hb
  rcases List.mem_append.1 hb with h | h
  · exact le4_bytes _ b h
  · exact le4_bytes _ b h
theorem app_bytes {l m : List Int} (h : Bytes l) (k : Bytes m) : Bytes (l ++ m) := by
  intro b hb
  rcases List.mem_append.1 hb with hb | hb
  · exact h b hb
  · exact k b hb
theorem nil_bytes : Bytes [] := fun _ h => by simp at h
theorem cons_bytes {b : Int} {l : List Int} (h : 0 ≤ b ∧ b < 256) (k : Bytes l) : Bytes (b :: l) := by
  intro x hx
  rcases List.mem_cons.1 hx with rfl | hx
  · exact h
  · exact k x hx

/-- How many operands the twelve standard opcodes have. -/
def twelve : List Int := [0, 1, 1, 1, 1, 0, 0, 0, 1, 0, 0, 1]
/-- The numbers of operands: of the standard's opcodes, and of more. -/
def lensOf (ob : Nat) (more : List Int) : List Int := twelve.take (ob - 1) ++ more
theorem twelve_bytes : Bytes twelve := by intro b hb; simp [twelve] at hb; omega
theorem lensOk_of (ob : Nat) (more : List Int) (hm : ob - 1 < 12 → more = []) : lensOk (0 :: lensOf ob more) = true := by
  unfold lensOk
  refine List.all_eq_true.2 fun i hi => ?_
  rw [List.mem_range] at hi
  by_cases h13 : 13 ≤ i
  · have : known i = none := by
      unfold known
      split <;> first | omega | rfl
    rw [this]
  · have key : ∀ j, j < 12 → j + 1 < (0 :: lensOf ob more).length → (0 :: lensOf ob more).getD (j + 1) 0 = twelve.getD j 0 := by
      intro j hj hl
      unfold lensOf at hl ⊢
      have h1 : j < ob - 1 := by
        by_cases hc : ob - 1 < 12
        · rw [hm hc] at hl
          simp [twelve] at hl
          omega
        · omega
      have h2 : j < (twelve.take (ob - 1)).length := by simp [twelve]; omega
      simp only [List.getD_eq_getElem?_getD, List.getElem?_cons_succ]
      rw [List.getElem?_append_left h2, List.getElem?_take_of_lt h1]
    match i, hi, h13 with
    | 0, _, _ => rfl
    | 1, hi, _ => show (_ == _) = true; rw [key 0 (by omega) hi]; rfl
    | 2, hi, _ => show (_ == _) = true; rw [key 1 (by omega) hi]; rfl
    | 3, hi, _ => show (_ == _) = true; rw [key 2 (by omega) hi]; rfl
    | 4, hi, _ => show (_ == _) = true; rw [key 3 (by omega) hi]; rfl
    | 5, hi, _ => rfl
    | 6, hi, _ => show (_ == _) = true; rw [key 5 (by omega) hi]; rfl
    | 7, hi, _ => show (_ == _) = true; rw [key 6 (by omega) hi]; rfl
    | 8, hi, _ => show (_ == _) = true; rw [key 7 (by omega) hi]; rfl
    | 9, hi, _ => rfl
    | 10, hi, _ => show (_ == _) = true; rw [key 9 (by omega) hi]; rfl
    | 11, hi, _ => show (_ == _) = true; rw [key 10 (by omega) hi]; rfl
    | 12, hi, _ => show (_ == _) = true; rw [key 11 (by omega) hi]; rfl
    | j + 13, _, h => exact absurd (Nat.le_add_left 13 j) h

theorem zeroAt_app : ∀ (nm l : List Int), (∀ b ∈ nm, b ≠ 0) → zeroAt (nm ++ 0 :: l) = some nm.length
  | [], _, _ => rfl
  | b :: nm, l, h => by
    rw [List.cons_append, zeroAt, if_neg (h b (by simp)), zeroAt_app nm l (fun x hx => h x (by simp [hx]))]
    rfl
theorem unum_zero (l : List Int) : unum (0 :: l) = some (0, 1) := unum_of (by simp [uread]) (by decide)
/-- A file: its name, three numbers. -/
theorem fileIn_app {dirs : List ByteArray} {nm a b c l : List Int} {d m n : Nat} {r : ByteArray} (h0 : nm ≠ []) (hz : ∀ x ∈ nm, x ≠ 0) (h1 : unum (a ++ (b ++ (c ++ l))) = some (d, a.length)) (h2 : unum (b ++ (c ++ l)) = some (m, b.length)) (h3 : unum (c ++ l) = some (n, c.length)) (hn : nameIn dirs (strOf nm) d = some r) :
    fileIn dirs (nm ++ 0 :: (a ++ (b ++ (c ++ l)))) = some (some ⟨r, m, n⟩, nm.length + 1 + a.length + b.length + c.length) := by
  have hl := List.length_pos_iff.2 h0
  have e1 : (nm ++ 0 :: (a ++ (b ++ (c ++ l)))).drop (nm.length + 1) = a ++ (b ++ (c ++ l)) := by
    rw [show nm ++ 0 :: (a ++ (b ++ (c ++ l))) = (nm ++ [0]) ++ (a ++ (b ++ (c ++ l))) by simp, show nm.length + 1 = (nm ++ [0]).length by simp, List.drop_left]
  have e2 : (nm ++ 0 :: (a ++ (b ++ (c ++ l)))).drop (nm.length + 1 + a.length) = b ++ (c ++ l) := by rw [← List.drop_drop, e1, List.drop_left]
  have e3 : (nm ++ 0 :: (a ++ (b ++ (c ++ l)))).drop (nm.length + 1 + a.length + b.length) = c ++ l := by rw [← List.drop_drop, e2, List.drop_left]
  unfold fileIn
  rw [zeroAt_app nm _ hz]
  simp only [Option.bind_some]
  rw [if_neg (by omega), e1, h1, List.take_left]
  simp only [Option.bind_some]
  rw [hn]
  simp only [Option.bind_some]
  rw [e2, h2]
  simp only [Option.bind_some]
  rw [e3, h3]
  simp only [Option.bind_some]
theorem fileIn_nil (dirs : List ByteArray) (l : List Int) : fileIn dirs (0 :: l) = some (none, 1) := by
  unfold fileIn
  simp [zeroAt]

/-- The part of the header behind its length. -/
def headOf (mi mo : Int) (ds : Bool) (lb lr ob : Int) (more : List Int) (nm : List Int) : List Int :=
  mi :: mo :: (if ds then 1 else 0) :: lb % 256 :: lr :: ob :: (lensOf ob.toNat more ++ 0 :: (nm ++ [0, 0, 0, 0, 0]))
/-- The bytes behind the table's length. -/
def bodyOf (head prog : List Int) : List Int := [4, 0] ++ le4 head.length ++ head ++ prog
/-- A table. -/
def tableOf (head prog : List Int) : List Int := le4 (bodyOf head prog).length ++ bodyOf head prog
/-- What never turns. -/
def constOf (mi mo : Int) (ds : Bool) (lb lr ob : Int) (more nm prog : List Int) : K :=
  ⟨tableOf (headOf mi mo ds lb lr ob more nm) prog, (tableOf (headOf mi mo ds lb lr ob more nm) prog).length, 10 + (headOf mi mo ds lb lr ob more nm).length, false, 8, mi, mo, ds, lb, lr, ob, 0 :: lensOf ob.toNat more, [ByteArray.empty], 2⟩
/-- The first state, and where it stands. -/
def state0 (F : Fl) (ds : Bool) (p : Nat) (r : Row → Row) : St := ⟨p, [none, some F], 2, r ⟨0, 0, some F, 1, 0, ds, false, false, false, 0, 0, false⟩, 1⟩

theorem bodyOf_length (head prog : List Int) : (bodyOf head prog).length = 6 + head.length + prog.length := by simp [bodyOf, le4]; omega
theorem tableOf_length (head prog : List Int) : (tableOf head prog).length = 10 + head.length + prog.length := by simp [tableOf, le4, bodyOf_length]; omega
theorem headOf_length (mi mo : Int) (ds : Bool) (lb lr ob : Int) (more nm : List Int) : (headOf mi mo ds lb lr ob more nm).length = 12 + (lensOf ob.toNat more).length + nm.length := by simp [headOf]; omega
theorem sbyte_mod (lb : Int) (h : -128 ≤ lb ∧ lb < 128) : sbyte (lb % 256) = lb := by unfold sbyte; split <;> omega
theorem lensOf_length (ob : Nat) (more : List Int) (h : more.length = ob - 13) : (lensOf ob more).length = ob - 1 := by
  unfold lensOf
  rw [List.length_append, List.length_take, h]
  simp [twelve]
  omega

/-- Where the program begins. -/
theorem at_prog (mi mo : Int) (ds : Bool) (lb lr ob : Int) (more nm prog : List Int) : (constOf mi mo ds lb lr ob more nm prog).at (10 + (headOf mi mo ds lb lr ob more nm).length) = prog := by
  unfold K.at constOf
  simp only
  rw [List.take_length]
  have : tableOf (headOf mi mo ds lb lr ob more nm) prog = (le4 (bodyOf (headOf mi mo ds lb lr ob more nm) prog).length ++ [4, 0] ++ le4 (headOf mi mo ds lb lr ob more nm).length ++ headOf mi mo ds lb lr ob more nm) ++ prog := by simp [tableOf, bodyOf]
  rw [this, show 10 + (headOf mi mo ds lb lr ob more nm).length = (le4 (bodyOf (headOf mi mo ds lb lr ob more nm) prog).length ++ [4, 0] ++ le4 (headOf mi mo ds lb lr ob more nm).length ++ headOf mi mo ds lb lr ob more nm).length by simp [le4]; omega, List.drop_left]
end Go.Proofs.YtdepfipebogdcaaDoor.Line

/- Plain: a line reader as a machine on lists of bytes; no Go in sight. -/
namespace Go.Proofs.YtdepfipebogdcaaDoor.Line
open Go Go.Proofs.YtdepfipebogdcaaDoor.Leb

/-- The next row of a state, in as many rounds as it takes. -/
def NX (k : K) (s : St) (o : Option Row) (s' : St) : Prop := ∃ d, ∀ m, d ≤ m → k.nx m s = some (o, s')
/-- The state at a place. -/
def St.on (s : St) (p : Nat) : St := { s with p := p }
/-- With these bytes ahead the next row is this one, and the state and the bytes ahead are these then. -/
def Nx (k : K) (s : St) (l : List Int) (o : Option Row) (s' : St) (l' : List Int) : Prop := ∀ p, k.at p = l → ∃ p', k.at p' = l' ∧ NX k (s.on p) o (s'.on p')

theorem Nx.skip {k : K} {s s1 s' : St} {bs l l' : List Int} {o : Option Row} (hne : bs ≠ []) (hn : s.n < 4294967295) (hs : ∀ p, k.at p = bs ++ l → k.step (s.on p) = some (none, s1.on (p + bs.length))) (H : Nx k s1 l o s' l') : Nx k s (bs ++ l) o s' l' := by
  intro p hp
  obtain ⟨p', h1, d, h2⟩ := H (p + bs.length) (at_add hp)
  refine ⟨p', h1, d + 1, fun m hm => ?_⟩
  obtain ⟨m, rfl⟩ : ∃ j, m = j + 1 := ⟨m - 1, by omega⟩
  rw [(nx_none (s := s.on p) (s' := s1.on (p + bs.length)) m hp hne (hs p hp) rfl hn).1]
  exact h2 m (by omega)
theorem Nx.row {k : K} {s s1 : St} {r : Row} {bs l : List Int} (hne : bs ≠ []) (hn : s.n < 4294967295) (hs : ∀ p, k.at p = bs ++ l → k.step (s.on p) = some (some r, s1.on (p + bs.length))) : Nx k s (bs ++ l) (some r) s1 l := by
  intro p hp
  refine ⟨p + bs.length, at_add hp, 1, fun m hm => ?_⟩
  obtain ⟨m, rfl⟩ : ∃ j, m = j + 1 := ⟨m - 1, by omega⟩
  exact (nx_row (s := s.on p) (s' := s1.on (p + bs.length)) m hp hne (hs p hp) rfl hn).1
theorem Nx.fin (k : K) (s : St) : Nx k s [] none s [] := fun p hp => ⟨p, hp, 1, fun m hm => by
  obtain ⟨m, rfl⟩ : ∃ j, m = j + 1 := ⟨m - 1, by omega⟩
  exact nx_end m hp⟩

theorem Nx.special {k : K} {s : St} {op : Int} {l : List Int} (hn : s.n < 4294967295) (ho : k.ob ≤ op) (h1 : fit s.r ((op - k.ob) / k.lr) = true) (h2 : fitL s.r.li 0 = true) :
    Nx k s (op :: l) (some { k.adv s.r ((op - k.ob) / k.lr) with li := s.r.li + (k.lb + (op - k.ob) % k.lr) }) { s with r := { k.adv s.r ((op - k.ob) / k.lr) with li := s.r.li + (k.lb + (op - k.ob) % k.lr), bb := false, pe := false, eb := false, di := 0 } } l :=
  Nx.row (bs := [op]) (by simp) hn fun p hp => step_spec (s := s.on p) hp ho h1 h2
theorem Nx.copy {k : K} {s : St} {l : List Int} (hn : s.n < 4294967295) (ho : 1 < k.ob) : Nx k s (1 :: l) (some s.r) { s with r := { s.r with bb := false, pe := false, eb := false, di := 0 } } l :=
  Nx.row (bs := [1]) (by simp) hn fun p hp => step_copy (s := s.on p) hp ho
theorem Nx.advance {k : K} {s s' : St} {bs l l' : List Int} {o : Option Row} {v : Nat} (hn : s.n < 4294967295) (ho : 2 < k.ob) (hu : unum (bs ++ l) = some (v, bs.length)) (h1 : fit s.r v = true) (H : Nx k { s with r := k.adv s.r v } l o s' l') : Nx k s (2 :: (bs ++ l)) o s' l' :=
  Nx.skip (bs := 2 :: bs) (by simp) hn (fun p hp => by
    rw [step_advance (s := s.on p) (k := k) (l := bs ++ l) hp ho hu h1]
    simp [St.on, Nat.add_assoc, Nat.add_comm 1]) H
theorem Nx.line {k : K} {s s' : St} {bs l l' : List Int} {o : Option Row} {v : Nat} (hn : s.n < 4294967295) (ho : 3 < k.ob) (hu : uread (bs ++ l) = some (v, bs.length)) (h1 : fitL s.r.li (sval v bs.length) = true) (H : Nx k { s with r := { s.r with li := s.r.li + sval v bs.length } } l o s' l') : Nx k s (3 :: (bs ++ l)) o s' l' :=
  Nx.skip (bs := 3 :: bs) (by simp) hn (fun p hp => by
    rw [step_line (s := s.on p) (k := k) (l := bs ++ l) hp ho hu h1]
    simp [St.on, Nat.add_assoc, Nat.add_comm 1]) H
theorem Nx.file {k : K} {s s' : St} {bs l l' : List Int} {o : Option Row} {v : Nat} (hn : s.n < 4294967295) (ho : 4 < k.ob) (hu : unum (bs ++ l) = some (v, bs.length)) (H : Nx k ({ s with fi := v } : St).upd l o s' l') : Nx k s (4 :: (bs ++ l)) o s' l' :=
  Nx.skip (bs := 4 :: bs) (by simp) hn (fun p hp => by
    rw [step_file (s := s.on p) (k := k) (l := bs ++ l) hp ho hu]
    simp [St.on, St.upd, St.file, Nat.add_assoc, Nat.add_comm 1]) H
theorem Nx.block {k : K} {s s' : St} {l l' : List Int} {o : Option Row} (hn : s.n < 4294967295) (ho : 7 < k.ob) (H : Nx k { s with r := { s.r with bb := true } } l o s' l') : Nx k s (7 :: l) o s' l' :=
  Nx.skip (bs := [7]) (by simp) hn (fun p hp => by exact step_block (s := s.on p) hp ho) H
theorem Nx.const {k : K} {s s' : St} {l l' : List Int} {o : Option Row} (hn : s.n < 4294967295) (ho : 8 < k.ob) (h1 : fit s.r ((255 - k.ob) / k.lr) = true) (H : Nx k { s with r := k.adv s.r ((255 - k.ob) / k.lr) } l o s' l') : Nx k s (8 :: l) o s' l' :=
  Nx.skip (bs := [8]) (by simp) hn (fun p hp => by exact step_const (s := s.on p) hp ho h1) H
theorem Nx.fixed {k : K} {s s' : St} {b0 b1 : Int} {l l' : List Int} {o : Option Row} (hn : s.n < 4294967295) (ho : 9 < k.ob) (h1 : fit s.r 0 = true) (H : Nx k { s with r := { s.r with ad := s.r.ad + two k.big b0 b1 } } l o s' l') : Nx k s (9 :: b0 :: b1 :: l) o s' l' :=
  Nx.skip (bs := [9, b0, b1]) (by simp) hn (fun p hp => by exact step_fixed (s := s.on p) hp ho h1) H
theorem Nx.isa {k : K} {s s' : St} {bs l l' : List Int} {o : Option Row} {v : Nat} (hn : s.n < 4294967295) (ho : 12 < k.ob) (hu : unum (bs ++ l) = some (v, bs.length)) (H : Nx k { s with r := { s.r with isa := v } } l o s' l') : Nx k s (12 :: (bs ++ l)) o s' l' :=
  Nx.skip (bs := 12 :: bs) (by simp) hn (fun p hp => by
    rw [step_isa (s := s.on p) (k := k) (l := bs ++ l) hp ho hu]
    simp [St.on, Nat.add_assoc, Nat.add_comm 1]) H

/-- Extended operations: ls is the length, bs stands behind the number. -/
theorem ext_at {k : K} {s : St} {ls bs l : List Int} {op : Int} {p : Nat} (ho : 0 < k.ob) (hu : uread (ls ++ (op :: bs ++ l)) = some (bs.length + 1, ls.length)) (hp : k.at p = 0 :: (ls ++ (op :: bs ++ l))) :
    k.step (s.on p) = k.ext (s.on p) (p + 1 + ls.length) (p + (0 :: (ls ++ op :: bs)).length) op ∧ k.at (p + 1 + ls.length + 1) = bs ++ l := by
  refine ⟨?_, ?_⟩
  · rw [step_ext (s := s.on p) hp ho hu]
    congr 1
    simp [St.on]
    omega
  · have h1 := at_add (bs := 0 :: (ls ++ [op])) (l := bs ++ l) (k := k) (p := p) (by rw [hp]; simp)
    rw [← h1]
    congr 1
    simp
    omega
theorem Nx.last {k : K} {s : St} {ls l : List Int} (hn : s.n < 4294967295) (ho : 0 < k.ob) (hu : uread (ls ++ (1 :: [] ++ l)) = some (1, ls.length)) : Nx k s (0 :: (ls ++ 1 :: l)) (some { s.r with es := true }) (k.start s) l := by
  have e : 0 :: (ls ++ 1 :: l) = (0 :: (ls ++ 1 :: [])) ++ l := by simp
  rw [e]
  refine Nx.row (bs := 0 :: (ls ++ 1 :: [])) (by simp) hn fun p hp => ?_
  rw [(ext_at (s := s) (bs := []) (l := l) ho hu (by rw [hp]; simp)).1, ext_end]
  rfl
theorem Nx.addr8 {k : K} {s s' : St} {ls l l' : List Int} {o : Option Row} {b0 b1 b2 b3 b4 b5 b6 b7 : Int} (hn : s.n < 4294967295) (ho : 0 < k.ob) (ha : k.asz = 8) (hu : uread (ls ++ (2 :: [b0, b1, b2, b3, b4, b5, b6, b7] ++ l)) = some (9, ls.length)) (H : Nx k { s with r := { s.r with ad := eight k.big b0 b1 b2 b3 b4 b5 b6 b7 } } l o s' l') :
    Nx k s (0 :: (ls ++ 2 :: b0 :: b1 :: b2 :: b3 :: b4 :: b5 :: b6 :: b7 :: l)) o s' l' := by
  have e : 0 :: (ls ++ 2 :: b0 :: b1 :: b2 :: b3 :: b4 :: b5 :: b6 :: b7 :: l) = (0 :: (ls ++ 2 :: [b0, b1, b2, b3, b4, b5, b6, b7])) ++ l := by simp
  rw [e]
  refine Nx.skip (bs := 0 :: (ls ++ 2 :: [b0, b1, b2, b3, b4, b5, b6, b7])) (by simp) hn (fun p hp => ?_) H
  obtain ⟨h1, h2⟩ := ext_at (s := s) (bs := [b0, b1, b2, b3, b4, b5, b6, b7]) (l := l) ho hu (by rw [hp]; simp)
  rw [h1, ext_addr8 h2 ha (by simp; omega)]
  rfl
theorem Nx.other {k : K} {s s' : St} {ls bs l l' : List Int} {o : Option Row} {op : Int} (hn : s.n < 4294967295) (ho : 0 < k.ob) (hu : uread (ls ++ (op :: bs ++ l)) = some (bs.length + 1, ls.length)) (h1 : op ≠ 1) (h2 : op ≠ 2) (h3 : op ≠ 3) (h4 : op ≠ 4) (H : Nx k s l o s' l') :
    Nx k s (0 :: (ls ++ op :: (bs ++ l))) o s' l' := by
  have e : 0 :: (ls ++ op :: (bs ++ l)) = (0 :: (ls ++ op :: bs)) ++ l := by simp
  rw [e]
  refine Nx.skip (bs := 0 :: (ls ++ op :: bs)) (by simp) hn (fun p hp => ?_) H
  rw [(ext_at (s := s) (bs := bs) (l := l) ho hu (by rw [hp]; simp)).1, ext_unknown h1 h2 h3 h4]
  rfl

/-- The rows that are told from a state on, and then no more. -/
def Told (k : K) : St → List Int → List Row → Prop
  | s, l, [] => ∃ s' l', Nx k s l none s' l'
  | s, l, r :: rs => ∃ s' l', Nx k s l (some r) s' l' ∧ Told k s' l' rs
theorem Told.cons {k : K} {s s' : St} {l l' : List Int} {r : Row} {rs : List Row} (h : Nx k s l (some r) s' l') (t : Told k s' l' rs) : Told k s l (r :: rs) := ⟨_, _, h, t⟩
theorem Told.nil (k : K) (s : St) : Told k s [] [] := ⟨_, _, Nx.fin k s⟩
end Go.Proofs.YtdepfipebogdcaaDoor.Line

/- Plain facts on digits to the base 128, and on the numbers that they tell; no Go in sight. -/
namespace Go.Proofs.YtdepfipebogdcaaDoor.Leb
open Go

def Dig (l : List Int) : Prop := ∀ d ∈ l, 0 ≤ d ∧ d < 128
/-- The number that digits tell. -/
def dval : List Int → Nat
  | [] => 0
  | d :: r => d.toNat + 128 * dval r
theorem uread_carr : ∀ (ds rest : List Int), ds ≠ [] → Dig ds → uread (carr ds ++ rest) = some (dval ds, ds.length)
  | [], _, h, _ => absurd rfl h
  | [d], rest, _, hd => by
    have := hd d (by simp)
    simp only [carr, List.cons_append, List.nil_append, uread]
    rw [if_pos this.2]
    simp [dval]
  | d :: e :: r, rest, _, hd => by
    have h0 := hd d (by simp)
    have ih := uread_carr (e :: r) rest (by simp) (fun x hx => hd x (by simp [List.mem_cons] at hx ⊢; right; exact hx))
    rw [carr, or128_int d h0.1 h0.2, List.cons_append, uread, if_neg (by omega), ih]
    simp only [Option.map_some, dval, List.length_cons]
    congr 2
    omega

theorem dgs_dig (n : Nat) : Dig (dgs n) := by
  induction n using Nat.strongRecOn with
  | _ n ih =>
    intro d hd
    by_cases h : n = 0
    · rw [h, dgs_zero] at hd; simp at hd
    · rw [dgs_pos h] at hd
      rcases List.mem_cons.1 hd with rfl | hd
      · omega
      · exact ih (n / 128) (by omega) d hd
theorem dval_zeros (m : Nat) : dval (List.replicate m 0) = 0 := by
  induction m with
  | zero => rfl
  | succ m ih => rw [List.replicate_succ, dval, ih]; rfl
theorem dval_dgs (n m : Nat) : dval (dgs n ++ List.replicate m 0) = n := by
  induction n using Nat.strongRecOn with
  | _ n ih =>
    by_cases h : n = 0
    · rw [h, dgs_zero, List.nil_append, dval_zeros]
    · rw [dgs_pos h, List.cons_append, dval, ih (n / 128) (by omega)]
      omega
/-- The digits of a number, with m noughts. -/
def udig (n m : Nat) : List Int := ((n % 128 : Nat) : Int) :: (dgs (n / 128) ++ List.replicate m 0)
theorem udig_dig (n m : Nat) : Dig (udig n m) := by
  intro d hd
  rcases List.mem_cons.1 hd with rfl | hd
  · omega
  · rcases List.mem_append.1 hd with hd | hd
    · exact dgs_dig _ d hd
    · obtain ⟨_, rfl⟩ := List.mem_replicate.1 hd
      omega
theorem dval_udig (n m : Nat) : dval (udig n m) = n := by
  rw [udig, dval, dval_dgs]
  omega

end Go.Proofs.YtdepfipebogdcaaDoor.Leb

/- Plain: the rows of plain line programs; no Go in sight. -/
namespace Go.Proofs.YtdepfipebogdcaaDoor.Line
open Go Go.Proofs.YtdepfipebogdcaaDoor.Leb

/-- Numbers in LEB128, with bytes more than they need. -/
def ubp (n m : Nat) : List Int := carr (udig n m)
theorem uread_ubp (n m : Nat) (l : List Int) : uread (ubp n m ++ l) = some (n, (ubp n m).length) := by
  unfold ubp
  rw [uread_carr _ _ (by simp [udig]) (udig_dig n m), dval_udig, carr_length]
theorem unum_ubp (n m : Nat) (l : List Int) (h : n < 9223372036854775808) : unum (ubp n m ++ l) = some (n, (ubp n m).length) := unum_of (uread_ubp n m l) h
theorem fit_of {r : Row} {v : Int} (h1 : 0 ≤ r.ix ∧ r.ix < 256) (h2 : 0 ≤ v ∧ v ≤ 4294967296) (h3 : 0 ≤ r.ad ∧ r.ad < 9223372036854775808) : fit r v = true := by
  simp [fit, h1.1, h1.2, h2.1, h2.2, h3.1, h3.2]
theorem Nx.address {k : K} {s s' : St} {ad : Int} {l l' : List Int} {o : Option Row} (ho : 0 < k.ob) (ha : k.asz = 8) (hb : k.big = false) (had : 0 ≤ ad ∧ ad < 18446744073709551616) (hn : s.n < 4294967295) (H : Nx k { s with r := { s.r with ad := ad } } l o s' l') : Nx k s (0 :: 9 :: 2 :: (le8 ad ++ l)) o s' l' := by
  obtain ⟨b0, b1, b2, b3, b4, b5, b6, b7, e8, e9, _⟩ := eight_le8 ad had
  rw [e8]
  exact Nx.addr8 (ls := [9]) hn ho ha (by simp [uread]) (by rw [hb, e9]; exact H)
theorem Nx.adv {k : K} {s s' : St} {n m : Nat} {l l' : List Int} {o : Option Row} (hn : s.n < 4294967295) (ho : 2 < k.ob) (hl : n < 4294967296) (hix : 0 ≤ s.r.ix ∧ s.r.ix < 256) (had : 0 ≤ s.r.ad ∧ s.r.ad < 9223372036854775808) (H : Nx k { s with r := k.adv s.r n } l o s' l') : Nx k s (2 :: (ubp n m ++ l)) o s' l' :=
  Nx.advance hn ho (unum_ubp n m l (by omega)) (fit_of hix ⟨by omega, by omega⟩ had) H

/-- The states of the plain laws. -/
abbrev stP (F : Fl) (r : Row) : St := ⟨0, [none, some F], 2, r, 1⟩
abbrev row0 (F : Fl) : Row := ⟨0, 0, some F, 1, 0, false, false, false, false, 0, 0, false⟩

end Go.Proofs.YtdepfipebogdcaaDoor.Line

/- Plain tables and numbers, as the printed functions tell them. -/
namespace Go.Proofs.YtdepfipebogdcaaDoor.PPl
open Go.RowKit Go.Proofs.YtdepfipebogdcaaDoorW.PrintWords Go.Proofs.YtdepfipebogdcaaDoorW.PrintLast Go.Proofs.YtdepfipebogdcaaDoorW.PrintMore Go.Proofs.YtdepfipebogdcaaDoor.Leb Go.Proofs.YtdepfipebogdcaaDoor.Line

def inOrder (big : Bool) (l : List Int) : List Int := if big then l.reverse else l
theorem fixed4 (n : Int) (big : Bool) (k : Nat) : spec_Fixed.f (k + 9) n 4 big = some (inOrder big (le4 n)) := by
  cases big <;> simp [spec_Fixed.f, spec_Fixed.l0, wrap64, inOrder, le4, List.replicate, List.set]
theorem fixed8 (n : Int) (big : Bool) (k : Nat) : spec_Fixed.f (k + 9) n 8 big = some (inOrder big (le8 n)) := by
  cases big <;> simp [spec_Fixed.f, spec_Fixed.l0, wrap64, inOrder, le8, le4, List.replicate, List.set]
theorem named_step (d : Nat) : ∀ (j K : Nat) (x1 : Int) (x2 : List Int) (x3 : ByteArray) (x9 : List Int) (a b c e ob : Int), j + d = 12 → 1 ≤ ob → ob < 256 → x9.length < 100 + j →
    laws_named.l0 (d + K) x1 x2 x3 x9 [0, 1, 1, 1, 1, 0, 0, 0, 1, 0, 0, 1] 12 (j : Int) a b c e ob = laws_named.l0 K x1 x2 x3 (x9 ++ (twelve.take (ob.toNat - 1)).drop j) [0, 1, 1, 1, 1, 0, 0, 0, 1, 0, 0, 1] 12 12 a b c e ob := by
  induction d with
  | zero =>
    intro j K x1 x2 x3 x9 a b c e ob hj _ _ _
    obtain rfl : j = 12 := by omega
    rw [List.drop_of_length_le (by rw [List.length_take]; simp [twelve]; omega), List.append_nil, Nat.zero_add]
    rfl
  | succ d ih =>
    intro j K x1 x2 x3 x9 a b c e ob hj h1 h2 hl
    rw [show d + 1 + K = (d + K) + 1 by omega]
    have hw : wrap64 ((j : Int) + 1) = ((j + 1 : Nat) : Int) := by unfold wrap64; omega
    simp only [laws_named.l0]
    rw [if_pos (by omega), if_pos (by omega), if_pos (by simp; omega), hw]
    by_cases hc : ((j + 1 : Nat) : Int) < ob
    · rw [if_pos hc, if_pos (by omega), ih (j + 1) K _ _ _ _ _ _ _ _ _ (by omega) h1 h2 (by simp; omega)]
      have hd : (twelve.take (ob.toNat - 1)).drop j = rd [0, 1, 1, 1, 1, 0, 0, 0, 1, 0, 0, 1] (j : Int) :: (twelve.take (ob.toNat - 1)).drop (j + 1) := by
        have hlt : j < (twelve.take (ob.toNat - 1)).length := by rw [List.length_take]; simp [twelve]; omega
        rw [List.drop_eq_getElem_cons hlt, List.getElem_take]
        congr 1
        simp [rd, twelve]
        rw [List.getElem?_eq_getElem (by simp; omega)]
        rfl
      rw [hd]
      simp
    · rw [if_neg hc, ih (j + 1) K _ _ _ _ _ _ _ _ _ (by omega) h1 h2 (by omega)]
      rw [List.drop_of_length_le (l := twelve.take (ob.toNat - 1)) (i := j) (by rw [List.length_take]; omega), List.drop_of_length_le (l := twelve.take (ob.toNat - 1)) (i := j + 1) (by rw [List.length_take]; omega)]

theorem named_f {mi mo lb lr ob ad : Int} {prog : List Int} {nm : ByteArray} (h1 : 0 ≤ mi ∧ mi < 256) (h2 : 1 ≤ mo ∧ mo < 256) (h4 : 1 ≤ lr ∧ lr < 256) (h5 : 1 ≤ ob ∧ ob < 256) (hp : prog.length < 1000000000) (hn : nm.size < 1000000000) :
    Ev (fun k => laws_named.f k mi mo lb lr ob ad prog nm) (tableOf (headOf mi mo false lb lr ob (List.replicate (ob.toNat - 13) 0) (bytesOf nm)) (0 :: 9 :: 2 :: (le8 ad ++ (prog ++ [0, 1, 1])))) := by
  refine ⟨40, fun k hk => ?_⟩
  obtain ⟨K, rfl⟩ : ∃ K, k = 12 + (K + 10) := ⟨k - 22, by omega⟩
  unfold laws_named.f
  simp only [Option.bind_some]
  have hs := named_step 12 0 (K + 10) ad prog nm [mi % 256, mo % 256, 0, lb % 256, lr % 256, ob % 256] mi mo lb lr ob rfl h5.1 h5.2 (by simp)
  have e0 : (([0, 1, 1, 1, 1, 0, 0, 0, 1, 0, 0, 1] : List Int).length : Int) = 12 := rfl
  rw [e0]
  rw [show (0 : Int) = ((0 : Nat) : Int) from rfl] at hs ⊢
  rw [hs]
  have hmx : mx (wrap64 (ob - 13)) 0 = ((ob.toNat - 13 : Nat) : Int) := by
    have : wrap64 (ob - 13) = ob - 13 := by unfold wrap64; omega
    rw [this]
    unfold mx
    omega
  have hL := lensOf_length ob.toNat (List.replicate (ob.toNat - 13) 0) (by simp)
  unfold lensOf at hL
  rw [List.length_append, List.length_replicate] at hL
  have hbl := bytesOf_length nm
  have hle : (le4 0).length = 4 := rfl
  have l4 : ∀ n, (le4 n).length = 4 := fun _ => rfl
  have l8 : ∀ n, (le8 n).length = 8 := fun _ => rfl
  have hu : ∀ n : Nat, n < 18446744073709551616 → IntKind.u64.wrap (n : Int) = (n : Int) := fun n h => by rw [IntKind.wrap_u64]; omega
  simp only [laws_named.l0]
  rw [if_neg (by decide), hmx, if_pos (by omega), if_pos (by simp; omega)]
  simp only [Option.bind_some, List.drop_zero]
  rw [if_pos (by simp; omega), if_pos (by simp; omega), if_pos (by simp [hbl]; omega), hu _ (by simp [hbl]; omega), fixed4 _ false K]
  simp only [Option.bind_some]
  rw [if_pos (by simp [inOrder, l4]), if_pos (by simp [inOrder, l4, hbl]; omega), if_pos (by simp [inOrder, l4, hbl]; omega), fixed8 _ false K]
  simp only [Option.bind_some]
  rw [if_pos (by simp [inOrder, l4, l8, hbl]; omega), if_pos (by simp [inOrder, l4, l8, hbl]; omega), if_pos (by simp [inOrder, l4, l8, hbl]; omega), hu _ (by simp [inOrder, l4, l8, hbl]; omega), fixed4 _ false K]
  simp only [Option.bind_some]
  rw [if_pos (by simp [inOrder, l4, l8, hbl]; omega)]
  have m1 : mi % 256 = mi := by omega
  have m2 : mo % 256 = mo := by omega
  have m4 : lr % 256 = lr := by omega
  have m5 : ob % 256 = ob := by omega
  rw [m1, m2, m4, m5]
  simp [tableOf, bodyOf, headOf, lensOf, inOrder]

theorem nexts_f (n : Nat) (h : n < 1000) : laws_nexts.f (n : Int) = some (List.replicate n z67) := by
  unfold laws_nexts.f
  rw [if_pos (by omega), if_pos (by omega)]
  simp
end Go.Proofs.YtdepfipebogdcaaDoor.PPl

/- laws.rowsOf on a plain table: the rows that the plain machine tells. -/
namespace Go.Proofs.YtdepfipebogdcaaDoor.PPl
open Go.RowKit Go.Proofs.YtdepfipebogdcaaDoorW.PrintWords Go.Proofs.YtdepfipebogdcaaDoorW.PrintLast Go.Proofs.YtdepfipebogdcaaDoorW.PrintMore Go.Proofs.YtdepfipebogdcaaDoor.Leb Go.Proofs.YtdepfipebogdcaaDoor.Line

/-- The program of a plain table. -/
def progOf (ad : Int) (prog : List Int) : List Int := 0 :: 9 :: 2 :: (le8 ad ++ (prog ++ [0, 1, 1]))
end Go.Proofs.YtdepfipebogdcaaDoor.PPl

/- A table whose file has a name that is joined to the unit's directory: plain laws. -/
namespace Go.Proofs.YtdepfipebogdcaaDoor.Line
open Go.RowKit Go.Proofs.YtdepfipebogdcaaDoor.Leb

theorem hdr_dir {dir r : ByteArray} {mi mo : Int} {ds : Bool} {lb lr ob : Int} {more nm prog : List Int} (h1 : 0 ≤ mi ∧ mi < 256) (h2 : 1 ≤ mo ∧ mo < 256) (h3 : -128 ≤ lb ∧ lb < 128) (h4 : 1 ≤ lr ∧ lr < 256) (h5 : 1 ≤ ob ∧ ob < 256) (hm : more.length = ob.toNat - 13) (hmb : Bytes more)
    (hne : nm ≠ []) (hin : nameIn [dir] (strOf nm) 0 = some r) (hz : ∀ x ∈ nm, x ≠ 0) (hnb : Bytes nm) (hp : Bytes prog) (hl : nm.length + prog.length < 2147480000) :
    hdr4n (tableOf (headOf mi mo ds lb lr ob more nm) prog) 0 8 false dir = some ({ constOf mi mo ds lb lr ob more nm prog with dirs := [dir] }, [none, some ⟨r, 0, 0⟩]) := by
  have hpos := List.length_pos_iff.2 hne
  have hL := lensOf_length ob.toNat more hm
  have hH := headOf_length mi mo ds lb lr ob more nm
  have hB := bodyOf_length (headOf mi mo ds lb lr ob more nm) prog
  have hT := tableOf_length (headOf mi mo ds lb lr ob more nm) prog
  have hds : 0 ≤ (if ds then (1 : Int) else 0) ∧ (if ds then (1 : Int) else 0) < 256 := by cases ds <;> simp
  have hok : okBytes (tableOf (headOf mi mo ds lb lr ob more nm) prog) = true := by
    refine ok_of_bytes ?_
    refine app_bytes (le4_bytes _) (app_bytes (app_bytes (app_bytes (by intro b hb; simp at hb; omega) (le4_bytes _)) ?_) hp)
    refine cons_bytes h1 (cons_bytes (by omega) (cons_bytes hds (cons_bytes (by omega) (cons_bytes (by omega) (cons_bytes (by omega) (app_bytes (app_bytes (twelve_bytes.take _) hmb) (cons_bytes (by omega) (app_bytes hnb (by intro b hb; simp at hb; omega)))))))))
  have hlen := lensOk_of ob.toNat more (fun h => List.length_eq_zero_iff.1 (by omega))
  have hF : filesIn [dir] ((nm ++ [0, 0, 0, 0, 0] ++ prog).length + 1) (nm ++ [0, 0, 0, 0, 0] ++ prog) = some ([some ⟨r, 0, 0⟩], nm.length + 1 + 1 + 1 + 1 + 1) := by
    have e : nm ++ [0, 0, 0, 0, 0] ++ prog = nm ++ 0 :: ([0] ++ ([0] ++ ([0] ++ 0 :: prog))) := by simp
    have hf := fileIn_app (dirs := [dir]) (nm := nm) (a := [0]) (b := [0]) (c := [0]) (l := 0 :: prog) (d := 0) (m := 0) (n := 0) (r := r) hne hz (unum_zero _) (unum_zero _) (unum_zero _) hin
    have ed : (nm ++ [0, 0, 0, 0, 0] ++ prog).drop (nm.length + 1 + [(0 : Int)].length + [(0 : Int)].length + [(0 : Int)].length) = 0 :: prog := by
      rw [show nm ++ [0, 0, 0, 0, 0] ++ prog = (nm ++ [0, 0, 0, 0]) ++ 0 :: prog by simp, show nm.length + 1 + [(0 : Int)].length + [(0 : Int)].length + [(0 : Int)].length = (nm ++ [0, 0, 0, 0]).length by simp, List.drop_left]
    rw [filesIn, e, hf]
    simp only [Option.bind_some]
    rw [← e, ed]
    obtain ⟨F, hF⟩ : ∃ F, (nm ++ [0, 0, 0, 0, 0] ++ prog).length = F + 1 := ⟨nm.length + 4 + prog.length, by simp; omega⟩
    rw [hF, filesIn, fileIn_nil]
    simp
  have eT : tableOf (headOf mi mo ds lb lr ob more nm) prog = ((bodyOf (headOf mi mo ds lb lr ob more nm) prog).length : Int) % 256 :: ((bodyOf (headOf mi mo ds lb lr ob more nm) prog).length : Int) / 256 % 256 :: ((bodyOf (headOf mi mo ds lb lr ob more nm) prog).length : Int) / 256 / 256 % 256 :: ((bodyOf (headOf mi mo ds lb lr ob more nm) prog).length : Int) / 256 / 256 / 256 % 256
      :: 4 :: 0 :: ((headOf mi mo ds lb lr ob more nm).length : Int) % 256 :: ((headOf mi mo ds lb lr ob more nm).length : Int) / 256 % 256 :: ((headOf mi mo ds lb lr ob more nm).length : Int) / 256 / 256 % 256 :: ((headOf mi mo ds lb lr ob more nm).length : Int) / 256 / 256 / 256 % 256
      :: mi :: mo :: (if ds then 1 else 0) :: lb % 256 :: lr :: ob :: (lensOf ob.toNat more ++ 0 :: (nm ++ [0, 0, 0, 0, 0] ++ prog)) := by
    simp [tableOf, bodyOf, le4, headOf]
  have eD := (List.drop_zero (l := tableOf (headOf mi mo ds lb lr ob more nm) prog)).trans eT
  clear eT
  unfold hdr4n
  generalize hTT : tableOf (headOf mi mo ds lb lr ob more nm) prog = TT at *
  rw [eD]
  have q1 := (four_le4 ((bodyOf (headOf mi mo ds lb lr ob more nm) prog).length : Int) (by omega)).1
  have q2 := (four_le4 ((headOf mi mo ds lb lr ob more nm).length : Int) (by omega)).1
  simp only [q1, q2, Int.toNat_natCast]
  have eTl : (lensOf ob.toNat more ++ 0 :: (nm ++ [0, 0, 0, 0, 0] ++ prog)).length = (lensOf ob.toNat more).length + 1 + (nm ++ [0, 0, 0, 0, 0] ++ prog).length := by simp; omega
  have eTk : (lensOf ob.toNat more ++ 0 :: (nm ++ [0, 0, 0, 0, 0] ++ prog)).take (ob.toNat - 1) = lensOf ob.toNat more := by rw [← hL, List.take_left]
  have eDr : (lensOf ob.toNat more ++ 0 :: (nm ++ [0, 0, 0, 0, 0] ++ prog)).drop (ob.toNat - 1) = 0 :: (nm ++ [0, 0, 0, 0, 0] ++ prog) := by rw [← hL, List.drop_left]
  have eLn : (nm ++ [0, 0, 0, 0, 0] ++ prog).length = nm.length + 5 + prog.length := by simp; omega
  rw [eTk, eDr, eTl, eLn]
  rw [if_pos ⟨by omega, by decide, by omega, by omega, by omega, by omega, by omega, by omega, by omega, hlen, hok⟩]
  simp only
  rw [hF]
  simp only [Option.bind_some]
  rw [sbyte_mod lb h3]
  have eds : ((if ds then (1 : Int) else 0) != 0) = ds := by cases ds <;> rfl
  rw [eds]
  unfold constOf
  rw [hTT]
  dsimp only
  congr 3
  all_goals omega


theorem at_progD (dir : ByteArray) (mi mo : Int) (ds : Bool) (lb lr ob : Int) (more nm prog : List Int) : ({ constOf mi mo ds lb lr ob more nm prog with dirs := [dir] } : K).at (10 + (headOf mi mo ds lb lr ob more nm).length) = prog := at_prog mi mo ds lb lr ob more nm prog
theorem reset_firstD (dir : ByteArray) (mi mo : Int) (ds : Bool) (lb lr ob : Int) (more nm prog : List Int) (F : Fl) : ({ constOf mi mo ds lb lr ob more nm prog with dirs := [dir] } : K).reset (first [none, some F]) = state0 F ds (10 + (headOf mi mo ds lb lr ob more nm).length) id := rfl
/-- The first row of a program that copies one. -/
theorem say_home {k : K} {F : Fl} {ad : Int} (ho : k.ob = 13) (ha : k.asz = 8) (hb : k.big = false) (had : 0 ≤ ad ∧ ad ≤ 4611686018427387904) (l : List Int) :
    ∃ s', Nx k (stP F (row0 F)) (0 :: 9 :: 2 :: (le8 ad ++ 1 :: l)) (some { row0 F with ad := ad }) s' l :=
  ⟨_, Nx.address (by omega) ha hb (by omega) (by show (2 : Nat) < _; decide) (Nx.copy (by show (2 : Nat) < _; decide) (by omega))⟩
end Go.Proofs.YtdepfipebogdcaaDoor.Line

/- The package's variables that the rows list as laid, as the walks want them. -/
namespace Go.Proofs.YtdepfipebogdcaaDoor.Laid
set_option maxRecDepth 100000
open Go.ChangeShapes Go.WideShapes Go.ChangeAt Go.WideMaps Go.WideElems Go.RowKit Go.Proofs.YtdepfipebogdcaaDoor.PPl Go.Proofs.YtdepfipebogdcaaDoor.Line

/-- What a reading of the map tells. -/
def told : DataW Unit → Option (Option Int)
  | .lit (.int .i64 n) => some (some n)
  | .nil => some none
  | _ => none
theorem told_known : ((List.range 256).all fun i => told ((Rows.laid_loop_example_pub_g03025_pub_dwarf_knownOpcodeLengths (H := Unit)).atKey (.int .i64 (i : Int)) .nil) == some (known i)) = true := by kernel_rfl
theorem row_ptr (u : TypeId) (h : Tryd.prog.typeName? 3 u = some "*errors.errorString") : u = 175 := by
  have star : "*" ++ "errors.errorString" = "*errors.errorString" := by decide
  exact typeName_ptr_named (nm := "errors.errorString") (by rw [star]; kernel_rfl) (by kernel_rfl) (by decide) u (by rw [star]; exact h)
theorem glob_of {W : World} (h : laidMetH Tryd.prog Rows.fnLineSetRow.laid W) : Glob W := by
  rw [MakeChecks.laidMetH_plain _ _ _ (by kernel_rfl)] at h
  have h1 := laidMet.tail h
  obtain ⟨ea, s, hv, _, _, _⟩ := laid_sentinel h1 (show Tryd.prog.globalNamed "io.EOF" = some 0 by kernel_rfl) (show (Tryd.prog.globals[0]?).map (·.type) = some 61 by kernel_rfl) Tryd.underlying61 row_ptr Tryd.underlying175 Tryd.underlying213 rfl rfl Tryd.underlying9 (by kernel_rfl) (by kernel_rfl)
  have hE : W.cell? ⟨0, 0, none⟩ = some (.iface 175 (.pointer (some ea))) := by
    have := World.var?_cell (show Tryd.prog.globalNamed "io.EOF" = some 0 by kernel_rfl) hv 0
    simpa using this
  have h4 := laidMet.tail (laidMet.tail (laidMet.tail h1))
  obtain ⟨ps, ⟨g0, t0, cs0, f0, p0, q0, hg0, ht0, hv0, hd0, _, _⟩, _, _⟩ := h4
  have gK : Tryd.prog.globalNamed "loop.example/pub-g03025/pub/dwarf.knownOpcodeLengths" = some 2 := by kernel_rfl
  have tK : (Tryd.prog.globals[2]?).map (·.type) = some 119 := by kernel_rfl
  obtain rfl := Option.some.inj (gK.symm.trans hg0)
  obtain rfl := Option.some.inj (tK.symm.trans ht0)
  rcases open_map Tryd.underlying119 hd0 with ⟨_, hx⟩ | ⟨bm, es, clock, m, rfl, hcs, hb, _, F, hx⟩
  · simp [Rows.laid_loop_example_pub_g03025_pub_dwarf_knownOpcodeLengths] at hx
  simp only [Prod.mk.injEq] at hx
  have hcell : W.cell? ⟨2, 0, none⟩ = some (.map (some bm)) := by
    have := World.var?_cell hg0 hv0 0
    rw [Array.eq_one_of_toList hcs] at this
    simpa using this
  refine ⟨bm, ea, ⟨hcell, (Array.getElem?_eq_some_iff.1 hb).1, fun w' hw i hi => ?_⟩, World.block_lt_of_cell? W _ hcell, hE⟩
  have zero : (zeroValue 3).run Tryd.prog w' = .ok (.int .i64 0) w' := by kernel_rfl
  have hk := List.all_eq_true.1 told_known i (List.mem_range.2 hi)
  rw [beq_iff_eq] at hk
  rcases Maps.fit_look (w := w') true (Maps.int_keyed Tryd.underlying3) Tryd.underlying119 zero (hw.trans hb) F (Maps.keyOf_int_mk (a := (i : Int)) Tryd.underlying3 (by simp [Lit.wf, IntKind.min, IntKind.max, IntKind.bits, IntKind.signed]; omega)) with ⟨hrun, _, hat⟩ | ⟨e0, y, _, _, hrun, hRv, hat, _⟩
  · have := hat .nil
    rw [← hx.1] at this
    rw [this] at hk
    have hn : known i = none := by
      have h2 : some (none : Option Int) = some (known i) := hk
      exact (Option.some.inj h2).symm
    rw [hn]
    exact hrun
  · obtain ⟨r, hr, rfl, _⟩ := elemAt_int Tryd.underlying3 hRv
    have := hat .nil
    rw [← hx.1] at this
    rw [this] at hk
    have hn : known i = some r := by
      have h2 : some (some r) = some (known i) := hk
      exact (Option.some.inj h2).symm
    rw [hn]
    rw [hr] at hrun
    exact hrun
end Go.Proofs.YtdepfipebogdcaaDoor.Laid

/- A world in which the listed variables are laid. -/
namespace Go.Proofs.YtdepfipebogdcaaDoor.Laid
set_option maxRecDepth 100000
open Go.ChangeShapes Go.WideShapes Go.ChangeAt Go.RowKit

/-- The map's block. -/
def mapObj : Obj := .map #[⟨.int .i64 1, .int .i64 0, 0⟩, ⟨.int .i64 2, .int .i64 1, 1⟩, ⟨.int .i64 3, .int .i64 1, 2⟩, ⟨.int .i64 4, .int .i64 1, 3⟩, ⟨.int .i64 6, .int .i64 0, 4⟩, ⟨.int .i64 7, .int .i64 0, 5⟩, ⟨.int .i64 8, .int .i64 0, 6⟩, ⟨.int .i64 10, .int .i64 0, 7⟩, ⟨.int .i64 11, .int .i64 0, 8⟩, ⟨.int .i64 12, .int .i64 1, 9⟩] 10
/-- How many blocks there are at first. -/
noncomputable def size0 : Nat := (begin Tryd.prog (fun _ _ => 0) default).world.heap.size
noncomputable def mapWorld (os : Os) : World := (World.holding Tryd.prog os ⟨#[mapObj], #[], []⟩).setCell ⟨2, 0, none⟩ (.map (some size0))
/-- The variables that are laid by the function. -/
def great : List String := ["unicode/utf8.acceptRanges", "io.EOF", "unicode.asciiFold", "unicode.caseOrbit", "loop.example/pub-g03025/pub/dwarf.ErrUnknownPC", "unicode.CaseRanges", "unicode/utf8.first"]
noncomputable def wit (os : Os) : World := (mapWorld os).layVars Tryd.prog (Rows.fnLineSetRow.laid.filter fun x => great.contains x.1)
theorem wit_os (os : Os) : (wit os).os = os := World.layVars_os _ _ _
theorem wit_met (os : Os) (args : Array Value) : laidMetH Tryd.prog Rows.fnLineSetRow.laid ((wit os).forCall (fun _ _ => 0) ⟨#[], args, []⟩).memory := by
  rw [MakeChecks.laidMetH_plain _ _ _ (by kernel_rfl)]
  have h : laidMet Tryd.prog Rows.fnLineSetRow.laid (wit os) := laidMet_layVars (w0 := mapWorld os) great [2, size0] rfl (by kernel_rfl) (by kernel_rfl) (LaidIn.of_run _ 8 (by kernel_rfl) (by kernel_rfl) (by kernel_rfl) (by kernel_rfl))
  exact h.of_heap (by simp [World.memory, World.forCall, Input.heap])
theorem wit_shaped (os : Os) (args : Array Value) : ((wit os).forCall (fun _ _ => 0) ⟨#[], args, []⟩).Shaped Tryd.prog := World.shaped_of_ZipB (by kernel_rfl) (by kernel_rfl)
end Go.Proofs.YtdepfipebogdcaaDoor.Laid
