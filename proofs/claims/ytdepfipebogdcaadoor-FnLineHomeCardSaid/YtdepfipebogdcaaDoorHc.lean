/- Texts of this session, joined: LStepE, LStepF, LStepG, LStepH, LStepI, LStepJ, LStepK, LFileA, LFileB, LFileC, LFileD, LStepL, LStepA, LStep, LNextM, LNext, LReset, LRowsA, LLineA, LHdrM, LHdrA. -/
import Derived.Test.YtdepfipebogdcaaDoorHb
import Derived.Test.YtdepfipebogdcaaDoorProg
import Derived.Below
import Derived.Deep.Draws
import Derived.Deep.AppendLies
import Derived.Maps.AppendAt
import Derived.OwnWalk
import Derived.Laws.BytesArg
import Derived.Laws.MakeOwn
import Derived.Laws.OwnMore
import Derived.Deep.OwnRows
import Derived.Tactics
import Derived.Lib.ConvBytes
import Derived.Laws.Slices
import Derived.WalkKit
import Derived.KernelRfl
import Derived.RowKit3
import Derived.Deep.LoopGhost
import Derived.Deep.QuietTactic
import Derived.BigQuiet
import Derived.WideLaws
import Derived.Deep.DeepCutAuto
import Derived.Deep.CutBlock
import Derived.Deep.RegionHeld3
import Derived.Laws.Rows
import Derived.Lib.AppendStr
import Derived.ArgAppend
import Derived.Laws.IdiomCopy
import Derived.OrdersHeld
import Derived.Laws.BitsLemmas
import Derived.RowKit
import Derived.Test.YtdepfipebogdcaaDoorHa
import Derived.WalkMore
import Derived.ScopeJumps
import Derived.Deep.RegionWith
import Derived.Deep.RegionLaw
import Derived.StillTailTactics
import Derived.LaidEql
set_option linter.unusedVariables false
set_option linter.unusedSimpArgs false
/- A step of a line reader: the opcodes that add. -/
namespace Go.Proofs.YtdepfipebogdcaaDoor.Line
set_option maxRecDepth 100000
open Go.RowKit Go.Proofs.YtdepfipebogdcaaDoorW.PrintWords Go.Proofs.YtdepfipebogdcaaDoorW.PrintLast Go.Proofs.YtdepfipebogdcaaDoorW.PrintMore Go.Proofs.YtdepfipebogdcaaDoor.Leb Go.Proofs.YtdepfipebogdcaaDoor.Buf Go.Proofs.YtdepfipebogdcaaDoor

theorem at_mem {k : K} {p n : Nat} {b : Int} (h : b ∈ k.at (p + n)) : b ∈ k.at p := by
  unfold K.at at h ⊢
  rw [← List.drop_drop] at h
  exact List.mem_of_mem_drop h

set_option maxHeartbeats 1000000 in
theorem step_3 {w : World} {g ge : Nat} {c : RC} {k : K} {s : St} {es : Array Value} {l : List Int} {v n : Nat} (hu : uread (k.at (s.p + 1)) = some (v, n)) (hf : fitL s.r.li (sval v n) = true) (h : HasR w g c k s) (he : w.heap[ge]? = some (.cells es 92 (0, 0))) (hl : k.at s.p = 3 :: l) (hp : s.p + 1 + n ≤ k.eo) (hob : 3 < k.ob) :
    Calls Tryd.prog 51 #[.pointer (some ⟨g, 0, none⟩), .pointer (some ⟨ge, 0, none⟩)] w fun e w' => StepPost w g ge c k es none { s with p := s.p + 1 + n, r := { s.r with li := s.r.li + sval v n } } e w' := by
  obtain ⟨b, cap, fp, hH, hF, hP⟩ := h.at_
  have hlt : s.p + 1 + n < 4294967296 := by have := h.eo; have := h.len; omega
  obtain ⟨x, rfl⟩ := hP.ptr
  have HV := Aside0.mk (uint8_has hH hl)
  have HA := Aside0.mk (adv_at (k := k) (p := s.p) (n := 1) (by omega))
  have H0 := Aside0.mk (And.intro h (And.intro he (And.intro hF hP)))
  have HP := Aside0.mk hp
  have c1 : decide (k.ob ≤ 3) = false := decide_eq_false (by omega)
  have HLT := Aside0.mk hlt
  obtain ⟨D, hD⟩ : ∃ D : Int, sval v n = D := ⟨_, rfl⟩
  obtain ⟨L, hL⟩ : ∃ L : Int, s.r.li + D = L := ⟨_, rfl⟩
  rw [hD] at hf
  simp only [fitL, Bool.and_eq_true, decide_eq_true_eq] at hf
  have hw : wrap64 (s.r.li + D) = L := by rw [← hL]; unfold wrap64; omega
  have hw2 : IntKind.i64.wrap (s.r.li + D) = L := by rw [← hL, IntKind.wrap_i64]; omega
  have HU := Aside0.mk hu
  have HDD := Aside0.mk hD
  have HLL := Aside0.mk hL
  rw [hD, hL]
  clear h he hF hP hl hlt hp hob hH hu hf hD hL
  go_enter Tryd.func51, Tryd.ntmps51
  go_wp2_with fail
  go_step3
  go_wp2_with fail
  refine HV.out.mono ?_
  rintro e w1 ⟨rfl, hh, hk⟩
  rw [HA.out] at hh
  have n0 : g < w1.heap.size := hh.lt
  have q18 : w1.cell? ⟨g, 18, none⟩ = some (.int .i64 k.ob) := (hh.restc 11).trans rfl
  have HI : Aside0 (∀ m, Calls Tryd.prog 68 #[.pointer (some ⟨g, 0, none⟩)] (w1.drewN m) fun e w' => e = .returned (.int .i64 D) ∧ Has w' g 94 (rest c k s (.slice (some ⟨b, 0, none⟩) s.n cap) (.pointer x)) c.bc ⟨((s.p + 1 + n : Nat) : Int), k.at (s.p + 1 + n), true⟩ ∧ Kp w w' g) := ⟨fun m => by
    refine (int_has (hh.drewN m) rfl HU.out).mono ?_
    rintro e w' ⟨rfl, h1, h2⟩
    rw [adv_at (k := k) (p := s.p + 1) (n := n) HLT.out] at h1
    exact ⟨by rw [HDD.out], h1, (hk.drewN m).trans h2⟩⟩
  have q28 : w1.cell? ⟨g, 28, none⟩ = some (.int .i64 s.r.li) := (hh.restc 21).trans rfl
  have f28 := hh.free 28
  have HH0 : Aside0 (∀ m, (w1.drewN m).cell? ⟨g, 28, none⟩ = some (.int .i64 s.r.li) ∧ (w1.drewN m).frozen? ⟨g, 28, none⟩ = false) := ⟨fun m => ⟨q28, f28⟩⟩
  clear hh hk
  go_wp2_with fail
  go_region_law (first | (go_simp; go_at_call 68; refine (HI.out _).mono ?_; rintro e w2 ⟨rfl, hh, hk⟩; have n0 : g < w2.heap.size := hh.lt; have q28 : w2.cell? ⟨g, 28, none⟩ = some (.int .i64 s.r.li) := (hh.restc 21).trans rfl; have f28 := hh.free 28; have HH := Aside0.mk (And.intro hh hk); clear hh hk))
  all_goals
    go_wp2_with fail
    rw [Exit.noGoto_ret]
    go_ret
    refine step_none H0.out.1 H0.out.2.1 H0.out.2.2.1 H0.out.2.2.2 ?_ HP.out (fun fv hfv => ?_) rfl rfl rfl
    · first | exact HH.out.2.set 28 _ | exact (HH.out.2.set 28 _).drewN _ | exact (HH.out.2.drewN _).set 28 _
    · subst hfv
      first | exact HH.out.1.st1 28 _ (rest_all c k _ _ _ rfl rfl) ⟨c.byte.1, c.byte.2.1⟩ (fun a h7 => by simp [Array.setIfInBounds_append_right, h7]) | exact (HH.out.1.drewN _).st1 28 _ (rest_all c k _ _ _ rfl rfl) ⟨c.byte.1, c.byte.2.1⟩ (fun a h7 => by simp [Array.setIfInBounds_append_right, h7])

set_option maxHeartbeats 1000000 in
theorem step_9 {w : World} {g ge : Nat} {c : RC} {k : K} {s : St} {es : Array Value} {l : List Int} {b0 b1 : Int} {l1 : List Int} (hu : k.at (s.p + 1) = b0 :: b1 :: l1) (hf : fit s.r 0 = true) (h : HasR w g c k s) (he : w.heap[ge]? = some (.cells es 92 (0, 0))) (hl : k.at s.p = 9 :: l) (hp : s.p + 3 ≤ k.eo) (hob : 9 < k.ob) :
    Calls Tryd.prog 51 #[.pointer (some ⟨g, 0, none⟩), .pointer (some ⟨ge, 0, none⟩)] w fun e w' => StepPost w g ge c k es none { s with p := s.p + 3, r := { s.r with ad := s.r.ad + two k.big b0 b1 } } e w' := by
  obtain ⟨b, cap, fp, hH, hF, hP⟩ := h.at_
  have hlt : s.p + 3 < 4294967296 := by have := h.eo; have := h.len; omega
  obtain ⟨x, rfl⟩ := hP.ptr
  have HV := Aside0.mk (uint8_has hH hl)
  have HA := Aside0.mk (adv_at (k := k) (p := s.p) (n := 1) (by omega))
  have H0 := Aside0.mk (And.intro h (And.intro he (And.intro hF hP)))
  have HP := Aside0.mk hp
  have c1 : decide (k.ob ≤ 9) = false := decide_eq_false (by omega)
  have HLT := Aside0.mk hlt
  have hB := hH.byte
  have hB0 : 0 ≤ b0 ∧ b0 < 256 := hB b0 (at_mem (n := 1) (by rw [hu]; simp))
  have hB1 : 0 ≤ b1 ∧ b1 < 256 := hB b1 (at_mem (n := 1) (by rw [hu]; simp))
  obtain ⟨D, hD⟩ : ∃ D : Int, two k.big b0 b1 = D := ⟨_, rfl⟩
  have hDb := two_lt k.big hB0 hB1
  rw [hD] at hDb
  obtain ⟨L, hL⟩ : ∃ L : Int, s.r.ad + D = L := ⟨_, rfl⟩
  have hf := fit_some hf
  have hw : IntKind.u64.wrap D = D := by simp [IntKind.wrap, IntKind.signed, IntKind.bits]; omega
  have hw2 : IntKind.u64.wrap (s.r.ad + D) = L := by rw [← hL]; simp [IntKind.wrap, IntKind.signed, IntKind.bits]; omega
  have HU := Aside0.mk hu
  have HDD := Aside0.mk hD
  have HLL := Aside0.mk hL
  have HBIG := Aside0.mk h.big
  rw [hD, hL]
  clear h he hF hP hl hlt hp hob hH hu hf hD hL hB hB0 hB1 hDb
  go_enter Tryd.func51, Tryd.ntmps51
  go_wp2_with fail
  go_step3
  go_wp2_with fail
  refine HV.out.mono ?_
  rintro e w1 ⟨rfl, hh, hk⟩
  rw [HA.out] at hh
  have n0 : g < w1.heap.size := hh.lt
  have q18 : w1.cell? ⟨g, 18, none⟩ = some (.int .i64 k.ob) := (hh.restc 11).trans rfl
  have HI : Aside0 (∀ m, Calls Tryd.prog 39 #[.pointer (some ⟨g, 0, none⟩)] (w1.drewN m) fun e w' => e = .returned (.int .u16 D) ∧ Has w' g 94 (rest c k s (.slice (some ⟨b, 0, none⟩) s.n cap) (.pointer x)) c.bc ⟨((s.p + 3 : Nat) : Int), k.at (s.p + 3), true⟩ ∧ Kp w w' g) := ⟨fun m => by
    refine (uint16_ok (hh.drewN m) HU.out).mono ?_
    rintro e w' ⟨rfl, h1, h2⟩
    rw [adv_at (k := k) (p := s.p + 1) (n := 2) (by have := HLT.out; omega)] at h1
    exact ⟨by rw [HBIG.out, HDD.out], h1, (hk.drewN m).trans h2⟩⟩
  have q25 : w1.cell? ⟨g, 25, none⟩ = some (.int .u64 s.r.ad) := (hh.restc 18).trans rfl
  have f25 := hh.free 25
  clear hh hk
  go_wp2_with fail
  go_region_law (first | (go_simp; go_at_call 39; refine (HI.out _).mono ?_; rintro e w2 ⟨rfl, hh, hk⟩; have n0 : g < w2.heap.size := hh.lt; have q25 : w2.cell? ⟨g, 25, none⟩ = some (.int .u64 s.r.ad) := (hh.restc 18).trans rfl; have f25 := hh.free 25; have HH := Aside0.mk (And.intro hh hk); clear hh hk))
  all_goals
    go_wp2_with fail
    rw [Exit.noGoto_ret]
    go_ret
    refine step_none H0.out.1 H0.out.2.1 H0.out.2.2.1 H0.out.2.2.2 ?_ HP.out (fun fv hfv => ?_) rfl rfl rfl
    · first | exact HH.out.2.set 25 _ | exact (HH.out.2.set 25 _).drewN _ | exact (HH.out.2.drewN _).set 25 _
    · subst hfv
      first | exact HH.out.1.st1 25 _ (rest_all c k _ _ _ rfl rfl) ⟨c.byte.1, c.byte.2.1⟩ (fun a h7 => by simp [Array.setIfInBounds_append_right, h7]) | exact (HH.out.1.drewN _).st1 25 _ (rest_all c k _ _ _ rfl rfl) ⟨c.byte.1, c.byte.2.1⟩ (fun a h7 => by simp [Array.setIfInBounds_append_right, h7])

end Go.Proofs.YtdepfipebogdcaaDoor.Line

/- A step of a line reader: a row is told. -/
namespace Go.Proofs.YtdepfipebogdcaaDoor.Line
set_option maxRecDepth 100000
open Go.RowKit Go.Proofs.YtdepfipebogdcaaDoorW.PrintWords Go.Proofs.YtdepfipebogdcaaDoorW.PrintLast Go.Proofs.YtdepfipebogdcaaDoorW.PrintMore Go.Proofs.YtdepfipebogdcaaDoor.Leb Go.Proofs.YtdepfipebogdcaaDoor.Buf Go.Proofs.YtdepfipebogdcaaDoor

/-- A scope out of which the run may jump once, forward to a label. -/
theorem wp_scope_fwd {P : Program} {a : Act} {w : World} {Q : Exit → Act → World → Prop} {c rest : Code} (l : Nat) (hf : findLabel c l = some rest)
    (first : c.wp P (Exit.jump l (fun a' w' => rest.wp P (Exit.noGoto Q) a' w') Q) a w) : (Code.scope c).wp P Q a w :=
  wp_scope_jumps l (fun a' w' => rest.wp P (Exit.noGoto Q) a' w') (fun _ _ => 0) hf first fun a' w' hJ => wp_mono hJ fun e a2 w2 h => by
    cases e with
    | goto l' => exact absurd h (by simp [Exit.noGoto])
    | _ => exact h

/-- A row was told: what the code leaves. -/
theorem told {w w1 : World} {g ge b cap : Nat} {c : RC} {k : K} {s s1 : St} {p : Nat} {x : Option Addr} {es : Array Value} (h : HasR w g c k s) (he : w.heap[ge]? = some (.cells es 92 (0, 0))) (hes : IsRow es) (hF : FilesAt w c.base b cap s.fs) (hP : PtrIs w c.base (.pointer x) s.r.fl) (hp : p ≤ k.eo)
    (hh : Has w1 g 94 (rest c k s1 (.slice (some ⟨b, 0, none⟩) s.n cap) (.pointer x)) c.bc ⟨(p : Int), k.at p, true⟩) (hk : Kp w w1 g) (e1 : s1.fs = s.fs) (e2 : s1.n = s.n) (e3 : s1.r.fl = s.r.fl) :
    StepPost w g ge c k es (some s1.r) (emit s1 p).2 (.returned (.bool true)) ((((((((((((((((w1.setCell ⟨ge, 0, none⟩ (.int .u64 s1.r.ad)).setCell ⟨ge, 1, none⟩ (.int .i64 s1.r.ix)).setCell ⟨ge, 2, none⟩ (.pointer x)).setCell ⟨ge, 3, none⟩ (.int .i64 s1.r.li)).setCell ⟨ge, 4, none⟩ (.int .i64 s1.r.co)).setCell ⟨ge, 5, none⟩ (.bool s1.r.st)).setCell ⟨ge, 6, none⟩ (.bool s1.r.bb)).setCell ⟨ge, 7, none⟩ (.bool s1.r.pe)).setCell ⟨ge, 8, none⟩ (.bool s1.r.eb)).setCell ⟨ge, 9, none⟩ (.int .i64 s1.r.isa)).setCell ⟨ge, 10, none⟩ (.int .i64 s1.r.di)).setCell ⟨ge, 11, none⟩ (.bool s1.r.es)).setCell ⟨g, 31, none⟩ (.bool false)).setCell ⟨g, 32, none⟩ (.bool false)).setCell ⟨g, 33, none⟩ (.bool false)).setCell ⟨g, 35, none⟩ (.int .i64 0)) := by
  obtain ⟨b0, cap0, fp0, hH0, _⟩ := h.at_
  obtain ⟨cs0, hg0⟩ := hH0.blk
  have hne : ge ≠ g := blk_ne he hg0 (by decide)
  have he1 := (hk.block ge (blk_lt he) hne).trans he
  obtain ⟨hr, hke⟩ := row_stored he1 hes.1 (.int .u64 s1.r.ad) (.int .i64 s1.r.ix) (.pointer x) (.int .i64 s1.r.li) (.int .i64 s1.r.co) (.bool s1.r.st) (.bool s1.r.bb) (.bool s1.r.pe) (.bool s1.r.eb) (.int .i64 s1.r.isa) (.int .i64 s1.r.di) (.bool s1.r.es)
  revert hr hke
  generalize ((((((((((((w1.setCell ⟨ge, 0, none⟩ (.int .u64 s1.r.ad)).setCell ⟨ge, 1, none⟩ (.int .i64 s1.r.ix)).setCell ⟨ge, 2, none⟩ (.pointer x)).setCell ⟨ge, 3, none⟩ (.int .i64 s1.r.li)).setCell ⟨ge, 4, none⟩ (.int .i64 s1.r.co)).setCell ⟨ge, 5, none⟩ (.bool s1.r.st)).setCell ⟨ge, 6, none⟩ (.bool s1.r.bb)).setCell ⟨ge, 7, none⟩ (.bool s1.r.pe)).setCell ⟨ge, 8, none⟩ (.bool s1.r.eb)).setCell ⟨ge, 9, none⟩ (.int .i64 s1.r.isa)).setCell ⟨ge, 10, none⟩ (.int .i64 s1.r.di)).setCell ⟨ge, 11, none⟩ (.bool s1.r.es)) = w2
  intro hr hke
  have h2 : Has w2 g 94 (rest c k s1 (.slice (some ⟨b, 0, none⟩) s.n cap) (.pointer x)) c.bc ⟨(p : Int), k.at p, true⟩ := hh.far ge (Ne.symm hne) hke.block (fun cs t f hc => by
    rw [he1] at hc
    injection hc with hc
    injection hc with hc
    subst hc
    exact hes.2)
  have h3 : Has ((((w2.setCell ⟨g, 31, none⟩ (.bool false)).setCell ⟨g, 32, none⟩ (.bool false)).setCell ⟨g, 33, none⟩ (.bool false)).setCell ⟨g, 35, none⟩ (.int .i64 0)) g 94 (rest c k (emit s1 p).2 (.slice (some ⟨b, 0, none⟩) s.n cap) (.pointer x)) c.bc ⟨(p : Int), k.at p, true⟩ :=
    h2.all (((((Kp.refl w2 g).set 31 _).set 32 _).set 33 _).set 35 _) (fun a ha h7 => by
      rw [blk_set (blk_set (blk_set (blk_set ha 31 _) 32 _) 33 _) 35 _]
      simp [Array.setIfInBounds_append_right, h7, emit]) (rest_all c k _ _ _ rfl rfl) ⟨c.byte.1, c.byte.2.1⟩
  have k3 : Kp w2 ((((w2.setCell ⟨g, 31, none⟩ (.bool false)).setCell ⟨g, 32, none⟩ (.bool false)).setCell ⟨g, 33, none⟩ (.bool false)).setCell ⟨g, 35, none⟩ (.int .i64 0)) g := ((((Kp.refl w2 g).set 31 _).set 32 _).set 33 _).set 35 _
  have k2 : K2 w ((((w2.setCell ⟨g, 31, none⟩ (.bool false)).setCell ⟨g, 32, none⟩ (.bool false)).setCell ⟨g, 33, none⟩ (.bool false)).setCell ⟨g, 35, none⟩ (.int .i64 0)) g ge :=
    (((K2.refl w g ge).kp hk).trans ⟨hke.os, hke.tape, hke.output, hke.size, fun i hi _ h2 => hke.block i hi h2⟩).kp k3
  refine ⟨rfl, h.turn he hF hP k2 hp (fun fv hfv => ?_) e1 e2 e3, ⟨.pointer x, ?_, ?_⟩, k2.kx⟩
  · subst hfv
    have : (emit s1 p).2.n = s.n := e2
    rw [this]
    exact h3
  · rw [e3]
    exact hP.keep fun b' cs _ hb => k2.block b' (blk_lt hb) (blk_ne hb hg0 (by decide)) (blk_ne hb he (by decide))
  · exact (k3.block ge (blk_lt hr) hne).trans hr

theorem step_1 {w : World} {g ge : Nat} {c : RC} {k : K} {s : St} {es : Array Value} {l : List Int} (h : HasR w g c k s) (he : w.heap[ge]? = some (.cells es 92 (0, 0))) (hl : k.at s.p = 1 :: l) (hp : s.p + 1 ≤ k.eo) (hes : IsRow es) (hob : 1 < k.ob) :
    Calls Tryd.prog 51 #[.pointer (some ⟨g, 0, none⟩), .pointer (some ⟨ge, 0, none⟩)] w fun e w' => StepPost w g ge c k es (some s.r) (emit s (s.p + 1)).2 e w' := by
  obtain ⟨b, cap, fp, hH, hF, hP⟩ := h.at_
  have hlt : s.p + 1 < 4294967296 := by have := h.eo; have := h.len; omega
  obtain ⟨x, rfl⟩ := hP.ptr
  have HV := Aside0.mk (uint8_has hH hl)
  have HA := Aside0.mk (adv_at (k := k) (p := s.p) (n := 1) (by omega))
  have H0 := Aside0.mk (And.intro h (And.intro he (And.intro hF hP)))
  have HP := Aside0.mk hp
  have c1 : decide (k.ob ≤ 1) = false := decide_eq_false (by omega)
  have HLT := Aside0.mk hlt
  have HES := Aside0.mk hes
  clear h he hF hP hl hlt hp hob hH hes
  go_enter Tryd.func51, Tryd.ntmps51
  go_wp2_with fail
  refine wp_scope_fwd 0 rfl ?_
  go_wp2_with fail
  refine HV.out.mono ?_
  rintro e w1 ⟨rfl, hh, hk⟩
  rw [HA.out] at hh
  have n0 : g < w1.heap.size := hh.lt
  have q18 : w1.cell? ⟨g, 18, none⟩ = some (.int .i64 k.ob) := (hh.restc 11).trans rfl
  have q25 : w1.cell? ⟨g, 25, none⟩ = some (.int .u64 s.r.ad) := (hh.restc 18).trans rfl
  have f25 := hh.free 25
  have q26 : w1.cell? ⟨g, 26, none⟩ = some (.int .i64 s.r.ix) := (hh.restc 19).trans rfl
  have f26 := hh.free 26
  have q27 : w1.cell? ⟨g, 27, none⟩ = some (.pointer x) := (hh.restc 20).trans rfl
  have f27 := hh.free 27
  have q28 : w1.cell? ⟨g, 28, none⟩ = some (.int .i64 s.r.li) := (hh.restc 21).trans rfl
  have f28 := hh.free 28
  have q29 : w1.cell? ⟨g, 29, none⟩ = some (.int .i64 s.r.co) := (hh.restc 22).trans rfl
  have f29 := hh.free 29
  have q30 : w1.cell? ⟨g, 30, none⟩ = some (.bool s.r.st) := (hh.restc 23).trans rfl
  have f30 := hh.free 30
  have q31 : w1.cell? ⟨g, 31, none⟩ = some (.bool s.r.bb) := (hh.restc 24).trans rfl
  have f31 := hh.free 31
  have q32 : w1.cell? ⟨g, 32, none⟩ = some (.bool s.r.pe) := (hh.restc 25).trans rfl
  have f32 := hh.free 32
  have q33 : w1.cell? ⟨g, 33, none⟩ = some (.bool s.r.eb) := (hh.restc 26).trans rfl
  have f33 := hh.free 33
  have q34 : w1.cell? ⟨g, 34, none⟩ = some (.int .i64 s.r.isa) := (hh.restc 27).trans rfl
  have f34 := hh.free 34
  have q35 : w1.cell? ⟨g, 35, none⟩ = some (.int .i64 s.r.di) := (hh.restc 28).trans rfl
  have f35 := hh.free 35
  have q36 : w1.cell? ⟨g, 36, none⟩ = some (.bool s.r.es) := (hh.restc 29).trans rfl
  have f36 := hh.free 36
  obtain ⟨b0, cap0, fp0, hH0, _⟩ := H0.out.1.at_
  obtain ⟨cs0, hg0⟩ := hH0.blk
  have hne : ge ≠ g := blk_ne H0.out.2.1 hg0 (by decide)
  have hge := (hk.block ge (blk_lt H0.out.2.1) hne).trans H0.out.2.1
  have n1 : ge < w1.heap.size := blk_lt hge
  have HH := Aside0.mk (And.intro hh (And.intro hk (And.intro hge hne)))
  have cell : ∀ i, i < 12 → ∃ v, w1.cell? ⟨ge, i, none⟩ = some v := fun i hi => ⟨_, (blk_cell hge i).trans (Array.getElem?_eq_getElem (by have := HES.out.1; omega))⟩
  obtain ⟨v0, p0⟩ := cell 0 (by decide)
  have g0 := blk_frozen hge 0
  obtain ⟨v1, p1⟩ := cell 1 (by decide)
  have g1 := blk_frozen hge 1
  obtain ⟨v2, p2⟩ := cell 2 (by decide)
  have g2 := blk_frozen hge 2
  obtain ⟨v3, p3⟩ := cell 3 (by decide)
  have g3 := blk_frozen hge 3
  obtain ⟨v4, p4⟩ := cell 4 (by decide)
  have g4 := blk_frozen hge 4
  obtain ⟨v5, p5⟩ := cell 5 (by decide)
  have g5 := blk_frozen hge 5
  obtain ⟨v6, p6⟩ := cell 6 (by decide)
  have g6 := blk_frozen hge 6
  obtain ⟨v7, p7⟩ := cell 7 (by decide)
  have g7 := blk_frozen hge 7
  obtain ⟨v8, p8⟩ := cell 8 (by decide)
  have g8 := blk_frozen hge 8
  obtain ⟨v9, p9⟩ := cell 9 (by decide)
  have g9 := blk_frozen hge 9
  obtain ⟨v10, p10⟩ := cell 10 (by decide)
  have g10 := blk_frozen hge 10
  obtain ⟨v11, p11⟩ := cell 11 (by decide)
  have g11 := blk_frozen hge 11
  clear hh hk hge cell hH0 hg0
  go_wp2_with fail
  go_step3
  refine ⟨rfl, ?_⟩
  go_wp2_with fail
  rw [Exit.noGoto_ret]
  go_ret
  exact told H0.out.1 H0.out.2.1 HES.out H0.out.2.2.1 H0.out.2.2.2 HP.out HH.out.1 HH.out.2.1 rfl rfl rfl

end Go.Proofs.YtdepfipebogdcaaDoor.Line

/- A step of a line reader: special opcodes. -/
namespace Go.Proofs.YtdepfipebogdcaaDoor.Line
set_option maxRecDepth 100000
open Go.RowKit Go.Proofs.YtdepfipebogdcaaDoorW.PrintWords Go.Proofs.YtdepfipebogdcaaDoorW.PrintLast Go.Proofs.YtdepfipebogdcaaDoorW.PrintMore Go.Proofs.YtdepfipebogdcaaDoor.Leb Go.Proofs.YtdepfipebogdcaaDoor.Buf Go.Proofs.YtdepfipebogdcaaDoor

set_option maxHeartbeats 1000000 in
theorem step_special {w : World} {g ge : Nat} {c : RC} {k : K} {s : St} {es : Array Value} {op : Int} {l : List Int} (h : HasR w g c k s) (he : w.heap[ge]? = some (.cells es 92 (0, 0))) (hl : k.at s.p = op :: l) (hp : s.p + 1 ≤ k.eo) (hes : IsRow es) (hob : k.ob ≤ op) (hk : KOk k) (hf : fit s.r ((op - k.ob) / k.lr) = true) (hfl : fitL s.r.li 0 = true) :
    Calls Tryd.prog 51 #[.pointer (some ⟨g, 0, none⟩), .pointer (some ⟨ge, 0, none⟩)] w fun e w' => StepPost w g ge c k es (some { k.adv s.r ((op - k.ob) / k.lr) with li := s.r.li + (k.lb + (op - k.ob) % k.lr) }) (emit { s with r := { k.adv s.r ((op - k.ob) / k.lr) with li := s.r.li + (k.lb + (op - k.ob) % k.lr) } } (s.p + 1)).2 e w' := by
  obtain ⟨b, cap, fp, hH, hF, hP⟩ := h.at_
  have hlt : s.p + 1 < 4294967296 := by have := h.eo; have := h.len; omega
  obtain ⟨x, rfl⟩ := hP.ptr
  have HV := Aside0.mk (uint8_has hH hl)
  have HA := Aside0.mk (adv_at (k := k) (p := s.p) (n := 1) (by omega))
  have H0 := Aside0.mk (And.intro h (And.intro he (And.intro hF hP)))
  have HP := Aside0.mk hp
  have c1 : decide (k.ob ≤ op) = true := decide_eq_true hob
  have HLT := Aside0.mk hlt
  have hB : 0 ≤ op ∧ op < 256 := hH.byte op (by rw [hl]; simp)
  have FT := Aside0.mk (fit_some hf)
  have KO := Aside0.mk hk
  have HES := Aside0.mk hes
  simp only [fitL, Bool.and_eq_true, decide_eq_true_eq] at hfl
  obtain ⟨D, hD⟩ : ∃ D : Int, op - k.ob = D := ⟨_, rfl⟩
  have hD0 : 0 ≤ D := by omega
  have hD1 : D < 256 := by have := hk.ob0; omega
  obtain ⟨V, hV⟩ : ∃ V : Int, D / k.lr = V := ⟨_, rfl⟩
  obtain ⟨M, hM⟩ : ∃ M : Int, D % k.lr = M := ⟨_, rfl⟩
  have hM0 : 0 ≤ M := by rw [← hM]; exact Int.emod_nonneg _ (by have := hk.lr0; omega)
  have hM1 : M < 256 := by have := Int.emod_lt_of_pos D (show 0 < k.lr by have := hk.lr0; omega); have := hk.lr1; omega
  obtain ⟨E, hE⟩ : ∃ E : Int, k.lb + M = E := ⟨_, rfl⟩
  obtain ⟨L, hL⟩ : ∃ L : Int, s.r.li + E = L := ⟨_, rfl⟩
  have hwD : wrap64 (op - k.ob) = D := by rw [← hD]; unfold wrap64; omega
  have hwD2 : IntKind.i64.wrap (op - k.ob) = D := by rw [← hD, IntKind.wrap_i64]; omega
  have hq : D.tdiv k.lr = V := by rw [Int.tdiv_eq_ediv_of_nonneg hD0]; exact hV
  have hr : D.tmod k.lr = M := by rw [Int.tmod_eq_emod_of_nonneg hD0]; exact hM
  have hV0 : 0 ≤ V := by rw [← hV]; exact Int.ediv_nonneg hD0 (by have := hk.lr0; omega)
  have hV1 : V < 256 := by have := Int.ediv_le_self k.lr hD0; omega
  have hwV : wrap64 V = V := by unfold wrap64; omega
  have hwM : wrap64 M = M := by unfold wrap64; omega
  have hwE : wrap64 (k.lb + M) = E := by rw [← hE]; unfold wrap64; have := hk.lb0; have := hk.lb1; omega
  have hwE2 : IntKind.i64.wrap (k.lb + M) = E := by rw [← hE, IntKind.wrap_i64]; have := hk.lb0; have := hk.lb1; omega
  have hwL : wrap64 (s.r.li + E) = L := by rw [← hL]; unfold wrap64; have := hk.lb0; have := hk.lb1; omega
  have hwL2 : IntKind.i64.wrap (s.r.li + E) = L := by rw [← hL, IntKind.wrap_i64]; have := hk.lb0; have := hk.lb1; omega
  have hwo : wrap64 op = op := by unfold wrap64; omega
  have z1 : (k.lr == 0) = false := by have := hk.lr0; simp; omega
  have z2 : (k.lr = 0) = False := eq_false (by have := hk.lr0; omega)
  have HVV : Aside0 ((op - k.ob) / k.lr = V ∧ (op - k.ob) % k.lr = M ∧ k.lb + M = E ∧ s.r.li + E = L) := ⟨by rw [hD, hV], by rw [hD, hM], hE, hL⟩
  rw [HVV.out.1] at FT
  rw [HVV.out.1, HVV.out.2.1, HVV.out.2.2.1, HVV.out.2.2.2]
  clear h he hF hP hl hlt hp hob hH hf hk hD hV hD0 hD1 hV0 hV1 hM hM0 hM1 hE hL hB hes hfl HVV
  go_enter Tryd.func51, Tryd.ntmps51
  go_wp2_with fail
  refine wp_scope_fwd 0 rfl ?_
  go_wp2_with fail
  refine HV.out.mono ?_
  rintro e w1 ⟨rfl, hh, hk⟩
  rw [HA.out] at hh
  have n0 : g < w1.heap.size := hh.lt
  have q18 : w1.cell? ⟨g, 18, none⟩ = some (.int .i64 k.ob) := (hh.restc 11).trans rfl
  have q17 : w1.cell? ⟨g, 17, none⟩ = some (.int .i64 k.lr) := (hh.restc 10).trans rfl
  have ADV := Aside0.mk (advance_calls g s.r.ad s.r.ix k.mi k.mo V w1 FT.out.1 FT.out.2.1 FT.out.2.2.1 FT.out.2.2.2.1 FT.out.2.2.2.2.1 FT.out.2.2.2.2.2 KO.out.mi0 KO.out.mi1 KO.out.mo0 KO.out.mo1 ((hh.restc 18).trans rfl) ((hh.restc 19).trans rfl) ((hh.restc 6).trans rfl) ((hh.restc 7).trans rfl) (hh.free 25) (hh.free 26))
  have HH := Aside0.mk (And.intro hh hk)
  clear hh hk
  go_wp2_with fail
  try rw [hwV]
  refine ADV.out.mono ?_
  rintro e w2 ⟨rfl, j, rfl⟩
  clear ADV FT q18 q17 n0
  have a1 : Has (w1.setCell ⟨g, 25, none⟩ (.int .u64 (s.r.ad + k.mi * ((s.r.ix + V) / k.mo)))) g 94 (rest c k { s with r := { s.r with ad := s.r.ad + k.mi * ((s.r.ix + V) / k.mo) } } (.slice (some ⟨b, 0, none⟩) s.n cap) (.pointer x)) c.bc ⟨((s.p + 1 : Nat) : Int), k.at (s.p + 1), true⟩ := HH.out.1.st1 25 _ (rest_all c k _ _ _ rfl rfl) ⟨c.byte.1, c.byte.2.1⟩ (fun a h7 => by simp [Array.setIfInBounds_append_right, h7])
  have a2 := a1.st1 26 (.int .i64 ((s.r.ix + V) % k.mo)) (rest' := rest c k { s with r := k.adv s.r V } (.slice (some ⟨b, 0, none⟩) s.n cap) (.pointer x)) (rest_all c k _ _ _ rfl rfl) ⟨c.byte.1, c.byte.2.1⟩ (fun a h7 => by simp [Array.setIfInBounds_append_right, h7, K.adv])
  have a3 := a2.drewN j
  have k3 := ((HH.out.2.set 25 (.int .u64 (s.r.ad + k.mi * ((s.r.ix + V) / k.mo)))).set 26 (.int .i64 ((s.r.ix + V) % k.mo))).drewN j
  revert a3 k3
  generalize ((w1.setCell ⟨g, 25, none⟩ (.int .u64 (s.r.ad + k.mi * ((s.r.ix + V) / k.mo)))).setCell ⟨g, 26, none⟩ (.int .i64 ((s.r.ix + V) % k.mo))).drewN j = w3
  intro a3 k3
  have n0 : g < w3.heap.size := a3.lt
  have q16 : w3.cell? ⟨g, 16, none⟩ = some (.int .i64 k.lb) := (a3.restc 9).trans rfl
  have q17 : w3.cell? ⟨g, 17, none⟩ = some (.int .i64 k.lr) := (a3.restc 10).trans rfl
  have q28 : w3.cell? ⟨g, 28, none⟩ = some (.int .i64 s.r.li) := (a3.restc 21).trans rfl
  have f28 := a3.free 28
  have HH3 := Aside0.mk (And.intro a3 k3)
  clear a1 a2 a3 k3 HH
  go_wp2_with fail
  go_quiet (fail)
  go_wp2_with fail
  have h4 : Has ((w3.drewN nq).setCell ⟨g, 28, none⟩ (.int .i64 L)) g 94 (rest c k { s with r := { k.adv s.r V with li := L } } (.slice (some ⟨b, 0, none⟩) s.n cap) (.pointer x)) c.bc ⟨((s.p + 1 : Nat) : Int), k.at (s.p + 1), true⟩ :=
    (HH3.out.1.drewN nq).st1 28 _ (rest_all c k _ _ _ rfl rfl) ⟨c.byte.1, c.byte.2.1⟩ (fun a h7 => by simp [Array.setIfInBounds_append_right, h7])
  have k4 := (HH3.out.2.drewN nq).set 28 (.int .i64 L)
  revert h4 k4
  generalize (w3.drewN nq).setCell ⟨g, 28, none⟩ (.int .i64 L) = w4
  intro h4 k4
  have n0 : g < w4.heap.size := h4.lt
  have q25 : w4.cell? ⟨g, 25, none⟩ = some (.int .u64 (s.r.ad + k.mi * ((s.r.ix + V) / k.mo))) := (h4.restc 18).trans rfl
  have f25 := h4.free 25
  have q26 : w4.cell? ⟨g, 26, none⟩ = some (.int .i64 ((s.r.ix + V) % k.mo)) := (h4.restc 19).trans rfl
  have f26 := h4.free 26
  have q27 : w4.cell? ⟨g, 27, none⟩ = some (.pointer x) := (h4.restc 20).trans rfl
  have f27 := h4.free 27
  have q28 : w4.cell? ⟨g, 28, none⟩ = some (.int .i64 L) := (h4.restc 21).trans rfl
  have f28 := h4.free 28
  have q29 : w4.cell? ⟨g, 29, none⟩ = some (.int .i64 s.r.co) := (h4.restc 22).trans rfl
  have f29 := h4.free 29
  have q30 : w4.cell? ⟨g, 30, none⟩ = some (.bool s.r.st) := (h4.restc 23).trans rfl
  have f30 := h4.free 30
  have q31 : w4.cell? ⟨g, 31, none⟩ = some (.bool s.r.bb) := (h4.restc 24).trans rfl
  have f31 := h4.free 31
  have q32 : w4.cell? ⟨g, 32, none⟩ = some (.bool s.r.pe) := (h4.restc 25).trans rfl
  have f32 := h4.free 32
  have q33 : w4.cell? ⟨g, 33, none⟩ = some (.bool s.r.eb) := (h4.restc 26).trans rfl
  have f33 := h4.free 33
  have q34 : w4.cell? ⟨g, 34, none⟩ = some (.int .i64 s.r.isa) := (h4.restc 27).trans rfl
  have f34 := h4.free 34
  have q35 : w4.cell? ⟨g, 35, none⟩ = some (.int .i64 s.r.di) := (h4.restc 28).trans rfl
  have f35 := h4.free 35
  have q36 : w4.cell? ⟨g, 36, none⟩ = some (.bool s.r.es) := (h4.restc 29).trans rfl
  have f36 := h4.free 36
  obtain ⟨b0, cap0, fp0, hH0, _⟩ := H0.out.1.at_
  obtain ⟨cs0, hg0⟩ := hH0.blk
  have hne : ge ≠ g := blk_ne H0.out.2.1 hg0 (by decide)
  have hge := (k4.block ge (blk_lt H0.out.2.1) hne).trans H0.out.2.1
  have n1 : ge < w4.heap.size := blk_lt hge
  have HH4 := Aside0.mk (And.intro h4 k4)
  have cell : ∀ i, i < 12 → ∃ v, w4.cell? ⟨ge, i, none⟩ = some v := fun i hi => ⟨_, (blk_cell hge i).trans (Array.getElem?_eq_getElem (by have := HES.out.1; omega))⟩
  obtain ⟨v0, p0⟩ := cell 0 (by decide)
  have g0 := blk_frozen hge 0
  obtain ⟨v1, p1⟩ := cell 1 (by decide)
  have g1 := blk_frozen hge 1
  obtain ⟨v2, p2⟩ := cell 2 (by decide)
  have g2 := blk_frozen hge 2
  obtain ⟨v3, p3⟩ := cell 3 (by decide)
  have g3 := blk_frozen hge 3
  obtain ⟨v4, p4⟩ := cell 4 (by decide)
  have g4 := blk_frozen hge 4
  obtain ⟨v5, p5⟩ := cell 5 (by decide)
  have g5 := blk_frozen hge 5
  obtain ⟨v6, p6⟩ := cell 6 (by decide)
  have g6 := blk_frozen hge 6
  obtain ⟨v7, p7⟩ := cell 7 (by decide)
  have g7 := blk_frozen hge 7
  obtain ⟨v8, p8⟩ := cell 8 (by decide)
  have g8 := blk_frozen hge 8
  obtain ⟨v9, p9⟩ := cell 9 (by decide)
  have g9 := blk_frozen hge 9
  obtain ⟨v10, p10⟩ := cell 10 (by decide)
  have g10 := blk_frozen hge 10
  obtain ⟨v11, p11⟩ := cell 11 (by decide)
  have g11 := blk_frozen hge 11
  clear h4 k4 hge cell hH0 hg0
  go_step3
  refine ⟨rfl, ?_⟩
  go_wp2_with fail
  rw [Exit.noGoto_ret]
  go_ret
  exact told (s1 := { s with r := { k.adv s.r V with li := L } }) H0.out.1 H0.out.2.1 HES.out H0.out.2.2.1 H0.out.2.2.2 HP.out HH4.out.1 HH4.out.2 rfl rfl rfl

end Go.Proofs.YtdepfipebogdcaaDoor.Line

/- A step of a line reader: standard opcodes that are not known are passed over. -/
namespace Go.Proofs.YtdepfipebogdcaaDoor.Line
set_option maxRecDepth 100000
open Go.RowKit Go.Proofs.YtdepfipebogdcaaDoorW.PrintWords Go.Proofs.YtdepfipebogdcaaDoorW.PrintLast Go.Proofs.YtdepfipebogdcaaDoorW.PrintMore Go.Proofs.YtdepfipebogdcaaDoor.Leb Go.Proofs.YtdepfipebogdcaaDoor.Buf

theorem skip_le {k : K} : ∀ (m p q : Nat), k.skip m p = some q → p ≤ q
  | 0, p, q, h => by simp [K.skip] at h; omega
  | m + 1, p, q, h => by
    unfold K.skip at h
    cases hu : uread (k.at p) with
    | none => rw [hu] at h; cases h
    | some vn =>
      rw [hu] at h
      have := skip_le m _ q h
      omega

set_option maxHeartbeats 1000000 in
theorem step_skip {w : World} {g ge : Nat} {c : RC} {k : K} {s : St} {es : Array Value} {op : Int} {q : Nat} {l : List Int} (h : HasR w g c k s) (he : w.heap[ge]? = some (.cells es 92 (0, 0))) (hl : k.at s.p = op :: l) (hop : 13 ≤ op) (hob : op < k.ob) (hk : KOk k)
    (hs : k.skip (k.ol.getD op.toNat 0).toNat (s.p + 1) = some q) (hnb : k.ol.getD op.toNat 0 < 9223372036854775807) (hq : q ≤ k.eo) :
    Calls Tryd.prog 51 #[.pointer (some ⟨g, 0, none⟩), .pointer (some ⟨ge, 0, none⟩)] w fun e w' => StepPost w g ge c k es none { s with p := q } e w' := by
  obtain ⟨b, cap, fp, hH, hF, hP⟩ := h.at_
  have hq0 : q < 4294967296 := by have := h.eo; have := h.len; omega
  have hsq := skip_le _ _ _ hs
  obtain ⟨x, rfl⟩ := hP.ptr
  have HV := Aside0.mk (uint8_has hH hl)
  have HA := Aside0.mk (adv_at (k := k) (p := s.p) (n := 1) (by omega))
  have H0 := Aside0.mk (And.intro h (And.intro he (And.intro hF hP)))
  have HQ := Aside0.mk hq
  have HQ0 := Aside0.mk hq0
  obtain ⟨O, rfl⟩ := Int.eq_ofNat_of_zero_le (show 0 ≤ op by omega)
  have c1 : decide (k.ob ≤ (O : Int)) = false := decide_eq_false (by omega)
  have hO : O < k.ol.length := by have := hk.ol; omega
  have hO1 : (O : Int) < 256 := by have := hk.ob1; omega
  obtain ⟨A, oc, e1, e2, hC, hA⟩ := h.ol
  obtain ⟨ad, rfl, hx⟩ := Kd.at_int hC (O : Int) (by omega) (by omega)
  obtain ⟨n, hn⟩ : ∃ n, rd k.ol ((O : Nat) : Int) = n := ⟨_, rfl⟩
  rw [hn, Int.toNat_natCast] at hx
  have hnb : n < 9223372036854775807 := by rw [← hn]; exact hnb
  have hs' : k.skip n.toNat (s.p + 1) = some q := by rw [← hn]; exact hs
  have HN := Aside0.mk (And.intro hs' hx)
  have HOL := Aside0.mk (And.intro e1 (And.intro e2 (hA ad rfl)))
  obtain ⟨N, hN⟩ : ∃ N, k.ol.length = N := ⟨_, rfl⟩
  rw [hN] at hO
  have hO2 : ((O : Int) < (N : Int)) = True := eq_true (by omega)
  have hO3 : (0 ≤ (O : Int)) = True := eq_true (by omega)
  have z0 : ((O : Int) == 0) = false := by simp; omega
  have z1 : ((O : Int) == 1) = false := by simp; omega
  have z2 : ((O : Int) == 2) = false := by simp; omega
  have z3 : ((O : Int) == 3) = false := by simp; omega
  have z4 : ((O : Int) == 4) = false := by simp; omega
  have z5 : ((O : Int) == 5) = false := by simp; omega
  have z6 : ((O : Int) == 6) = false := by simp; omega
  have z7 : ((O : Int) == 7) = false := by simp; omega
  have z8 : ((O : Int) == 8) = false := by simp; omega
  have z9 : ((O : Int) == 9) = false := by simp; omega
  have z10 : ((O : Int) == 10) = false := by simp; omega
  have z11 : ((O : Int) == 11) = false := by simp; omega
  have z12 : ((O : Int) == 12) = false := by simp; omega
  have hw : wrap64 (O : Int) = (O : Int) := by unfold wrap64; omega
  have HNN := Aside0.mk hN
  have HN1 : Aside0 (n < 9223372036854775807) := ⟨hnb⟩
  obtain ⟨b0, cap0, fp0, hH0, _⟩ := h.at_
  have HG := Aside0.mk hH0.blk
  clear h he hF hP hl hq0 hq hob hH hk hs hs' hsq e1 e2 hC hA hx hn hop hO1 hN hH0 hnb
  go_enter Tryd.func51, Tryd.ntmps51
  go_wp2_with fail
  go_step3
  go_wp2_with fail
  refine HV.out.mono ?_
  rintro e w1 ⟨rfl, hh, hk⟩
  rw [HA.out] at hh
  have n0 : g < w1.heap.size := hh.lt
  have q18 : w1.cell? ⟨g, 18, none⟩ = some (.int .i64 k.ob) := (hh.restc 11).trans rfl
  have HH := Aside0.mk (And.intro hh hk)
  clear hh hk
  go_wp2_with fail
  simp only [hw]
  go_loopg [13] n.toNat (fun kq v13 w' => ∃ (i p : Nat), v13 = .int .i64 (i : Int) ∧ i ≤ n.toNat ∧ kq = n.toNat - i ∧ Aside0 (k.skip (n.toNat - i) p = some q) ∧ Aside0 (Has w' g 94 (rest c k s (.slice (some ⟨b, 0, none⟩) s.n cap) (.pointer x)) c.bc ⟨(p : Int), k.at p, true⟩ ∧ Kp w w' g))
  case atStart => exact ⟨0, s.p + 1, rfl, by omega, by omega, ⟨HN.out.1⟩, HH⟩
  case round =>
    obtain ⟨i, p, rfl, hi, hkq, hsk, HW⟩ := hrel
    clear HH q18 n0
    have n0 : g < wr.heap.size := HW.out.1.lt
    have q19 : wr.cell? ⟨g, 19, none⟩ = some (.slice (some ad) N oc) := by rw [(HW.out.1.restc 12), ← HNN.out, ← HOL.out.1]; rfl
    have qx : wr.cell? (ad.add O) = some (.int .i64 n) := by
      obtain ⟨cs, y, hb⟩ := HOL.out.2.2
      obtain ⟨cs0, hg0⟩ := HG.out
      have hne : ad.block ≠ g := by
        intro e
        rw [e, hg0] at hb
        injection hb with hb
        injection hb with _ hb
        exact absurd hb (by decide)
      have h1 := HN.out.2
      unfold World.cell? at h1 ⊢
      rw [add_block] at h1 ⊢
      rw [HW.out.2.block _ (blk_lt hb) hne]
      exact h1
    have f1 : IntKind.i64.wrap ((i : Int) + 1) = ((i + 1 : Nat) : Int) := by
      have := HN1.out
      rw [IntKind.wrap_i64]
      omega
    by_cases hc : i < n.toNat
    · have c0 : decide ((i : Int) < n) = true := decide_eq_true (by omega)
      obtain ⟨d, hd⟩ : ∃ d, n.toNat - i = d + 1 := ⟨n.toNat - i - 1, by omega⟩
      have hsk2 := hsk.out
      rw [hd] at hsk2
      unfold K.skip at hsk2
      cases hu : uread (k.at p) with
      | none => rw [hu] at hsk2; cases hsk2
      | some vn =>
        obtain ⟨v, m⟩ := vn
        rw [hu] at hsk2
        simp only [Option.bind_some] at hsk2
        have hle := skip_le _ _ _ hsk2
        have HU1 := Aside0.mk (uint_any HW.out.1 hu)
        have HP : Aside0 (p + m < 4294967296) := ⟨by have := HQ0.out; omega⟩
        have HS2 : Aside0 (k.skip (n.toNat - (i + 1)) (p + m) = some q) := ⟨by rw [show n.toNat - (i + 1) = d by omega]; exact hsk2⟩
        have HC := Aside0.mk hc
        have HI := Aside0.mk hkq
        clear hsk2 hle hu hd hc hsk hkq hi
        go_wp2_with fail
        refine HU1.out.mono ?_
        rintro e w2 ⟨⟨y, rfl⟩, hh, hk⟩
        rw [adv_at (k := k) HP.out] at hh
        have HH2 := Aside0.mk (And.intro hh (HW.out.2.trans hk))
        clear hh hk
        go_wp2_with fail
        go_roundg (n.toNat - (i + 1))
        case measure => have := HC.out; have := HI.out; omega
        case rel => exact ⟨i + 1, p + m, by first | rfl | rw [← f1] | (simp only [i64_w] at f1; rw [← f1]), by have := HC.out; omega, rfl, HS2, HH2⟩
    · have c0 : decide ((i : Int) < n) = false := decide_eq_false (by omega)
      have hz : n.toNat - i = 0 := by omega
      have hsk2 := hsk.out
      rw [hz] at hsk2
      unfold K.skip at hsk2
      have hpq : p = q := Option.some.inj hsk2
      subst hpq
      clear hsk2 hz hc hsk hkq hi
      go_wp2_with fail
      rw [Exit.noGoto_ret]
      go_ret
      refine step_none H0.out.1 H0.out.2.1 H0.out.2.2.1 H0.out.2.2.2 HW.out.2 HQ.out (fun fv hfv => ?_) rfl rfl rfl
      subst hfv
      exact HW.out.1


end Go.Proofs.YtdepfipebogdcaaDoor.Line

/- A step of a line reader: extended opcodes. -/
namespace Go.Proofs.YtdepfipebogdcaaDoor.Line
set_option maxRecDepth 100000
open Go.RowKit Go.Proofs.YtdepfipebogdcaaDoorW.PrintWords Go.Proofs.YtdepfipebogdcaaDoorW.PrintLast Go.Proofs.YtdepfipebogdcaaDoorW.PrintMore Go.Proofs.YtdepfipebogdcaaDoor.Leb Go.Proofs.YtdepfipebogdcaaDoor.Buf Go.Proofs.YtdepfipebogdcaaDoor

theorem nat_i64 (z : Nat) (h : z < 9223372036854775808) : wrap64 (z : Int) = (z : Int) := by unfold wrap64; omega
theorem nat_i64' (z : Nat) (h : z < 9223372036854775808) : IntKind.i64.wrap (z : Int) = (z : Int) := by rw [IntKind.wrap_i64]; omega
theorem nat_u32 (z : Nat) (h : z < 4294967296) : IntKind.u32.wrap (z : Int) = (z : Int) := by simp [IntKind.wrap, IntKind.signed, IntKind.bits]; omega
theorem add_u32 (p v q : Nat) (e : p + v = q) (h : q < 4294967296) : IntKind.u32.wrap ((p : Int) + (v : Int)) = (q : Int) := by subst e; simp [IntKind.wrap, IntKind.signed, IntKind.bits]; omega
theorem sub_u32 (c d q : Nat) (e : c + d = q) (h : q < 4294967296) : IntKind.u32.wrap ((q : Int) - ((c : Nat) : Int)) = (d : Int) := by subst e; simp [IntKind.wrap, IntKind.signed, IntKind.bits]; omega

theorem u64_small (z : Int) (h0 : 0 ≤ z) (h : z < 4294967296) : IntKind.u64.wrap z = z := by simp [IntKind.wrap, IntKind.signed, IntKind.bits]; omega
theorem at_length {k : K} (p : Nat) (h : k.eo ≤ k.sec.length) : (k.at p).length = k.eo - p := by
  unfold K.at
  rw [List.length_drop, List.length_take, Nat.min_eq_left h]

set_option maxHeartbeats 400000 in
theorem ext_other {w : World} {g ge : Nat} {c : RC} {k : K} {s : St} {es : Array Value} {l l2 : List Int} {v n : Nat} {x : Int} (h : HasR w g c k s) (he : w.heap[ge]? = some (.cells es 92 (0, 0))) (hes : IsRow es) (hl : k.at s.p = 0 :: l) (hob : 0 < k.ob) (hu : uread (k.at (s.p + 1)) = some (v, n)) (hx : k.at (s.p + 1 + n) = x :: l2) (hv : 1 ≤ v) (hq : s.p + 1 + n + v ≤ k.eo) (hx1 : (x == 1) = false) (hx2 : (x == 2) = false) (hx3 : (x == 3) = false) (hx4 : (x == 4) = false) :
    Calls Tryd.prog 51 #[.pointer (some ⟨g, 0, none⟩), .pointer (some ⟨ge, 0, none⟩)] w fun e w' => StepPost w g ge c k es (none) ({ s with p := s.p + 1 + n + v }) e w' := by
  obtain ⟨b, cap, fp, hH, hF, hP⟩ := h.at_
  have hq0 : s.p + 1 + n + v < 2147483648 := by have := h.eo; have := h.len; omega
  obtain ⟨y, rfl⟩ := hP.ptr
  have HV := Aside0.mk (uint8_has hH hl)
  have HA := Aside0.mk (adv_at (k := k) (p := s.p) (n := 1) (by omega))
  have H0 := Aside0.mk (And.intro h (And.intro he (And.intro hF hP)))
  have HES := Aside0.mk hes
  have HQ := Aside0.mk hq
  have HQ0 := Aside0.mk hq0
  have HU := Aside0.mk hu
  have HX := Aside0.mk hx
  have HVV := Aside0.mk hv
  have c1 : decide (k.ob ≤ 0) = false := decide_eq_false (by omega)
  obtain ⟨p1, hp1⟩ : ∃ p1, s.p + 1 + n = p1 := ⟨_, rfl⟩
  obtain ⟨q, hqq⟩ : ∃ q, p1 + v = q := ⟨_, rfl⟩
  have HE := Aside0.mk (And.intro hp1 hqq)
  have w1_ := nat_u32 v (by omega)
  have w2_ := add_u32 p1 v q hqq (by omega)
  rw [hp1, hqq]
  clear h he hF hP hl hq hob hH hu hx hv hq0 hp1 hqq hes
  go_enter Tryd.func51, Tryd.ntmps51
  go_wp2_with fail
  go_step3
  go_wp2_with fail
  refine HV.out.mono ?_
  rintro e w1 ⟨rfl, hh, hk⟩
  rw [HA.out] at hh
  have n0 : g < w1.heap.size := hh.lt
  have q18 : w1.cell? ⟨g, 18, none⟩ = some (.int .i64 k.ob) := (hh.restc 11).trans rfl
  have HU1 := Aside0.mk (uint_ok hh (v := v) (n := n) HU.out (by clear w1_ w2_; have := HQ0.out; omega))
  have HK := Aside0.mk hk
  clear hh hk HV HA HU
  go_wp2_with fail
  refine HU1.out.mono ?_
  rintro e w2 ⟨rfl, hh, hk⟩
  rw [adv_at (k := k) (p := s.p + 1) (n := n) (by clear w1_ w2_; have := HQ0.out; omega), HE.out.1] at hh
  have n0 : g < w2.heap.size := hh.lt
  have q4 : w2.cell? ⟨g, 4, none⟩ = some (.int .u32 (p1 : Int)) := by
    obtain ⟨_, _, _, _, _, q4, _⟩ := hh.parts
    exact q4
  have HX1 := Aside0.mk (uint8_has hh (b := x) (r := l2) (by have := HX.out; rw [HE.out.1] at this; exact this))
  have HK2 := Aside0.mk (HK.out.trans hk)
  clear hh hk HK HU1 q18
  go_wp2_with fail
  refine HX1.out.mono ?_
  rintro e w3 ⟨rfl, hh, hk⟩
  rw [adv_at (k := k) (p := p1) (n := 1) (by clear w1_ w2_; have := HQ0.out; have := HE.out.1; omega)] at hh
  have n0 : g < w3.heap.size := hh.lt
  have hk := HK2.out.trans hk
  clear HX1 HK2 q4
  have hle_ : p1 + 1 ≤ q := by clear w1_ w2_; have := HE.out.1; have := HE.out.2; have := HVV.out; omega
  obtain ⟨d, hd⟩ : ∃ d, p1 + 1 + d = q := ⟨q - (p1 + 1), by clear w1_ w2_; omega⟩
  have hdl : d ≤ (k.at (p1 + 1)).length := by rw [at_length _ H0.out.1.eo]; clear w1_ w2_; have := HE.out.1; have := HE.out.2; have := HQ.out; omega
  have w3_ := sub_u32 (p1 + 1) d q hd (by have := HE.out.1; have := HE.out.2; have := HQ0.out; clear w1_ w2_; omega)
  have w4_ := nat_i64 d (by have := HE.out.1; have := HE.out.2; have := HQ0.out; clear w1_ w2_ w3_; omega)
  have w5_ := nat_i64' d (by have := HE.out.1; have := HE.out.2; have := HQ0.out; clear w1_ w2_ w3_ w4_; omega)
  have HD := Aside0.mk (And.intro hd hdl)
  obtain ⟨C, hC⟩ : ∃ C : Int, ((p1 + 1 : Nat) : Int) = C := ⟨_, rfl⟩
  rw [hC] at w3_
  have q4 : w3.cell? ⟨g, 4, none⟩ = some (.int .u32 C) := by
    rw [← hC]
    obtain ⟨_, _, _, _, _, q4, _⟩ := hh.parts
    exact q4
  have HH : Aside0 (Has w3.drew g 94 (rest c k (s) (.slice (some ⟨b, 0, none⟩) s.n cap) (.pointer y)) c.bc ⟨((p1 + 1 : Nat) : Int), k.at (p1 + 1), true⟩ ∧ Kp w w3.drew g) := ⟨hh.drewN 1, hk.drewN 1⟩
  clear hh hk hle_ hd hdl hC
  go_wp2_with fail
  refine Fast.wp_tail 13 (by kernel_rfl) (by kernel_rfl) ?_
  simp only [List.take_succ_cons, List.take_zero, List.drop_succ_cons, List.drop_zero]
  repeat still_step
  try refine wpStill_nil ?_
  change wpList _ _ _ _ _ w3.drew
  revert HH
  generalize w3.drew = wa
  intro HH
  have HS := Aside0.mk (skip_has HH.out.1 d HD.out.2)
  have n0 : g < wa.heap.size := HH.out.1.lt
  go_wp2_with fail
  first | rw [w4_] | skip
  refine HS.out.mono ?_
  rintro e wb ⟨rfl, hh, hk⟩
  rw [adv_at (k := k) (p := p1 + 1) (n := d) (by clear w1_ w2_ w3_ w4_ w5_; have := HD.out.1; have := HE.out.1; have := HE.out.2; have := HQ0.out; omega), HD.out.1] at hh
  have hk := HH.out.2.trans hk
  have HB := Aside0.mk (And.intro hh hk)
  have n0 : g < wb.heap.size := hh.lt
  clear hh hk HS
  go_wp2_with fail
  rw [Exit.noGoto_ret]
  go_ret
  refine step_none H0.out.1 H0.out.2.1 H0.out.2.2.1 H0.out.2.2.2 HB.out.2 (by clear w1_ w2_ w3_ w4_ w5_; have := HE.out.1; have := HE.out.2; have := HQ.out; show q ≤ k.eo; omega) (fun fv hfv => ?_) rfl rfl rfl
  subst hfv
  exact HB.out.1

set_option maxHeartbeats 400000 in
theorem ext_4 {w : World} {g ge : Nat} {c : RC} {k : K} {s : St} {es : Array Value} {l l2 : List Int} {v n : Nat} {z m : Nat} (h : HasR w g c k s) (he : w.heap[ge]? = some (.cells es 92 (0, 0))) (hes : IsRow es) (hl : k.at s.p = 0 :: l) (hob : 0 < k.ob) (hu : uread (k.at (s.p + 1)) = some (v, n)) (hx : k.at (s.p + 1 + n) = 4 :: l2) (hv : 1 ≤ v) (hq : s.p + 1 + n + v ≤ k.eo) (hz : unum (k.at (s.p + 1 + n + 1)) = some (z, m)) (hm : 1 + m ≤ v) :
    Calls Tryd.prog 51 #[.pointer (some ⟨g, 0, none⟩), .pointer (some ⟨ge, 0, none⟩)] w fun e w' => StepPost w g ge c k es (none) ({ s with p := s.p + 1 + n + v, r := { s.r with di := (z : Int) } }) e w' := by
  obtain ⟨b, cap, fp, hH, hF, hP⟩ := h.at_
  have hq0 : s.p + 1 + n + v < 2147483648 := by have := h.eo; have := h.len; omega
  obtain ⟨y, rfl⟩ := hP.ptr
  have HV := Aside0.mk (uint8_has hH hl)
  have HA := Aside0.mk (adv_at (k := k) (p := s.p) (n := 1) (by omega))
  have H0 := Aside0.mk (And.intro h (And.intro he (And.intro hF hP)))
  have HES := Aside0.mk hes
  have HQ := Aside0.mk hq
  have HQ0 := Aside0.mk hq0
  have HU := Aside0.mk hu
  have HX := Aside0.mk hx
  have HVV := Aside0.mk hv
  have c1 : decide (k.ob ≤ 0) = false := decide_eq_false (by omega)
  obtain ⟨p1, hp1⟩ : ∃ p1, s.p + 1 + n = p1 := ⟨_, rfl⟩
  obtain ⟨q, hqq⟩ : ∃ q, p1 + v = q := ⟨_, rfl⟩
  have HE := Aside0.mk (And.intro hp1 hqq)
  have w1_ := nat_u32 v (by omega)
  have w2_ := add_u32 p1 v q hqq (by omega)
  rw [hp1, hqq]
  obtain ⟨hu1, hu2⟩ := unum_some hz
  have hw := nat_i64 z hu2
  have hw2 := nat_i64' z hu2
  have HZ := Aside0.mk (And.intro hu1 (And.intro hu2 hm))
  clear h he hF hP hl hq hob hH hu hx hv hq0 hp1 hqq hes hz hu1 hu2 hm
  go_enter Tryd.func51, Tryd.ntmps51
  go_wp2_with fail
  go_step3
  go_wp2_with fail
  refine HV.out.mono ?_
  rintro e w1 ⟨rfl, hh, hk⟩
  rw [HA.out] at hh
  have n0 : g < w1.heap.size := hh.lt
  have q18 : w1.cell? ⟨g, 18, none⟩ = some (.int .i64 k.ob) := (hh.restc 11).trans rfl
  have HU1 := Aside0.mk (uint_ok hh (v := v) (n := n) HU.out (by clear w1_ w2_; have := HQ0.out; omega))
  have HK := Aside0.mk hk
  clear hh hk HV HA HU
  go_wp2_with fail
  refine HU1.out.mono ?_
  rintro e w2 ⟨rfl, hh, hk⟩
  rw [adv_at (k := k) (p := s.p + 1) (n := n) (by clear w1_ w2_; have := HQ0.out; omega), HE.out.1] at hh
  have n0 : g < w2.heap.size := hh.lt
  have q4 : w2.cell? ⟨g, 4, none⟩ = some (.int .u32 (p1 : Int)) := by
    obtain ⟨_, _, _, _, _, q4, _⟩ := hh.parts
    exact q4
  have HX1 := Aside0.mk (uint8_has hh (b := 4) (r := l2) (by have := HX.out; rw [HE.out.1] at this; exact this))
  have HK2 := Aside0.mk (HK.out.trans hk)
  clear hh hk HK HU1 q18
  go_wp2_with fail
  refine HX1.out.mono ?_
  rintro e w3 ⟨rfl, hh, hk⟩
  rw [adv_at (k := k) (p := p1) (n := 1) (by clear w1_ w2_; have := HQ0.out; have := HE.out.1; omega)] at hh
  have n0 : g < w3.heap.size := hh.lt
  have hk := HK2.out.trans hk
  clear HX1 HK2 q4
  have HN1 := Aside0.mk (uint_ok hh (v := z) (n := m) (by have := HZ.out.1; rw [HE.out.1] at this; exact this) (by clear w1_ w2_ hw hw2; have := HZ.out.2.1; omega))
  have HK3 := Aside0.mk hk
  clear hh hk
  go_wp2_with fail
  refine HN1.out.mono ?_
  rintro e w4 ⟨rfl, hh, hk⟩
  rw [adv_at (k := k) (p := p1 + 1) (n := m) (by clear w1_ w2_ hw hw2; have := HZ.out.2.2; have := HE.out.1; have := HE.out.2; have := HQ0.out; omega)] at hh
  have hk := HK3.out.trans hk
  have n0 : g < w4.heap.size := hh.lt
  have q35 : w4.cell? ⟨g, 35, none⟩ = some (.int .i64 s.r.di) := (hh.restc 28).trans rfl
  have f35 := hh.free 35
  have hh := hh.st1 35 (.int .i64 (z : Int)) (rest' := rest c k { s with r := { s.r with di := (z : Int) } } (.slice (some ⟨b, 0, none⟩) s.n cap) (.pointer y)) (rest_all c k _ _ _ rfl rfl) ⟨c.byte.1, c.byte.2.1⟩ (fun a h7 => by simp [Array.setIfInBounds_append_right, h7])
  have hk := hk.set 35 (.int .i64 (z : Int))
  have HX4 := Aside0.mk (And.intro hh hk)
  clear hh hk HN1 HK3
  go_wp2_with fail
  clear n0 q35 f35
  revert HX4
  generalize w4.setCell ⟨g, 35, none⟩ (.int .i64 (z : Int)) = w5
  intro HX4
  have hh := HX4.out.1
  have hk := HX4.out.2
  have n0 : g < w5.heap.size := hh.lt
  clear HX4
  have hle_ : p1 + 1 + m ≤ q := by clear w1_ w2_; have := HE.out.1; have := HE.out.2; have := HZ.out.2.2; omega
  obtain ⟨d, hd⟩ : ∃ d, p1 + 1 + m + d = q := ⟨q - (p1 + 1 + m), by clear w1_ w2_; omega⟩
  have hdl : d ≤ (k.at (p1 + 1 + m)).length := by rw [at_length _ H0.out.1.eo]; clear w1_ w2_; have := HE.out.1; have := HE.out.2; have := HQ.out; omega
  have w3_ := sub_u32 (p1 + 1 + m) d q hd (by have := HE.out.1; have := HE.out.2; have := HQ0.out; clear w1_ w2_; omega)
  have w4_ := nat_i64 d (by have := HE.out.1; have := HE.out.2; have := HQ0.out; clear w1_ w2_ w3_; omega)
  have w5_ := nat_i64' d (by have := HE.out.1; have := HE.out.2; have := HQ0.out; clear w1_ w2_ w3_ w4_; omega)
  have HD := Aside0.mk (And.intro hd hdl)
  obtain ⟨C, hC⟩ : ∃ C : Int, ((p1 + 1 + m : Nat) : Int) = C := ⟨_, rfl⟩
  rw [hC] at w3_
  have q4 : w5.cell? ⟨g, 4, none⟩ = some (.int .u32 C) := by
    rw [← hC]
    obtain ⟨_, _, _, _, _, q4, _⟩ := hh.parts
    exact q4
  have HH : Aside0 (Has w5.drew g 94 (rest c k ({ s with r := { s.r with di := (z : Int) } }) (.slice (some ⟨b, 0, none⟩) s.n cap) (.pointer y)) c.bc ⟨((p1 + 1 + m : Nat) : Int), k.at (p1 + 1 + m), true⟩ ∧ Kp w w5.drew g) := ⟨hh.drewN 1, hk.drewN 1⟩
  clear hh hk hle_ hd hdl hC
  go_wp2_with fail
  refine Fast.wp_tail 13 (by kernel_rfl) (by kernel_rfl) ?_
  simp only [List.take_succ_cons, List.take_zero, List.drop_succ_cons, List.drop_zero]
  repeat still_step
  try refine wpStill_nil ?_
  change wpList _ _ _ _ _ w5.drew
  revert HH
  generalize w5.drew = wa
  intro HH
  have HS := Aside0.mk (skip_has HH.out.1 d HD.out.2)
  have n0 : g < wa.heap.size := HH.out.1.lt
  go_wp2_with fail
  first | rw [w4_] | skip
  refine HS.out.mono ?_
  rintro e wb ⟨rfl, hh, hk⟩
  rw [adv_at (k := k) (p := p1 + 1 + m) (n := d) (by clear w1_ w2_ w3_ w4_ w5_; have := HD.out.1; have := HE.out.1; have := HE.out.2; have := HQ0.out; omega), HD.out.1] at hh
  have hk := HH.out.2.trans hk
  have HB := Aside0.mk (And.intro hh hk)
  have n0 : g < wb.heap.size := hh.lt
  clear hh hk HS
  go_wp2_with fail
  rw [Exit.noGoto_ret]
  go_ret
  refine step_none H0.out.1 H0.out.2.1 H0.out.2.2.1 H0.out.2.2.2 HB.out.2 (by clear w1_ w2_ w3_ w4_ w5_; have := HE.out.1; have := HE.out.2; have := HQ.out; show q ≤ k.eo; omega) (fun fv hfv => ?_) rfl rfl rfl
  subst hfv
  exact HB.out.1

end Go.Proofs.YtdepfipebogdcaaDoor.Line

/- A step of a line reader: the operation that sets an address. -/
namespace Go.Proofs.YtdepfipebogdcaaDoor.Line
set_option maxRecDepth 100000
open Go.RowKit Go.Proofs.YtdepfipebogdcaaDoorW.PrintWords Go.Proofs.YtdepfipebogdcaaDoorW.PrintLast Go.Proofs.YtdepfipebogdcaaDoorW.PrintMore Go.Proofs.YtdepfipebogdcaaDoor.Leb Go.Proofs.YtdepfipebogdcaaDoor.Buf Go.Proofs.YtdepfipebogdcaaDoor

set_option maxHeartbeats 400000 in
theorem ext_a8 {w : World} {g ge : Nat} {c : RC} {k : K} {s : St} {es : Array Value} {l l2 : List Int} {v n : Nat} {b0 b1 b2 b3 b4 b5 b6 b7 : Int} {l3 : List Int} (h : HasR w g c k s) (he : w.heap[ge]? = some (.cells es 92 (0, 0))) (hes : IsRow es) (hl : k.at s.p = 0 :: l) (hob : 0 < k.ob) (hu : uread (k.at (s.p + 1)) = some (v, n)) (hx : k.at (s.p + 1 + n) = 2 :: l2) (hv : 1 ≤ v) (hq : s.p + 1 + n + v ≤ k.eo) (hz : k.at (s.p + 1 + n + 1) = b0 :: b1 :: b2 :: b3 :: b4 :: b5 :: b6 :: b7 :: l3) (hasz : k.asz = 8) (hm : 1 + 8 ≤ v) :
    Calls Tryd.prog 51 #[.pointer (some ⟨g, 0, none⟩), .pointer (some ⟨ge, 0, none⟩)] w fun e w' => StepPost w g ge c k es (none) ({ s with p := s.p + 1 + n + v, r := { s.r with ad := eight k.big b0 b1 b2 b3 b4 b5 b6 b7 } }) e w' := by
  obtain ⟨b, cap, fp, hH, hF, hP⟩ := h.at_
  have hq0 : s.p + 1 + n + v < 2147483648 := by have := h.eo; have := h.len; omega
  obtain ⟨y, rfl⟩ := hP.ptr
  have HV := Aside0.mk (uint8_has hH hl)
  have HA := Aside0.mk (adv_at (k := k) (p := s.p) (n := 1) (by omega))
  have H0 := Aside0.mk (And.intro h (And.intro he (And.intro hF hP)))
  have HES := Aside0.mk hes
  have HQ := Aside0.mk hq
  have HQ0 := Aside0.mk hq0
  have HU := Aside0.mk hu
  have HX := Aside0.mk hx
  have HVV := Aside0.mk hv
  have c1 : decide (k.ob ≤ 0) = false := decide_eq_false (by omega)
  obtain ⟨p1, hp1⟩ : ∃ p1, s.p + 1 + n = p1 := ⟨_, rfl⟩
  obtain ⟨q, hqq⟩ : ∃ q, p1 + v = q := ⟨_, rfl⟩
  have HE := Aside0.mk (And.intro hp1 hqq)
  have w1_ := nat_u32 v (by omega)
  have w2_ := add_u32 p1 v q hqq (by omega)
  rw [hp1, hqq]
  have HZ := Aside0.mk (And.intro hz hm)
  have HBIG := Aside0.mk h.big
  obtain ⟨Z, hZ⟩ : ∃ Z : Int, eight k.big b0 b1 b2 b3 b4 b5 b6 b7 = Z := ⟨_, rfl⟩
  have HZZ := Aside0.mk hZ
  rw [hZ]
  have HASZ := Aside0.mk hasz
  clear hasz
  clear h he hF hP hl hq hob hH hu hx hv hq0 hp1 hqq hes hz hm hZ
  go_enter Tryd.func51, Tryd.ntmps51
  go_wp2_with fail
  go_step3
  go_wp2_with fail
  refine HV.out.mono ?_
  rintro e w1 ⟨rfl, hh, hk⟩
  rw [HA.out] at hh
  have n0 : g < w1.heap.size := hh.lt
  have q18 : w1.cell? ⟨g, 18, none⟩ = some (.int .i64 k.ob) := (hh.restc 11).trans rfl
  have HU1 := Aside0.mk (uint_ok hh (v := v) (n := n) HU.out (by clear w1_ w2_; have := HQ0.out; omega))
  have HK := Aside0.mk hk
  clear hh hk HV HA HU
  go_wp2_with fail
  refine HU1.out.mono ?_
  rintro e w2 ⟨rfl, hh, hk⟩
  rw [adv_at (k := k) (p := s.p + 1) (n := n) (by clear w1_ w2_; have := HQ0.out; omega), HE.out.1] at hh
  have n0 : g < w2.heap.size := hh.lt
  have q4 : w2.cell? ⟨g, 4, none⟩ = some (.int .u32 (p1 : Int)) := by
    obtain ⟨_, _, _, _, _, q4, _⟩ := hh.parts
    exact q4
  have HX1 := Aside0.mk (uint8_has hh (b := 2) (r := l2) (by have := HX.out; rw [HE.out.1] at this; exact this))
  have HK2 := Aside0.mk (HK.out.trans hk)
  clear hh hk HK HU1 q18
  go_wp2_with fail
  refine HX1.out.mono ?_
  rintro e w3 ⟨rfl, hh, hk⟩
  rw [adv_at (k := k) (p := p1) (n := 1) (by clear w1_ w2_; have := HQ0.out; have := HE.out.1; omega)] at hh
  have n0 : g < w3.heap.size := hh.lt
  have hk := HK2.out.trans hk
  clear HX1 HK2 q4
  have q12 : w3.cell? ⟨g, 11, none⟩ = some (.int .i64 8) := by rw [← HASZ.out]; exact (hh.restc 4).trans rfl
  have HN1 := Aside0.mk (uint64_ok hh (r := l3) (by have := HZ.out.1; rw [HE.out.1] at this; exact this))
  have HK3 := Aside0.mk hk
  clear hh hk
  go_wp2_with fail
  refine HN1.out.mono ?_
  rw [HBIG.out, HZZ.out]
  rintro e w4 ⟨rfl, hh, hk⟩
  rw [adv_at (k := k) (p := p1 + 1) (n := 8) (by clear w1_ w2_; have := HZ.out.2; have := HE.out.1; have := HE.out.2; have := HQ0.out; omega)] at hh
  have hk := HK3.out.trans hk
  have n0 : g < w4.heap.size := hh.lt
  have q25 : w4.cell? ⟨g, 25, none⟩ = some (.int .u64 s.r.ad) := (hh.restc 18).trans rfl
  have f25 := hh.free 25
  have hh := hh.st1 25 (.int .u64 Z) (rest' := rest c k { s with r := { s.r with ad := Z } } (.slice (some ⟨b, 0, none⟩) s.n cap) (.pointer y)) (rest_all c k _ _ _ rfl rfl) ⟨c.byte.1, c.byte.2.1⟩ (fun a h7 => by simp [Array.setIfInBounds_append_right, h7])
  have hk := hk.set 25 (.int .u64 Z)
  have HX4 := Aside0.mk (And.intro hh hk)
  clear hh hk HN1 HK3
  go_wp2_with fail
  clear n0 q25 f25 q12
  revert HX4
  generalize w4.setCell ⟨g, 25, none⟩ (.int .u64 Z) = w5
  intro HX4
  have hh := HX4.out.1
  have hk := HX4.out.2
  have n0 : g < w5.heap.size := hh.lt
  clear HX4
  have hle_ : p1 + 1 + 8 ≤ q := by clear w1_ w2_; have := HE.out.1; have := HE.out.2; have := HZ.out.2; omega
  obtain ⟨d, hd⟩ : ∃ d, p1 + 1 + 8 + d = q := ⟨q - (p1 + 1 + 8), by clear w1_ w2_; omega⟩
  have hdl : d ≤ (k.at (p1 + 1 + 8)).length := by rw [at_length _ H0.out.1.eo]; clear w1_ w2_; have := HE.out.1; have := HE.out.2; have := HQ.out; omega
  have w3_ := sub_u32 (p1 + 1 + 8) d q hd (by have := HE.out.1; have := HE.out.2; have := HQ0.out; clear w1_ w2_; omega)
  have w4_ := nat_i64 d (by have := HE.out.1; have := HE.out.2; have := HQ0.out; clear w1_ w2_ w3_; omega)
  have w5_ := nat_i64' d (by have := HE.out.1; have := HE.out.2; have := HQ0.out; clear w1_ w2_ w3_ w4_; omega)
  have HD := Aside0.mk (And.intro hd hdl)
  obtain ⟨C, hC⟩ : ∃ C : Int, ((p1 + 1 + 8 : Nat) : Int) = C := ⟨_, rfl⟩
  rw [hC] at w3_
  have q4 : w5.cell? ⟨g, 4, none⟩ = some (.int .u32 C) := by
    rw [← hC]
    obtain ⟨_, _, _, _, _, q4, _⟩ := hh.parts
    exact q4
  have HH : Aside0 (Has w5.drew g 94 (rest c k ({ s with r := { s.r with ad := Z } }) (.slice (some ⟨b, 0, none⟩) s.n cap) (.pointer y)) c.bc ⟨((p1 + 1 + 8 : Nat) : Int), k.at (p1 + 1 + 8), true⟩ ∧ Kp w w5.drew g) := ⟨hh.drewN 1, hk.drewN 1⟩
  clear hh hk hle_ hd hdl hC
  go_wp2_with fail
  refine Fast.wp_tail 13 (by kernel_rfl) (by kernel_rfl) ?_
  simp only [List.take_succ_cons, List.take_zero, List.drop_succ_cons, List.drop_zero]
  repeat still_step
  try refine wpStill_nil ?_
  change wpList _ _ _ _ _ w5.drew
  revert HH
  generalize w5.drew = wa
  intro HH
  have HS := Aside0.mk (skip_has HH.out.1 d HD.out.2)
  have n0 : g < wa.heap.size := HH.out.1.lt
  go_wp2_with fail
  first | rw [w4_] | skip
  refine HS.out.mono ?_
  rintro e wb ⟨rfl, hh, hk⟩
  rw [adv_at (k := k) (p := p1 + 1 + 8) (n := d) (by clear w1_ w2_ w3_ w4_ w5_; have := HD.out.1; have := HE.out.1; have := HE.out.2; have := HQ0.out; omega), HD.out.1] at hh
  have hk := HH.out.2.trans hk
  have HB := Aside0.mk (And.intro hh hk)
  have n0 : g < wb.heap.size := hh.lt
  clear hh hk HS
  go_wp2_with fail
  rw [Exit.noGoto_ret]
  go_ret
  refine step_none H0.out.1 H0.out.2.1 H0.out.2.2.1 H0.out.2.2.2 HB.out.2 (by clear w1_ w2_ w3_ w4_ w5_; have := HE.out.1; have := HE.out.2; have := HQ.out; show q ≤ k.eo; omega) (fun fv hfv => ?_) rfl rfl rfl
  subst hfv
  exact HB.out.1

set_option maxHeartbeats 400000 in
theorem ext_a4 {w : World} {g ge : Nat} {c : RC} {k : K} {s : St} {es : Array Value} {l l2 : List Int} {v n : Nat} {b0 b1 b2 b3 : Int} {l3 : List Int} (h : HasR w g c k s) (he : w.heap[ge]? = some (.cells es 92 (0, 0))) (hes : IsRow es) (hl : k.at s.p = 0 :: l) (hob : 0 < k.ob) (hu : uread (k.at (s.p + 1)) = some (v, n)) (hx : k.at (s.p + 1 + n) = 2 :: l2) (hv : 1 ≤ v) (hq : s.p + 1 + n + v ≤ k.eo) (hz : k.at (s.p + 1 + n + 1) = b0 :: b1 :: b2 :: b3 :: l3) (hasz : k.asz = 4) (hm : 1 + 4 ≤ v) :
    Calls Tryd.prog 51 #[.pointer (some ⟨g, 0, none⟩), .pointer (some ⟨ge, 0, none⟩)] w fun e w' => StepPost w g ge c k es (none) ({ s with p := s.p + 1 + n + v, r := { s.r with ad := four k.big b0 b1 b2 b3 } }) e w' := by
  obtain ⟨b, cap, fp, hH, hF, hP⟩ := h.at_
  have hq0 : s.p + 1 + n + v < 2147483648 := by have := h.eo; have := h.len; omega
  obtain ⟨y, rfl⟩ := hP.ptr
  have HV := Aside0.mk (uint8_has hH hl)
  have HA := Aside0.mk (adv_at (k := k) (p := s.p) (n := 1) (by omega))
  have H0 := Aside0.mk (And.intro h (And.intro he (And.intro hF hP)))
  have HES := Aside0.mk hes
  have HQ := Aside0.mk hq
  have HQ0 := Aside0.mk hq0
  have HU := Aside0.mk hu
  have HX := Aside0.mk hx
  have HVV := Aside0.mk hv
  have c1 : decide (k.ob ≤ 0) = false := decide_eq_false (by omega)
  obtain ⟨p1, hp1⟩ : ∃ p1, s.p + 1 + n = p1 := ⟨_, rfl⟩
  obtain ⟨q, hqq⟩ : ∃ q, p1 + v = q := ⟨_, rfl⟩
  have HE := Aside0.mk (And.intro hp1 hqq)
  have w1_ := nat_u32 v (by omega)
  have w2_ := add_u32 p1 v q hqq (by omega)
  rw [hp1, hqq]
  have HZ := Aside0.mk (And.intro hz hm)
  have HBIG := Aside0.mk h.big
  obtain ⟨Z, hZ⟩ : ∃ Z : Int, four k.big b0 b1 b2 b3 = Z := ⟨_, rfl⟩
  have HZZ := Aside0.mk hZ
  rw [hZ]
  have HASZ := Aside0.mk hasz
  have hB := hH.byte
  have hm_ : ∀ x, x ∈ k.at (s.p + 1 + n + 1) → 0 ≤ x ∧ x < 256 := fun x hx_ => hB x (at_mem (n := 1 + n + 1) (by rw [show s.p + (1 + n + 1) = s.p + 1 + n + 1 by omega]; exact hx_))
  have hZb := four_lt k.big (hm_ b0 (by rw [hz]; simp)) (hm_ b1 (by rw [hz]; simp)) (hm_ b2 (by rw [hz]; simp)) (hm_ b3 (by rw [hz]; simp))
  rw [hZ] at hZb
  have wz_ := u64_small Z hZb.1 hZb.2
  clear hasz hB hm_ hZb
  clear h he hF hP hl hq hob hH hu hx hv hq0 hp1 hqq hes hz hm hZ
  go_enter Tryd.func51, Tryd.ntmps51
  go_wp2_with fail
  go_step3
  go_wp2_with fail
  refine HV.out.mono ?_
  rintro e w1 ⟨rfl, hh, hk⟩
  rw [HA.out] at hh
  have n0 : g < w1.heap.size := hh.lt
  have q18 : w1.cell? ⟨g, 18, none⟩ = some (.int .i64 k.ob) := (hh.restc 11).trans rfl
  have HU1 := Aside0.mk (uint_ok hh (v := v) (n := n) HU.out (by clear w1_ w2_; have := HQ0.out; omega))
  have HK := Aside0.mk hk
  clear hh hk HV HA HU
  go_wp2_with fail
  refine HU1.out.mono ?_
  rintro e w2 ⟨rfl, hh, hk⟩
  rw [adv_at (k := k) (p := s.p + 1) (n := n) (by clear w1_ w2_; have := HQ0.out; omega), HE.out.1] at hh
  have n0 : g < w2.heap.size := hh.lt
  have q4 : w2.cell? ⟨g, 4, none⟩ = some (.int .u32 (p1 : Int)) := by
    obtain ⟨_, _, _, _, _, q4, _⟩ := hh.parts
    exact q4
  have HX1 := Aside0.mk (uint8_has hh (b := 2) (r := l2) (by have := HX.out; rw [HE.out.1] at this; exact this))
  have HK2 := Aside0.mk (HK.out.trans hk)
  clear hh hk HK HU1 q18
  go_wp2_with fail
  refine HX1.out.mono ?_
  rintro e w3 ⟨rfl, hh, hk⟩
  rw [adv_at (k := k) (p := p1) (n := 1) (by clear w1_ w2_; have := HQ0.out; have := HE.out.1; omega)] at hh
  have n0 : g < w3.heap.size := hh.lt
  have hk := HK2.out.trans hk
  clear HX1 HK2 q4
  have q12 : w3.cell? ⟨g, 11, none⟩ = some (.int .i64 4) := by rw [← HASZ.out]; exact (hh.restc 4).trans rfl
  have HN1 := Aside0.mk (uint32_ok hh (r := l3) (by have := HZ.out.1; rw [HE.out.1] at this; exact this))
  have HK3 := Aside0.mk hk
  clear hh hk
  go_wp2_with fail
  refine HN1.out.mono ?_
  rw [HBIG.out, HZZ.out]
  rintro e w4 ⟨rfl, hh, hk⟩
  rw [adv_at (k := k) (p := p1 + 1) (n := 4) (by clear w1_ w2_; have := HZ.out.2; have := HE.out.1; have := HE.out.2; have := HQ0.out; omega)] at hh
  have hk := HK3.out.trans hk
  have n0 : g < w4.heap.size := hh.lt
  have q25 : w4.cell? ⟨g, 25, none⟩ = some (.int .u64 s.r.ad) := (hh.restc 18).trans rfl
  have f25 := hh.free 25
  have hh := hh.st1 25 (.int .u64 Z) (rest' := rest c k { s with r := { s.r with ad := Z } } (.slice (some ⟨b, 0, none⟩) s.n cap) (.pointer y)) (rest_all c k _ _ _ rfl rfl) ⟨c.byte.1, c.byte.2.1⟩ (fun a h7 => by simp [Array.setIfInBounds_append_right, h7])
  have hk := hk.set 25 (.int .u64 Z)
  have HX4 := Aside0.mk (And.intro hh hk)
  clear hh hk HN1 HK3
  go_wp2_with fail
  clear n0 q25 f25 q12
  revert HX4
  generalize w4.setCell ⟨g, 25, none⟩ (.int .u64 Z) = w5
  intro HX4
  have hh := HX4.out.1
  have hk := HX4.out.2
  have n0 : g < w5.heap.size := hh.lt
  clear HX4
  have hle_ : p1 + 1 + 4 ≤ q := by clear w1_ w2_; have := HE.out.1; have := HE.out.2; have := HZ.out.2; omega
  obtain ⟨d, hd⟩ : ∃ d, p1 + 1 + 4 + d = q := ⟨q - (p1 + 1 + 4), by clear w1_ w2_; omega⟩
  have hdl : d ≤ (k.at (p1 + 1 + 4)).length := by rw [at_length _ H0.out.1.eo]; clear w1_ w2_; have := HE.out.1; have := HE.out.2; have := HQ.out; omega
  have w3_ := sub_u32 (p1 + 1 + 4) d q hd (by have := HE.out.1; have := HE.out.2; have := HQ0.out; clear w1_ w2_; omega)
  have w4_ := nat_i64 d (by have := HE.out.1; have := HE.out.2; have := HQ0.out; clear w1_ w2_ w3_; omega)
  have w5_ := nat_i64' d (by have := HE.out.1; have := HE.out.2; have := HQ0.out; clear w1_ w2_ w3_ w4_; omega)
  have HD := Aside0.mk (And.intro hd hdl)
  obtain ⟨C, hC⟩ : ∃ C : Int, ((p1 + 1 + 4 : Nat) : Int) = C := ⟨_, rfl⟩
  rw [hC] at w3_
  have q4 : w5.cell? ⟨g, 4, none⟩ = some (.int .u32 C) := by
    rw [← hC]
    obtain ⟨_, _, _, _, _, q4, _⟩ := hh.parts
    exact q4
  have HH : Aside0 (Has w5.drew g 94 (rest c k ({ s with r := { s.r with ad := Z } }) (.slice (some ⟨b, 0, none⟩) s.n cap) (.pointer y)) c.bc ⟨((p1 + 1 + 4 : Nat) : Int), k.at (p1 + 1 + 4), true⟩ ∧ Kp w w5.drew g) := ⟨hh.drewN 1, hk.drewN 1⟩
  clear hh hk hle_ hd hdl hC
  go_wp2_with fail
  refine Fast.wp_tail 13 (by kernel_rfl) (by kernel_rfl) ?_
  simp only [List.take_succ_cons, List.take_zero, List.drop_succ_cons, List.drop_zero]
  repeat still_step
  try refine wpStill_nil ?_
  change wpList _ _ _ _ _ w5.drew
  revert HH
  generalize w5.drew = wa
  intro HH
  have HS := Aside0.mk (skip_has HH.out.1 d HD.out.2)
  have n0 : g < wa.heap.size := HH.out.1.lt
  go_wp2_with fail
  first | rw [w4_] | skip
  refine HS.out.mono ?_
  rintro e wb ⟨rfl, hh, hk⟩
  rw [adv_at (k := k) (p := p1 + 1 + 4) (n := d) (by clear w1_ w2_ w3_ w4_ w5_; have := HD.out.1; have := HE.out.1; have := HE.out.2; have := HQ0.out; omega), HD.out.1] at hh
  have hk := HH.out.2.trans hk
  have HB := Aside0.mk (And.intro hh hk)
  have n0 : g < wb.heap.size := hh.lt
  clear hh hk HS
  go_wp2_with fail
  rw [Exit.noGoto_ret]
  go_ret
  refine step_none H0.out.1 H0.out.2.1 H0.out.2.2.1 H0.out.2.2.2 HB.out.2 (by clear w1_ w2_ w3_ w4_ w5_; have := HE.out.1; have := HE.out.2; have := HQ.out; show q ≤ k.eo; omega) (fun fv hfv => ?_) rfl rfl rfl
  subst hfv
  exact HB.out.1

end Go.Proofs.YtdepfipebogdcaaDoor.Line

/- A step of a line reader: the end of a sequence. -/
namespace Go.Proofs.YtdepfipebogdcaaDoor.Line
set_option maxRecDepth 100000
open Go.RowKit Go.Proofs.YtdepfipebogdcaaDoorW.PrintWords Go.Proofs.YtdepfipebogdcaaDoorW.PrintLast Go.Proofs.YtdepfipebogdcaaDoorW.PrintMore Go.Proofs.YtdepfipebogdcaaDoor.Leb Go.Proofs.YtdepfipebogdcaaDoor.Buf Go.Proofs.YtdepfipebogdcaaDoor

theorem row_far {w0 w : World} {g ge t : Nat} {rest : Array Value} {c : BC} {S0 : S} {es : Array Value} (h : Has w g t rest c S0) (k : K2 w0 w g ge) (he : w.heap[ge]? = some (.cells es 92 (0, 0))) (hes : IsRow es) (hne : ge ≠ g) (v0 v1 v2 v3 v4 v5 v6 v7 v8 v9 v10 v11 : Value) :
    Has ((((((((((((w.setCell ⟨ge, 0, none⟩ v0).setCell ⟨ge, 1, none⟩ v1).setCell ⟨ge, 2, none⟩ v2).setCell ⟨ge, 3, none⟩ v3).setCell ⟨ge, 4, none⟩ v4).setCell ⟨ge, 5, none⟩ v5).setCell ⟨ge, 6, none⟩ v6).setCell ⟨ge, 7, none⟩ v7).setCell ⟨ge, 8, none⟩ v8).setCell ⟨ge, 9, none⟩ v9).setCell ⟨ge, 10, none⟩ v10).setCell ⟨ge, 11, none⟩ v11) g t rest c S0 ∧ K2 w0 ((((((((((((w.setCell ⟨ge, 0, none⟩ v0).setCell ⟨ge, 1, none⟩ v1).setCell ⟨ge, 2, none⟩ v2).setCell ⟨ge, 3, none⟩ v3).setCell ⟨ge, 4, none⟩ v4).setCell ⟨ge, 5, none⟩ v5).setCell ⟨ge, 6, none⟩ v6).setCell ⟨ge, 7, none⟩ v7).setCell ⟨ge, 8, none⟩ v8).setCell ⟨ge, 9, none⟩ v9).setCell ⟨ge, 10, none⟩ v10).setCell ⟨ge, 11, none⟩ v11) g ge ∧ ((((((((((((w.setCell ⟨ge, 0, none⟩ v0).setCell ⟨ge, 1, none⟩ v1).setCell ⟨ge, 2, none⟩ v2).setCell ⟨ge, 3, none⟩ v3).setCell ⟨ge, 4, none⟩ v4).setCell ⟨ge, 5, none⟩ v5).setCell ⟨ge, 6, none⟩ v6).setCell ⟨ge, 7, none⟩ v7).setCell ⟨ge, 8, none⟩ v8).setCell ⟨ge, 9, none⟩ v9).setCell ⟨ge, 10, none⟩ v10).setCell ⟨ge, 11, none⟩ v11).heap[ge]? = some (.cells #[v0, v1, v2, v3, v4, v5, v6, v7, v8, v9, v10, v11] 92 (0, 0)) := by
  obtain ⟨hr, hke⟩ := row_stored he hes.1 v0 v1 v2 v3 v4 v5 v6 v7 v8 v9 v10 v11
  have a1 := k.kpe hke
  revert hr hke a1
  generalize ((((((((((((w.setCell ⟨ge, 0, none⟩ v0).setCell ⟨ge, 1, none⟩ v1).setCell ⟨ge, 2, none⟩ v2).setCell ⟨ge, 3, none⟩ v3).setCell ⟨ge, 4, none⟩ v4).setCell ⟨ge, 5, none⟩ v5).setCell ⟨ge, 6, none⟩ v6).setCell ⟨ge, 7, none⟩ v7).setCell ⟨ge, 8, none⟩ v8).setCell ⟨ge, 9, none⟩ v9).setCell ⟨ge, 10, none⟩ v10).setCell ⟨ge, 11, none⟩ v11) = w2
  intro hr hke a1
  refine ⟨h.far ge (Ne.symm hne) hke.block ?_, a1, hr⟩
  intro cs t' f hc
  have hc := he.symm.trans hc
  injection hc with hc
  injection hc with hc
  subst hc
  exact hes.2

set_option maxHeartbeats 1000000 in
theorem ext_1 {w : World} {g ge : Nat} {c : RC} {k : K} {s : St} {es : Array Value} {l l2 : List Int} {v n : Nat} (h : HasR w g c k s) (he : w.heap[ge]? = some (.cells es 92 (0, 0))) (hes : IsRow es) (hl : k.at s.p = 0 :: l) (hob : 0 < k.ob) (hu : uread (k.at (s.p + 1)) = some (v, n)) (hx : k.at (s.p + 1 + n) = 1 :: l2) (hv : 1 ≤ v) (hq : s.p + 1 + n + v ≤ k.eo) :
    Calls Tryd.prog 51 #[.pointer (some ⟨g, 0, none⟩), .pointer (some ⟨ge, 0, none⟩)] w fun e w' => StepPost w g ge c k es (some { s.r with es := true }) ({ k.start { s with r := { s.r with es := true } } with p := s.p + 1 + n + v }) e w' := by
  obtain ⟨b, cap, fp, hH, hF, hP⟩ := h.at_
  have hq0 : s.p + 1 + n + v < 2147483648 := by have := h.eo; have := h.len; omega
  obtain ⟨y, rfl⟩ := hP.ptr
  have HV := Aside0.mk (uint8_has hH hl)
  have HA := Aside0.mk (adv_at (k := k) (p := s.p) (n := 1) (by omega))
  have H0 := Aside0.mk (And.intro h (And.intro he (And.intro hF hP)))
  have HES := Aside0.mk hes
  have HQ := Aside0.mk hq
  have HQ0 := Aside0.mk hq0
  have HU := Aside0.mk hu
  have HX := Aside0.mk hx
  have HVV := Aside0.mk hv
  have c1 : decide (k.ob ≤ 0) = false := decide_eq_false (by omega)
  obtain ⟨p1, hp1⟩ : ∃ p1, s.p + 1 + n = p1 := ⟨_, rfl⟩
  obtain ⟨q, hqq⟩ : ∃ q, p1 + v = q := ⟨_, rfl⟩
  have HE := Aside0.mk (And.intro hp1 hqq)
  have w1_ := nat_u32 v (by omega)
  have w2_ := add_u32 p1 v q hqq (by omega)
  rw [hp1, hqq]
  clear h he hF hP hl hq hob hH hu hx hv hq0 hp1 hqq hes
  go_enter Tryd.func51, Tryd.ntmps51
  go_wp2_with fail
  go_step3
  go_wp2_with fail
  refine HV.out.mono ?_
  rintro e w1 ⟨rfl, hh, hk⟩
  rw [HA.out] at hh
  have n0 : g < w1.heap.size := hh.lt
  have q18 : w1.cell? ⟨g, 18, none⟩ = some (.int .i64 k.ob) := (hh.restc 11).trans rfl
  have HU1 := Aside0.mk (uint_ok hh (v := v) (n := n) HU.out (by clear w1_ w2_; have := HQ0.out; omega))
  have HK := Aside0.mk hk
  clear hh hk HV HA HU
  go_wp2_with fail
  refine HU1.out.mono ?_
  rintro e w2 ⟨rfl, hh, hk⟩
  rw [adv_at (k := k) (p := s.p + 1) (n := n) (by clear w1_ w2_; have := HQ0.out; omega), HE.out.1] at hh
  have n0 : g < w2.heap.size := hh.lt
  have q4 : w2.cell? ⟨g, 4, none⟩ = some (.int .u32 (p1 : Int)) := by
    obtain ⟨_, _, _, _, _, q4, _⟩ := hh.parts
    exact q4
  have HX1 := Aside0.mk (uint8_has hh (b := 1) (r := l2) (by have := HX.out; rw [HE.out.1] at this; exact this))
  have HK2 := Aside0.mk (HK.out.trans hk)
  clear hh hk HK HU1 q18
  go_wp2_with fail
  refine HX1.out.mono ?_
  rintro e w3 ⟨rfl, hh, hk⟩
  rw [adv_at (k := k) (p := p1) (n := 1) (by clear w1_ w2_; have := HQ0.out; have := HE.out.1; omega)] at hh
  have n0 : g < w3.heap.size := hh.lt
  have hk := HK2.out.trans hk
  clear HX1 HK2 q4
  have q25 : w3.cell? ⟨g, 25, none⟩ = some (.int .u64 s.r.ad) := (hh.restc 18).trans rfl
  have f25 := hh.free 25
  have q26 : w3.cell? ⟨g, 26, none⟩ = some (.int .i64 s.r.ix) := (hh.restc 19).trans rfl
  have f26 := hh.free 26
  have q27 : w3.cell? ⟨g, 27, none⟩ = some (.pointer y) := (hh.restc 20).trans rfl
  have f27 := hh.free 27
  have q28 : w3.cell? ⟨g, 28, none⟩ = some (.int .i64 s.r.li) := (hh.restc 21).trans rfl
  have f28 := hh.free 28
  have q29 : w3.cell? ⟨g, 29, none⟩ = some (.int .i64 s.r.co) := (hh.restc 22).trans rfl
  have f29 := hh.free 29
  have q30 : w3.cell? ⟨g, 30, none⟩ = some (.bool s.r.st) := (hh.restc 23).trans rfl
  have f30 := hh.free 30
  have q31 : w3.cell? ⟨g, 31, none⟩ = some (.bool s.r.bb) := (hh.restc 24).trans rfl
  have f31 := hh.free 31
  have q32 : w3.cell? ⟨g, 32, none⟩ = some (.bool s.r.pe) := (hh.restc 25).trans rfl
  have f32 := hh.free 32
  have q33 : w3.cell? ⟨g, 33, none⟩ = some (.bool s.r.eb) := (hh.restc 26).trans rfl
  have f33 := hh.free 33
  have q34 : w3.cell? ⟨g, 34, none⟩ = some (.int .i64 s.r.isa) := (hh.restc 27).trans rfl
  have f34 := hh.free 34
  have q35 : w3.cell? ⟨g, 35, none⟩ = some (.int .i64 s.r.di) := (hh.restc 28).trans rfl
  have f35 := hh.free 35
  have q36 : w3.cell? ⟨g, 36, none⟩ = some (.bool s.r.es) := (hh.restc 29).trans rfl
  have f36 := hh.free 36
  obtain ⟨b0, cap0, fp0, hH0, _⟩ := H0.out.1.at_
  obtain ⟨cs0, hg0⟩ := hH0.blk
  have hne : ge ≠ g := blk_ne H0.out.2.1 hg0 (by decide)
  have hge := (hk.block ge (blk_lt H0.out.2.1) hne).trans H0.out.2.1
  have n1 : ge < w3.heap.size := blk_lt hge
  have HG := Aside0.mk (And.intro hg0 hne)
  have cell : ∀ i, i < 12 → ∃ v, w3.cell? ⟨ge, i, none⟩ = some v := fun i hi => ⟨_, (blk_cell hge i).trans (Array.getElem?_eq_getElem (by clear w1_ w2_; have := HES.out.1; omega))⟩
  obtain ⟨v0, p0⟩ := cell 0 (by decide)
  have g0 := blk_frozen hge 0
  obtain ⟨v1, p1⟩ := cell 1 (by decide)
  have g1 := blk_frozen hge 1
  obtain ⟨v2, p2⟩ := cell 2 (by decide)
  have g2 := blk_frozen hge 2
  obtain ⟨v3, p3⟩ := cell 3 (by decide)
  have g3 := blk_frozen hge 3
  obtain ⟨v4, p4⟩ := cell 4 (by decide)
  have g4 := blk_frozen hge 4
  obtain ⟨v5, p5⟩ := cell 5 (by decide)
  have g5 := blk_frozen hge 5
  obtain ⟨v6, p6⟩ := cell 6 (by decide)
  have g6 := blk_frozen hge 6
  obtain ⟨v7, p7⟩ := cell 7 (by decide)
  have g7 := blk_frozen hge 7
  obtain ⟨v8, p8⟩ := cell 8 (by decide)
  have g8 := blk_frozen hge 8
  obtain ⟨v9, p9⟩ := cell 9 (by decide)
  have g9 := blk_frozen hge 9
  obtain ⟨v10, p10⟩ := cell 10 (by decide)
  have g10 := blk_frozen hge 10
  obtain ⟨v11, p11⟩ := cell 11 (by decide)
  have g11 := blk_frozen hge 11
  have h4 := hh.st1 36 (.bool true) (rest' := rest c k { s with r := { s.r with es := true } } (.slice (some ⟨b, 0, none⟩) s.n cap) (.pointer y)) (rest_all c k _ _ _ rfl rfl) ⟨c.byte.1, c.byte.2.1⟩ (fun a h7 => by simp [Array.setIfInBounds_append_right, h7])
  have k4 := hk.set 36 (.bool true)
  have hge4 := (k4.block ge (blk_lt H0.out.2.1) hne).trans H0.out.2.1
  obtain ⟨h5, k5, hr⟩ := row_far h4 ((K2.refl w g ge).kp k4) hge4 HES.out hne (.int .u64 s.r.ad) (.int .i64 s.r.ix) (.pointer y) (.int .i64 s.r.li) (.int .i64 s.r.co) (.bool s.r.st) (.bool s.r.bb) (.bool s.r.pe) (.bool s.r.eb) (.int .i64 s.r.isa) (.int .i64 s.r.di) (.bool true)
  have HY := Aside0.mk (And.intro h5 (And.intro k5 hr))
  clear hh hk hge cell hH0 h4 k4 hge4 hr h5 k5 hg0
  go_wp2_with fail
  revert HY
  generalize (((((((((((((w3.setCell ⟨g, 36, none⟩ (.bool true)).setCell ⟨ge, 0, none⟩ (.int .u64 s.r.ad)).setCell ⟨ge, 1, none⟩ (.int .i64 s.r.ix)).setCell ⟨ge, 2, none⟩ (.pointer y)).setCell ⟨ge, 3, none⟩ (.int .i64 s.r.li)).setCell ⟨ge, 4, none⟩ (.int .i64 s.r.co)).setCell ⟨ge, 5, none⟩ (.bool s.r.st)).setCell ⟨ge, 6, none⟩ (.bool s.r.bb)).setCell ⟨ge, 7, none⟩ (.bool s.r.pe)).setCell ⟨ge, 8, none⟩ (.bool s.r.eb)).setCell ⟨ge, 9, none⟩ (.int .i64 s.r.isa)).setCell ⟨ge, 10, none⟩ (.int .i64 s.r.di)).setCell ⟨ge, 11, none⟩ (.bool true)) = w4
  intro HY
  clear q25 f25 q26 f26 q27 f27 q28 f28 q29 f29 q30 f30 q31 f31 q32 f32 q33 f33 q34 f34 q35 f35 q36 f36 p0 g0 p1 g1 p2 g2 p3 g3 p4 g4 p5 g5 p6 g6 p7 g7 p8 g8 p9 g9 p10 g10 p11 g11 n0 n1
  have n0 : g < w4.heap.size := HY.out.1.lt
  have hF4 := H0.out.2.2.1.k2 HY.out.2.1 ⟨_, HG.out.1⟩ ⟨_, H0.out.2.1⟩
  have HR := Aside0.mk (resetState_has HY.out.1 rfl hF4 H0.out.1.n)
  clear hF4
  refine HR.out.mono ?_
  rintro e w5 ⟨rfl, fq, hh, hp5, hk5⟩
  obtain ⟨z, rfl⟩ := hp5.ptr
  have hk := HY.out.2.1.kp hk5
  have HP5 := Aside0.mk (And.intro hp5 (And.intro ((hk5.block ge (blk_lt HY.out.2.2) HG.out.2).trans HY.out.2.2) hh.blk))
  have HK5 := Aside0.mk hk
  have n0 : g < w5.heap.size := hh.lt
  clear HR hp5 hk5 HY
  have hle_ : p1 + 1 ≤ q := by clear w1_ w2_; have := HE.out.1; have := HE.out.2; have := HVV.out; omega
  obtain ⟨d, hd⟩ : ∃ d, p1 + 1 + d = q := ⟨q - (p1 + 1), by clear w1_ w2_; omega⟩
  have hdl : d ≤ (k.at (p1 + 1)).length := by rw [at_length _ H0.out.1.eo]; clear w1_ w2_; have := HE.out.1; have := HE.out.2; have := HQ.out; omega
  have w3_ := sub_u32 (p1 + 1) d q hd (by have := HE.out.1; have := HE.out.2; have := HQ0.out; clear w1_ w2_; omega)
  have w4_ := nat_i64 d (by have := HE.out.1; have := HE.out.2; have := HQ0.out; clear w1_ w2_ w3_; omega)
  have w5_ := nat_i64' d (by have := HE.out.1; have := HE.out.2; have := HQ0.out; clear w1_ w2_ w3_ w4_; omega)
  have HD := Aside0.mk (And.intro hd hdl)
  obtain ⟨C, hC⟩ : ∃ C : Int, ((p1 + 1 : Nat) : Int) = C := ⟨_, rfl⟩
  rw [hC] at w3_
  have q4 : w5.cell? ⟨g, 4, none⟩ = some (.int .u32 C) := by
    rw [← hC]
    obtain ⟨_, _, _, _, _, q4, _⟩ := hh.parts
    exact q4
  have HH : Aside0 (Has w5.drew g 94 (rest c k (k.start { s with r := { s.r with es := true } }) (.slice (some ⟨b, 0, none⟩) s.n cap) (.pointer z)) c.bc ⟨((p1 + 1 : Nat) : Int), k.at (p1 + 1), true⟩ ∧ K2 w w5.drew g ge ∧ Kp w5 w5.drew g) := ⟨hh.drewN 1, hk.drewN 1, (Kp.refl w5 g).drewN 1⟩
  clear hh hk hle_ hd hdl hC
  go_wp2_with fail
  refine Fast.wp_tail 13 (by kernel_rfl) (by kernel_rfl) ?_
  simp only [List.take_succ_cons, List.take_zero, List.drop_succ_cons, List.drop_zero]
  repeat still_step
  try refine wpStill_nil ?_
  change wpList _ _ _ _ _ w5.drew
  revert HH
  generalize w5.drew = wa
  intro HH
  have HS := Aside0.mk (skip_has HH.out.1 d HD.out.2)
  have n0 : g < wa.heap.size := HH.out.1.lt
  go_wp2_with fail
  first | rw [w4_] | skip
  refine HS.out.mono ?_
  rintro e wb ⟨rfl, hh, hk⟩
  rw [adv_at (k := k) (p := p1 + 1) (n := d) (by clear w1_ w2_ w3_ w4_ w5_; have := HD.out.1; have := HE.out.1; have := HE.out.2; have := HQ0.out; omega), HD.out.1] at hh
  have hk := And.intro (HH.out.2.1.kp hk) (HH.out.2.2.trans hk)
  have HB := Aside0.mk (And.intro hh hk)
  have n0 : g < wb.heap.size := hh.lt
  clear hh hk HS
  go_wp2_with fail
  rw [Exit.noGoto_ret]
  go_ret
  obtain ⟨hb, kb, kb5⟩ := HB.out
  refine ⟨rfl, H0.out.1.next (b := b) (cap := cap) (fp := .pointer z) H0.out.2.1 kb.kx (by clear w1_ w2_ w3_ w4_ w5_; have := HE.out.1; have := HE.out.2; have := HQ.out; show q ≤ k.eo; omega) H0.out.1.n hb (H0.out.2.2.1.k2 kb ⟨_, HG.out.1⟩ ⟨_, H0.out.2.1⟩) (HP5.out.1.kp kb5 HP5.out.2.2), ⟨.pointer y, H0.out.2.2.2.k2 kb ⟨_, HG.out.1⟩ ⟨_, H0.out.2.1⟩, ?_⟩, kb.kx⟩
  exact (kb5.block ge (blk_lt HP5.out.2.1) HG.out.2).trans HP5.out.2.1

end Go.Proofs.YtdepfipebogdcaaDoor.Line

/- readFileEntry: a file that was known. -/
namespace Go.Proofs.YtdepfipebogdcaaDoor.Line
set_option maxRecDepth 100000
open Go.RowKit Go.Proofs.YtdepfipebogdcaaDoorW.PrintWords Go.Proofs.YtdepfipebogdcaaDoorW.PrintLast Go.Proofs.YtdepfipebogdcaaDoorW.PrintMore Go.Proofs.YtdepfipebogdcaaDoor.Leb Go.Proofs.YtdepfipebogdcaaDoor.Buf

theorem adv_adv (s : S) (a b : Nat) : (s.adv a).adv b = s.adv (a + b) := by
  unfold S.adv
  simp only [List.drop_drop]
  congr 1
  omega
/-- A name is absolute. -/
def AbsOk (nm : ByteArray) : Prop := ∀ W : World, Calls Tryd.prog 44 #[.string nm] W fun e w' => e = .returned (.bool true) ∧ Below W.heap.size W w'
/-- A name is not absolute. -/
def AbsNo (nm : ByteArray) : Prop := ∀ W : World, Calls Tryd.prog 44 #[.string nm] W fun e w' => e = .returned (.bool false) ∧ Below W.heap.size W w'
/-- A name joined to a directory is a path. -/
def JoinOk (d nm r : ByteArray) : Prop := ∀ W : World, Calls Tryd.prog 45 #[.string d, .string nm] W fun e w' => e = .returned (.string r) ∧ Below W.heap.size W w'
/-- The whole name of a file: an absolute one, or one that is joined to its directory. -/
def NameOk (dirs : List ByteArray) (nm : ByteArray) (d : Nat) (r : ByteArray) : Prop := (r = nm ∧ AbsOk nm) ∨ (AbsNo nm ∧ d < dirs.length ∧ JoinOk (dirs.getD d ByteArray.empty) nm r)
theorem lies_kp {w w' : World} {g : Nat} {v : Value} {l : List ByteArray} (h : Lies w 9 Kd.string v l) (hk : Kp w w' g) (hg : ∃ cs, w.heap[g]? = some (.cells cs 94 (0, 0))) : Lies w' 9 Kd.string v l :=
  h.kx (base := 0) (g := g) (ge := g) (fun _ _ _ _ h => h) (Kx.of_Kp hk) (fun cs x e => by obtain ⟨cs', e'⟩ := hg; rw [e'] at e; injection e with e; injection e with _ e; exact absurd e (by decide)) (fun cs x e => by obtain ⟨cs', e'⟩ := hg; rw [e'] at e; injection e with e; injection e with _ e; exact absurd e (by decide)) (by decide)
theorem lies_at {w : World} {v : Value} {l : List ByteArray} (h : Lies w 9 Kd.string v l) {d : Nat} (hd : d < l.length) : ∃ ad cap, v = .slice (some ad) l.length cap ∧ l.length < 9223372036854775808 ∧ w.cell? (ad.add d) = some (.string (l.getD d ByteArray.empty)) := by
  obtain ⟨A, cap, rfl, hc, hC, _⟩ := h
  obtain ⟨ad, c, e, _, hK, hc0⟩ := Kd.C_get hC ByteArray.empty (d : Int) (by omega) (by omega)
  subst e
  refine ⟨ad, cap, rfl, by have := hC.2.1; omega, ?_⟩
  have h0 : ∀ j u, c[j]? = some u → w.cell? (ad.add (d * 1 + j)) = some u := hc0
  have hk : c = [.string (l.getD d ByteArray.empty)] := hK
  subst hk
  have := h0 0 _ rfl
  rwa [Nat.mul_one, Nat.add_zero] at this
theorem _root_.Go.Proofs.YtdepfipebogdcaaDoor.Buf.Has.cell {w : World} {g t : Nat} {rest : Array Value} {c : BC} {s : S} (h : Has w g t rest c s) {i j : Nat} {v : Value} (hj : rest[j]? = some v) (e : i = 7 + j) : w.cell? ⟨g, i, none⟩ = some v := by
  subst e
  rw [h.restc, hj]
theorem _root_.Go.Proofs.YtdepfipebogdcaaDoor.Buf.Has.noerr {w : World} {g t : Nat} {rest : Array Value} {c : BC} {s : S} (h : Has w g t rest c s) (ho : s.ok = true) : w.cell? ⟨g, 6, none⟩ = some .nilIface := by
  obtain ⟨_, _, ev, _, _, _, _, q6, he, _⟩ := h.parts
  unfold ErrIs at he
  rw [if_pos ho] at he
  subst he
  exact q6
theorem set14 {a R : Array Value} {v : Value} (h7 : a.size = 7) : (a ++ R).setIfInBounds 21 v = a ++ R.setIfInBounds 14 v := by
  rw [Array.setIfInBounds_append_right (by omega), h7]
theorem size_strOfNums (l : List Int) : (strOfNums l).size = l.length := by
  simp [strOfNums, ByteArray.size]
set_option maxHeartbeats 1000000 in
theorem rfe_again {w : World} {g t b cap n base i dv dn mv mn lv ln : Nat} {R : Array Value} {c : BC} {S0 : S} {fs : List (Option Fl)} (hH : Has w g t R c S0) (ht : t = 94) (hok : S0.ok = true) (hR : R[14]? = some (.slice (some ⟨b, 0, none⟩) n cap)) (hby : R.all (fun v => !isByte v) = true) (hcb : isByte c.d = false ∧ isByte c.f = false) (hF : FilesAt w base b cap fs) {dirs : List ByteArray} {dirv : Value} {rn : ByteArray} (hR13 : R[13]? = some dirv) (hdl : Lies w 9 Kd.string dirv dirs)
    (hz : Buf.zeroAt S0.l = some i) (hi : 0 < i) (hd : uread (S0.l.drop (i + 1)) = some (dv, dn)) (hdv : dv < 9223372036854775808) (hab : NameOk dirs (strOfNums (S0.l.take i)) dv rn) (hm : uread (S0.l.drop (i + 1 + dn)) = some (mv, mn)) (hmv : mv < 9223372036854775808) (hl : uread (S0.l.drop (i + 1 + dn + mn)) = some (lv, ln)) (hlv : lv < 9223372036854775808) (hn : n < fs.length) {f0 : Fl} (hnb : n < 140737488355328) (hf : fs[n]? = some (some f0)) :
    Calls Tryd.prog 46 #[.pointer (some ⟨g, 0, none⟩)] w fun e w' => e = .returned (.tuple #[.bool false, .nilIface]) ∧ Has w' g 94 (R.setIfInBounds 14 (.slice (some ⟨b, 0, none⟩) (n + 1) cap)) c (S0.adv (i + 1 + dn + mn + ln)) ∧ Kp w w' g := by
  subst ht
  obtain ⟨nm, hnm⟩ : ∃ nm, strOfNums (S0.l.take i) = nm := ⟨_, rfl⟩
  have hil : i < S0.l.length := zeroAt_lt hz
  have hsz : nm.size = i := by rw [← hnm, size_strOfNums, List.length_take]; omega
  obtain ⟨N, hN⟩ : ∃ N, nm.size = N := ⟨_, rfl⟩
  have hN0 : 0 < N := by omega
  have c0 : ((N : Int) == 0) = false := by simp; omega
  have c1 : decide ((N : Int) = 0) = false := by simp; omega
  have HS := Aside0.mk (string_has hH hok hz)
  have HNM := Aside0.mk (And.intro hnm hN)
  have HA := Aside0.mk (And.intro hd (And.intro hm hl))
  have HD := Aside0.mk (And.intro hR13 hdl)
  have HR := Aside0.mk (And.intro hR (And.intro hby hcb))
  have HOK := Aside0.mk hok
  have HF := Aside0.mk hF
  have HV := Aside0.mk (And.intro hdv (And.intro hmv hlv))
  have HG := Aside0.mk hH.blk
  have HN := Aside0.mk (And.intro hn hf)
  have hcap : n < cap := by have := hF.le; omega
  have HCAP := Aside0.mk hcap
  have hn63 : n < 140737488355328 := hnb
  have cc : decide ((n : Int) < (cap : Int)) = true := by simpa using hcap
  clear hH hok hR hby hcb hF hz hi hd hm hl hil hsz hdv hmv hlv hN0 hR13 hdl hn hf hcap
  rcases hab with ⟨hrn, hab⟩ | ⟨hno, hdd, hjo⟩
  · have hrn2 : rn = nm := hrn.trans hnm
    subst hrn2
    have HAO := Aside0.mk hab
    clear hrn hab hnm
    go_enter Tryd.func46, Tryd.ntmps46
    go_wp2_with fail
    refine HS.out.mono ?_
    rw [HNM.out.1]
    rintro e w1 ⟨rfl, hh, hk⟩
    have n0 : g < w1.heap.size := hh.lt
    have q6 : w1.cell? ⟨g, 6, none⟩ = some .nilIface := hh.noerr HOK.out
    obtain ⟨_, _, _, _, _, q4, _⟩ := hh.parts
    have HU := Aside0.mk (uint_ok hh (v := dv) (n := dn) HA.out.1 (by have := HV.out.1; omega))
    have HK := Aside0.mk hk
    clear hh hk HS
    go_wp2_with fail
    refine HU.out.mono ?_
    rintro e w2 ⟨rfl, hh, hk⟩
    rw [adv_adv] at hh
    have hk2 := HK.out.trans hk
    have n0 : g < w2.heap.size := hh.lt
    have HH := Aside0.mk (And.intro hh hk2)
    have HAB := Aside0.mk (HAO.out w2)
    rw [HNM.out.1] at HAB
    have wd := nat_i64 dv HV.out.1
    have wd' := nat_i64' dv HV.out.1
    clear hh hk hk2 HU q4 q6
    go_wp2_with fail
    clear wd wd'
    refine HAB.out.mono ?_
    rintro e w3 ⟨rfl, hb3⟩
    have hh := HH.out.1.below hb3
    have hk3 := HH.out.2.trans (Kp.of_below hb3)
    have n0 : g < w3.heap.size := hh.lt
    have HU := Aside0.mk (uint_ok hh (v := mv) (n := mn) HA.out.2.1 (by have := HV.out.2.1; omega))
    have HK := Aside0.mk hk3
    clear hh hk3 hb3 HAB HH
    go_wp2_with fail
    refine HU.out.mono ?_
    rintro e w4 ⟨rfl, hh, hk⟩
    rw [adv_adv] at hh
    have hk4 := HK.out.trans hk
    have n0 : g < w4.heap.size := hh.lt
    have HU2 := Aside0.mk (uint_ok hh (v := lv) (n := ln) HA.out.2.2 (by have := HV.out.2.2; omega))
    have HK := Aside0.mk hk4
    clear hh hk hk4 HU
    go_wp2_with fail
    refine HU2.out.mono ?_
    rintro e w5 ⟨rfl, hh, hk⟩
    rw [adv_adv] at hh
    have hk5 := HK.out.trans hk
    have n0 : g < w5.heap.size := hh.lt
    have q21 : w5.cell? ⟨g, 21, none⟩ = some (.slice (some ⟨b, 0, none⟩) n cap) := hh.cell HR.out.1 rfl
    have f21 := hh.free 21
    have hF5 := HF.out.kp hk5 HG.out
    obtain ⟨x, qf⟩ : ∃ x : Addr, w5.cell? ⟨b, n, none⟩ = some (.pointer (some x)) := by
      obtain ⟨cs, e1, e2, e3, e4⟩ := hF5.at_
      obtain ⟨v, hv, hp⟩ := e3 n HN.out.1
      have : fs[n]'HN.out.1 = some f0 := by have := HN.out.2; rw [List.getElem?_eq_getElem HN.out.1] at this; exact Option.some.inj this
      rw [this] at hp
      obtain ⟨b', rfl, _⟩ := hp
      exact ⟨_, (blk_cell e1 n).trans hv⟩
    have n1 : b < w5.heap.size := World.block_lt_of_cell? w5 _ qf
    have HH5 := Aside0.mk (And.intro hh hk5)
    have r1 : (0 ≤ (n : Int)) = True := eq_true (by omega)
    have r2 : n + 1 ≤ cap := by have := HCAP.out; omega
    have wl := nat_i64 lv HV.out.2.2
    have wl' := nat_i64' lv HV.out.2.2
    clear hh hk hk5 HU2 hF5 HK
    go_wp2_with fail
    clear wl wl'
    go_quiet (fail)
    go_wp2_with fail
    have r3 : IntKind.i64.wrap ((n : Int) + 1) = (n : Int) + 1 := by rw [IntKind.wrap_i64]; omega
    have r4 : 0 ≤ (n : Int) + 1 := by omega
    have r5 : ((n : Int) + 1).toNat = n + 1 := by omega
    go_quiet (fail)
    clear r3 r5
    go_wp2_with fail
    go_ret2
    exact ⟨rfl, Has.st1 (HH5.out.1.drewN _) 21 (.slice (some ⟨b, 0, none⟩) (n + 1) cap) HR.out.2.1 HR.out.2.2 (fun a h7 => by rw [set14 h7]), (HH5.out.2.drewN _).set 21 _⟩
  · have HAO := Aside0.mk (And.intro hno (And.intro hdd hjo))
    clear hno hdd hjo hnm
    go_enter Tryd.func46, Tryd.ntmps46
    go_wp2_with fail
    refine HS.out.mono ?_
    rw [HNM.out.1]
    rintro e w1 ⟨rfl, hh, hk⟩
    have n0 : g < w1.heap.size := hh.lt
    have q6 : w1.cell? ⟨g, 6, none⟩ = some .nilIface := hh.noerr HOK.out
    obtain ⟨_, _, _, _, _, q4, _⟩ := hh.parts
    have HU := Aside0.mk (uint_ok hh (v := dv) (n := dn) HA.out.1 (by have := HV.out.1; omega))
    have HK := Aside0.mk hk
    clear hh hk HS
    go_wp2_with fail
    refine HU.out.mono ?_
    rintro e w2 ⟨rfl, hh, hk⟩
    rw [adv_adv] at hh
    have hk2 := HK.out.trans hk
    have n0 : g < w2.heap.size := hh.lt
    have HH := Aside0.mk (And.intro hh hk2)
    have HAB := Aside0.mk (HAO.out.1 w2)
    rw [HNM.out.1] at HAB
    have wd := nat_i64 dv HV.out.1
    have wd' := nat_i64' dv HV.out.1
    clear hh hk hk2 HU q4 q6
    go_wp2_with fail
    clear wd wd'
    refine HAB.out.mono ?_
    rintro e w3 ⟨rfl, hb3⟩
    have hh := HH.out.1.below hb3
    have hk3 := HH.out.2.trans (Kp.of_below hb3)
    have n0 : g < w3.heap.size := hh.lt
    have hdl3 := lies_kp HD.out.2 hk3 HG.out
    obtain ⟨dad, dcap, hde, hdlt, qd⟩ := lies_at hdl3 HAO.out.2.1
    have q20 : w3.cell? ⟨g, 20, none⟩ = some (.slice (some dad) dirs.length dcap) := by
      rw [← hde]
      exact hh.cell HD.out.1 rfl
    have e0 : decide ((dv : Int) ≥ (dirs.length : Int)) = false := decide_eq_false (by have := HAO.out.2.1; omega)
    have e1 : decide ((dirs.length : Int) ≤ (dv : Int)) = false := decide_eq_false (by have := HAO.out.2.1; omega)
    have e2 : decide (dirs.length ≤ dv) = false := decide_eq_false (by have := HAO.out.2.1; omega)
    have d5 : (0 : Int) ≤ (dv : Int) := by omega
    have d6 : (dv : Int) < (dirs.length : Int) := by have := HAO.out.2.1; omega
    have HJ := Aside0.mk (HAO.out.2.2 w3)
    rw [HNM.out.1] at HJ
    have HH3 := Aside0.mk (And.intro hh hk3)
    clear hh hk3 hb3 HAB HH hdl3 hde hdlt
    go_wp2_with fail
    refine HJ.out.mono ?_
    rintro e w31 ⟨rfl, hb3⟩
    have hh := HH3.out.1.below hb3
    have hk3 := HH3.out.2.trans (Kp.of_below hb3)
    have n0 : g < w31.heap.size := hh.lt
    clear HJ HH3 q20 qd d5 d6 e0 e1 e2
    have HU := Aside0.mk (uint_ok hh (v := mv) (n := mn) HA.out.2.1 (by have := HV.out.2.1; omega))
    have HK := Aside0.mk hk3
    clear hh hk3 hb3
    go_wp2_with fail
    refine HU.out.mono ?_
    rintro e w4 ⟨rfl, hh, hk⟩
    rw [adv_adv] at hh
    have hk4 := HK.out.trans hk
    have n0 : g < w4.heap.size := hh.lt
    have HU2 := Aside0.mk (uint_ok hh (v := lv) (n := ln) HA.out.2.2 (by have := HV.out.2.2; omega))
    have HK := Aside0.mk hk4
    clear hh hk hk4 HU
    go_wp2_with fail
    refine HU2.out.mono ?_
    rintro e w5 ⟨rfl, hh, hk⟩
    rw [adv_adv] at hh
    have hk5 := HK.out.trans hk
    have n0 : g < w5.heap.size := hh.lt
    have q21 : w5.cell? ⟨g, 21, none⟩ = some (.slice (some ⟨b, 0, none⟩) n cap) := hh.cell HR.out.1 rfl
    have f21 := hh.free 21
    have hF5 := HF.out.kp hk5 HG.out
    obtain ⟨x, qf⟩ : ∃ x : Addr, w5.cell? ⟨b, n, none⟩ = some (.pointer (some x)) := by
      obtain ⟨cs, e1, e2, e3, e4⟩ := hF5.at_
      obtain ⟨v, hv, hp⟩ := e3 n HN.out.1
      have : fs[n]'HN.out.1 = some f0 := by have := HN.out.2; rw [List.getElem?_eq_getElem HN.out.1] at this; exact Option.some.inj this
      rw [this] at hp
      obtain ⟨b', rfl, _⟩ := hp
      exact ⟨_, (blk_cell e1 n).trans hv⟩
    have n1 : b < w5.heap.size := World.block_lt_of_cell? w5 _ qf
    have HH5 := Aside0.mk (And.intro hh hk5)
    have r1 : (0 ≤ (n : Int)) = True := eq_true (by omega)
    have r2 : n + 1 ≤ cap := by have := HCAP.out; omega
    have wl := nat_i64 lv HV.out.2.2
    have wl' := nat_i64' lv HV.out.2.2
    clear hh hk hk5 HU2 hF5 HK
    go_wp2_with fail
    clear wl wl'
    go_quiet (fail)
    go_wp2_with fail
    have r3 : IntKind.i64.wrap ((n : Int) + 1) = (n : Int) + 1 := by rw [IntKind.wrap_i64]; omega
    have r4 : 0 ≤ (n : Int) + 1 := by omega
    have r5 : ((n : Int) + 1).toNat = n + 1 := by omega
    go_quiet (fail)
    clear r3 r5
    go_wp2_with fail
    go_ret2
    exact ⟨rfl, Has.st1 (HH5.out.1.drewN _) 21 (.slice (some ⟨b, 0, none⟩) (n + 1) cap) HR.out.2.1 HR.out.2.2 (fun a h7 => by rw [set14 h7]), (HH5.out.2.drewN _).set 21 _⟩

end Go.Proofs.YtdepfipebogdcaaDoor.Line

/- readFileEntry: a file that is added, where there is no room. -/
namespace Go.Proofs.YtdepfipebogdcaaDoor.Line
set_option maxRecDepth 100000
open Go.RowKit Go.Proofs.YtdepfipebogdcaaDoorW.PrintWords Go.Proofs.YtdepfipebogdcaaDoorW.PrintLast Go.Proofs.YtdepfipebogdcaaDoorW.PrintMore Go.Proofs.YtdepfipebogdcaaDoor.Leb Go.Proofs.YtdepfipebogdcaaDoor.Buf

theorem infoPF : (Tryd.prog.info? 90).map (fun i => (i.zero, i.size, i.bytes)) = some (some (.pointer none), 1, 8) := by kernel_rfl
theorem getElem?_zeros (n : Nat) : ∀ i, i < n → (Builtin.zeroCells #[Value.pointer none] n)[i]? = some (.pointer none) := by
  intro i hi
  have hs : (Builtin.zeroCells #[Value.pointer none] n).size = n := by rw [size_zeroCells]; simp
  rw [Array.getElem?_eq_getElem (by omega)]
  congr 1
  simp [Builtin.zeroCells, Nat.mod_one]

/-- An append whose run is known. -/
theorem wp_append_exact {P : Program} {W W1 : World} {ops : Array Oper} {rest : List Oper} {o : Oper} {a : Act} {Q : Exit → Act → World → Prop} {v sv xv : Value}
    (hg : o.guard = none) (s x : Operand) (t : TypeId) (hop : o.op = Op.call { callee := Callee.builtin Builtin.append, args := #[s, x], argTypes := #[t, t] }) (hs : a.eval s = sv) (hx : a.eval x = xv)
    (hrun : (Builtin.append_ #[t, t] o.type #[sv, xv]).run P W = .ok v W1) (h : wpList P ops Q rest (a.put o.dst v) W1) : wpList P ops Q (o :: rest) a W := by
  refine wpList_plain hg fun K hK' => ?_
  unfold Oper.wp
  simp [execOp, hop, resolve, invoke, builtin, hs, hx, hrun, Result.andThen]
  exact hK' _ _ h

/-- A pointer appended to a list that is full. -/
theorem append_full {w : World} {b n cap : Nat} {cs : Array Value} (hb : w.heap[b]? = some (.cells cs 90 (0, 0))) (hs : cs.size = n) (hc : cap = n) (hn : n < 4294967296) (o : Obj) (p : Value) :
    ∃ c, n + 1 ≤ c ∧ (Builtin.append_ #[89, 89] 89 #[.slice (some ⟨b, 0, none⟩) n cap, .slice (some ⟨w.heap.size + 1, 0, none⟩) 1 1]).run Tryd.prog ((w.alloc o).alloc (.cells #[p] 90)) = .ok (.slice (some ⟨w.heap.size + 2, 0, none⟩) (n + 1) c) (((w.alloc o).alloc (.cells #[p] 90)).drew.alloc (.cells (cs ++ #[p] ++ Builtin.zeroCells #[Value.pointer none] (c - (n + 1))) 90)) := by
  obtain ⟨i0, hi0, hz0, hz1, hz2⟩ := info_parts infoPF
  have hbW : ((w.alloc o).alloc (.cells #[p] 90)).heap[b]? = some (.cells cs 90 (0, 0)) := blk_alloc (blk_alloc hb _) _
  have hpW : ((w.alloc o).alloc (.cells #[p] 90)).heap[w.heap.size + 1]? = some (.cells #[p] 90 (0, 0)) := by
    have h := heap_alloc_new (w.alloc o) (.cells #[p] 90)
    rwa [World.size_alloc] at h
  have h := run_append_grow (P := Tryd.prog) ((w.alloc o).alloc (.cells #[p] 90)) 89 89 90 i0 (.pointer none) Tryd.underlying89 hi0 hz0 ⟨b, 0, none⟩ n cap cs.toList (by rw [hz1]; simp [hs])
    (fun j v hj => by rw [add_plain, blk_cell hbW]; simpa using hj) ⟨w.heap.size + 1, 0, none⟩ 1 1 [p] (by rw [hz1]; rfl) (fun j v hj => by rw [add_plain, blk_cell hpW]; simpa using hj) (by omega) (by omega)
    (by rw [hz2]; exact growslice_fits (by omega) (by omega))
  refine ⟨grownCap ((w.alloc o).alloc (.cells #[p] 90)) (n + 1) cap 90, grownCap_ge _ _ _ _, ?_⟩
  rw [h, World.size_alloc, World.size_alloc]
  rfl

/-- The list with a file more, in a new block. -/
theorem files_grown {w : World} {base b cap n nc : Nat} {fs : List (Option Fl)} {cs : Array Value} {f : Fl} (hF : FilesAt w base b cap fs) (hb : w.heap[b]? = some (.cells cs 90 (0, 0))) (hs : cs.size = n) (hl : fs.length = n) (hnc : n + 1 ≤ nc) {w9 : World}
    (h9 : w9 = ((w.alloc (.cells #[.string f.nm, .int .u64 f.mt, .int .i64 f.ln] 129)).alloc (.cells #[.pointer (some ⟨w.heap.size, 0, none⟩)] 90)).drew.alloc (.cells (cs ++ #[.pointer (some ⟨w.heap.size, 0, none⟩)] ++ Builtin.zeroCells #[Value.pointer none] (nc - (n + 1))) 90)) :
    FilesAt w9 base (w.heap.size + 2) nc (fs ++ [some f]) ∧ Below w.heap.size w w9 := by
  obtain ⟨⟨cs', e1, e2, e3, e4⟩, h5, h6⟩ := hF
  have hcs : cs' = cs := by
    rw [hb] at e1
    injection e1 with e1
    injection e1 with e1
    exact e1.symm
  subst hcs
  have hB : Below w.heap.size w w9 := by
    rw [h9]
    exact below_alloc (below_drew (below_alloc (below_alloc (Below.refl _ _) _) _)) _
  have hzs : (Builtin.zeroCells #[Value.pointer none] (nc - (n + 1))).size = nc - (n + 1) := by rw [size_zeroCells]; simp
  have hnew : w9.heap[w.heap.size + 2]? = some (.cells (cs' ++ #[.pointer (some ⟨w.heap.size, 0, none⟩)] ++ Builtin.zeroCells #[Value.pointer none] (nc - (n + 1))) 90 (0, 0)) := by
    rw [h9]
    have h := heap_alloc_new ((w.alloc (.cells #[.string f.nm, .int .u64 f.mt, .int .i64 f.ln] 129)).alloc (.cells #[.pointer (some ⟨w.heap.size, 0, none⟩)] 90)).drew (.cells (cs' ++ #[.pointer (some ⟨w.heap.size, 0, none⟩)] ++ Builtin.zeroCells #[Value.pointer none] (nc - (n + 1))) 90)
    have hsz : ((w.alloc (.cells #[.string f.nm, .int .u64 f.mt, .int .i64 f.ln] 129)).alloc (.cells #[.pointer (some ⟨w.heap.size, 0, none⟩)] 90)).drew.heap.size = w.heap.size + 2 := by
      show ((w.alloc _).alloc _).heap.size = _
      simp
    rwa [hsz] at h
  have hfile : w9.heap[w.heap.size]? = some (.cells #[.string f.nm, .int .u64 f.mt, .int .i64 f.ln] 129 (0, 0)) := by
    rw [h9]
    exact blk_alloc (w := ((w.alloc _).alloc _).drew) (blk_alloc (heap_alloc_new w _) _) _
  have hbl := blk_lt hb
  refine ⟨⟨⟨_, hnew, by simp [hzs]; omega, fun i hi => ?_, fun i h1 h2 => ?_⟩, by omega, by simp; omega⟩, hB⟩
  · by_cases hin : i < fs.length
    · obtain ⟨v, hv, hp⟩ := e3 i hin
      refine ⟨v, ?_, ?_⟩
      · rw [Array.append_assoc, Array.getElem?_append_left (by omega)]
        exact hv
      · rw [List.getElem_append_left hin]
        exact hp.keep fun b' cs2 _ hb2 => hB.block b' (blk_lt hb2)
    · have hi2 : i = n := by simp at hi; omega
      subst hi2
      refine ⟨.pointer (some ⟨w.heap.size, 0, none⟩), ?_, ?_⟩
      · rw [Array.append_assoc, Array.getElem?_append_right (by omega), hs, Nat.sub_self, Array.getElem?_append_left (by simp)]
        rfl
      · have hfi : (fs ++ [some f])[i] = some f := by rw [List.getElem_append_right (by omega)]; simp [hl]
        rw [hfi]
        exact ⟨w.heap.size, rfl, by omega, hfile⟩
  · have h1' : fs.length + 1 ≤ i := by simpa using h1
    have hsz2 : (cs' ++ #[Value.pointer (some ⟨w.heap.size, 0, none⟩)]).size = n + 1 := by simp [hs]
    rw [Array.getElem?_append_right (by omega), hsz2]
    exact getElem?_zeros _ _ (by omega)
set_option maxHeartbeats 1000000 in
theorem rfe_grow {w : World} {g t b cap n base i dv dn mv mn lv ln : Nat} {R : Array Value} {c : BC} {S0 : S} {fs : List (Option Fl)} (hH : Has w g t R c S0) (ht : t = 94) (hok : S0.ok = true) (hR : R[14]? = some (.slice (some ⟨b, 0, none⟩) n cap)) (hby : R.all (fun v => !isByte v) = true) (hcb : isByte c.d = false ∧ isByte c.f = false) (hF : FilesAt w base b cap fs) {dirs : List ByteArray} {dirv : Value} {rn : ByteArray} (hR13 : R[13]? = some dirv) (hdl : Lies w 9 Kd.string dirv dirs)
    (hz : Buf.zeroAt S0.l = some i) (hi : 0 < i) (hd : uread (S0.l.drop (i + 1)) = some (dv, dn)) (hdv : dv < 9223372036854775808) (hab : NameOk dirs (strOfNums (S0.l.take i)) dv rn) (hm : uread (S0.l.drop (i + 1 + dn)) = some (mv, mn)) (hmv : mv < 9223372036854775808) (hl : uread (S0.l.drop (i + 1 + dn + mn)) = some (lv, ln)) (hlv : lv < 9223372036854775808) (hn : fs.length = n) (hcap : n = cap) (hnb : n < 4294967296) :
    Calls Tryd.prog 46 #[.pointer (some ⟨g, 0, none⟩)] w fun e w' => e = .returned (.tuple #[.bool false, .nilIface]) ∧ ∃ b' cap', Has w' g 94 (R.setIfInBounds 14 (.slice (some ⟨b', 0, none⟩) (n + 1) cap')) c (S0.adv (i + 1 + dn + mn + ln)) ∧ FilesAt w' base b' cap' (fs ++ [some ⟨rn, mv, lv⟩]) ∧ Kp w w' g := by
  subst ht
  obtain ⟨nm, hnm⟩ : ∃ nm, strOfNums (S0.l.take i) = nm := ⟨_, rfl⟩
  have hil : i < S0.l.length := zeroAt_lt hz
  have hsz : nm.size = i := by rw [← hnm, size_strOfNums, List.length_take]; omega
  obtain ⟨N, hN⟩ : ∃ N, nm.size = N := ⟨_, rfl⟩
  have hN0 : 0 < N := by omega
  have c0 : ((N : Int) == 0) = false := by simp; omega
  have c1 : decide ((N : Int) = 0) = false := by simp; omega
  have HS := Aside0.mk (string_has hH hok hz)
  have HNM := Aside0.mk (And.intro hnm hN)
  have HA := Aside0.mk (And.intro hd (And.intro hm hl))
  have HD := Aside0.mk (And.intro hR13 hdl)
  have HR := Aside0.mk (And.intro hR (And.intro hby hcb))
  have HOK := Aside0.mk hok
  have HF := Aside0.mk hF
  have HV := Aside0.mk (And.intro hdv (And.intro hmv hlv))
  have HG := Aside0.mk hH.blk
  have HN := Aside0.mk (And.intro hn hcap)
  have HNB := Aside0.mk hnb
  have cc : decide ((n : Int) < (cap : Int)) = false := by simp; omega
  have cc2 : decide (n < cap) = false := decide_eq_false (by omega)
  clear hH hok hR hby hcb hF hz hi hd hm hl hil hsz hdv hmv hlv hN0 hR13 hdl hn hnb hcap
  rcases hab with ⟨hrn, hab⟩ | ⟨hno, hdd, hjo⟩
  · have hrn2 : rn = nm := hrn.trans hnm
    subst hrn2
    have HAO := Aside0.mk hab
    clear hrn hab hnm
    go_enter Tryd.func46, Tryd.ntmps46
    go_wp2_with fail
    refine HS.out.mono ?_
    rw [HNM.out.1]
    rintro e w1 ⟨rfl, hh, hk⟩
    have n0 : g < w1.heap.size := hh.lt
    have q6 : w1.cell? ⟨g, 6, none⟩ = some .nilIface := hh.noerr HOK.out
    obtain ⟨_, _, _, _, _, q4, _⟩ := hh.parts
    have HU := Aside0.mk (uint_ok hh (v := dv) (n := dn) HA.out.1 (by have := HV.out.1; omega))
    have HK := Aside0.mk hk
    clear hh hk HS
    go_wp2_with fail
    refine HU.out.mono ?_
    rintro e w2 ⟨rfl, hh, hk⟩
    rw [adv_adv] at hh
    have hk2 := HK.out.trans hk
    have n0 : g < w2.heap.size := hh.lt
    have HH := Aside0.mk (And.intro hh hk2)
    have HAB := Aside0.mk (HAO.out w2)
    rw [HNM.out.1] at HAB
    have wd := nat_i64 dv HV.out.1
    have wd' := nat_i64' dv HV.out.1
    clear hh hk hk2 HU q4 q6
    go_wp2_with fail
    clear wd wd'
    refine HAB.out.mono ?_
    rintro e w3 ⟨rfl, hb3⟩
    have hh := HH.out.1.below hb3
    have hk3 := HH.out.2.trans (Kp.of_below hb3)
    have n0 : g < w3.heap.size := hh.lt
    have HU := Aside0.mk (uint_ok hh (v := mv) (n := mn) HA.out.2.1 (by have := HV.out.2.1; omega))
    have HK := Aside0.mk hk3
    clear hh hk3 hb3 HAB HH
    go_wp2_with fail
    refine HU.out.mono ?_
    rintro e w4 ⟨rfl, hh, hk⟩
    rw [adv_adv] at hh
    have hk4 := HK.out.trans hk
    have n0 : g < w4.heap.size := hh.lt
    have HU2 := Aside0.mk (uint_ok hh (v := lv) (n := ln) HA.out.2.2 (by have := HV.out.2.2; omega))
    have HK := Aside0.mk hk4
    clear hh hk hk4 HU
    go_wp2_with fail
    refine HU2.out.mono ?_
    rintro e w5 ⟨rfl, hh, hk⟩
    rw [adv_adv] at hh
    have hk5 := HK.out.trans hk
    have n0 : g < w5.heap.size := hh.lt
    have q21 : w5.cell? ⟨g, 21, none⟩ = some (.slice (some ⟨b, 0, none⟩) n cap) := hh.cell HR.out.1 rfl
    have f21 := hh.free 21
    have hF5 := HF.out.kp hk5 HG.out
    obtain ⟨cs, e1, e2, e3, e4⟩ := hF5.at_
    have n1 : b < w5.heap.size := blk_lt e1
    have HH5 := Aside0.mk (And.intro hh (And.intro hk5 (And.intro hF5 (And.intro e1 (And.intro e2 e3)))))
    have wl := nat_i64 lv HV.out.2.2
    have wl' := nat_i64' lv HV.out.2.2
    clear hh hk hk5 HU2 hF5 HK e1 e2 e3 e4
    go_wp2_with fail
    clear wl wl'
    go_quiet (fail)
    have H6 : Aside0 (Has (w5.drewN nq) g 94 R c (S0.adv (i + 1 + dn + mn + ln)) ∧ Kp w (w5.drewN nq) g ∧ FilesAt w5 base b cap fs ∧ (w5.drewN nq).heap[b]? = some (.cells cs 90 (0, 0))) := ⟨HH5.out.1.drewN nq, HH5.out.2.1.drewN nq, HH5.out.2.2.1, HH5.out.2.2.2.1⟩
    have H7 := Aside0.mk (HH5.out.2.2.1.kp ((Kp.refl w5 g).drewN nq) HH5.out.1.blk)
    revert H6 H7
    clear q21 f21 n1 n0
    generalize w5.drewN nq = w6
    intro H6 H7
    have n0 : g < w6.heap.size := H6.out.1.lt
    have n1 : b < w6.heap.size := blk_lt H6.out.2.2.2
    have q21 : w6.cell? ⟨g, 21, none⟩ = some (.slice (some ⟨b, 0, none⟩) n cap) := H6.out.1.cell HR.out.1 rfl
    have f21 := H6.out.1.free 21
    obtain ⟨nc, hnc, hrun⟩ := append_full H6.out.2.2.2 (HH5.out.2.2.2.2.1.trans HN.out.2.symm) HN.out.2.symm HNB.out (.cells #[.string rn, .int .u64 (mv : Int), .int .i64 (lv : Int)] 129) (.pointer (some ⟨w6.heap.size, 0, none⟩))
    have HRUN := Aside0.mk hrun
    have HNC := Aside0.mk hnc
    have H9 : Aside0 (∀ W, W = ((w6.alloc (.cells #[.string rn, .int .u64 (mv : Int), .int .i64 (lv : Int)] 129)).alloc (.cells #[.pointer (some ⟨w6.heap.size, 0, none⟩)] 90)).drew.alloc (.cells (cs ++ #[.pointer (some ⟨w6.heap.size, 0, none⟩)] ++ Builtin.zeroCells #[Value.pointer none] (nc - (n + 1))) 90) →
        Has W g 94 R c (S0.adv (i + 1 + dn + mn + ln)) ∧ Kp w W g ∧ FilesAt W base (w6.heap.size + 2) nc (fs ++ [some ⟨rn, mv, lv⟩])) := ⟨fun W hW => by
      obtain ⟨hf9, hb9⟩ := files_grown (f := ⟨rn, mv, lv⟩) H7.out H6.out.2.2.2 (HH5.out.2.2.2.2.1.trans HN.out.2.symm) HN.out.1 hnc hW
      exact ⟨H6.out.1.below hb9, H6.out.2.1.trans (Kp.of_below hb9), hf9⟩⟩
    obtain ⟨w9, h9⟩ : ∃ W, W = ((w6.alloc (.cells #[.string rn, .int .u64 (mv : Int), .int .i64 (lv : Int)] 129)).alloc (.cells #[.pointer (some ⟨w6.heap.size, 0, none⟩)] 90)).drew.alloc (.cells (cs ++ #[.pointer (some ⟨w6.heap.size, 0, none⟩)] ++ Builtin.zeroCells #[Value.pointer none] (nc - (n + 1))) 90) := ⟨_, rfl⟩
    have H9 := Aside0.mk (H9.out w9 h9)
    rw [← h9] at HRUN
    clear hrun hnc HH5 h9 H7
    have n9 : g < w9.heap.size := H9.out.1.lt
    have q9 : w9.cell? ⟨g, 21, none⟩ = some (.slice (some ⟨b, 0, none⟩) n cap) := H9.out.1.cell HR.out.1 rfl
    have f9 := H9.out.1.free 21
    go_wp2_with (at_builtin; refine wp_append_exact rfl _ _ 89 rfl rfl rfl HRUN.out ?_)
    go_ret2
    exact ⟨rfl, w6.heap.size + 2, nc, H9.out.1.st1 21 _ HR.out.2.1 HR.out.2.2 (fun a h7 => by rw [set14 h7]), H9.out.2.2.kp ((Kp.refl w9 g).set 21 _) H9.out.1.blk, H9.out.2.1.set 21 _⟩
  · have HAO := Aside0.mk (And.intro hno (And.intro hdd hjo))
    clear hno hdd hjo hnm
    go_enter Tryd.func46, Tryd.ntmps46
    go_wp2_with fail
    refine HS.out.mono ?_
    rw [HNM.out.1]
    rintro e w1 ⟨rfl, hh, hk⟩
    have n0 : g < w1.heap.size := hh.lt
    have q6 : w1.cell? ⟨g, 6, none⟩ = some .nilIface := hh.noerr HOK.out
    obtain ⟨_, _, _, _, _, q4, _⟩ := hh.parts
    have HU := Aside0.mk (uint_ok hh (v := dv) (n := dn) HA.out.1 (by have := HV.out.1; omega))
    have HK := Aside0.mk hk
    clear hh hk HS
    go_wp2_with fail
    refine HU.out.mono ?_
    rintro e w2 ⟨rfl, hh, hk⟩
    rw [adv_adv] at hh
    have hk2 := HK.out.trans hk
    have n0 : g < w2.heap.size := hh.lt
    have HH := Aside0.mk (And.intro hh hk2)
    have HAB := Aside0.mk (HAO.out.1 w2)
    rw [HNM.out.1] at HAB
    have wd := nat_i64 dv HV.out.1
    have wd' := nat_i64' dv HV.out.1
    clear hh hk hk2 HU q4 q6
    go_wp2_with fail
    clear wd wd'
    refine HAB.out.mono ?_
    rintro e w3 ⟨rfl, hb3⟩
    have hh := HH.out.1.below hb3
    have hk3 := HH.out.2.trans (Kp.of_below hb3)
    have n0 : g < w3.heap.size := hh.lt
    have hdl3 := lies_kp HD.out.2 hk3 HG.out
    obtain ⟨dad, dcap, hde, hdlt, qd⟩ := lies_at hdl3 HAO.out.2.1
    have q20 : w3.cell? ⟨g, 20, none⟩ = some (.slice (some dad) dirs.length dcap) := by
      rw [← hde]
      exact hh.cell HD.out.1 rfl
    have e0 : decide ((dv : Int) ≥ (dirs.length : Int)) = false := decide_eq_false (by have := HAO.out.2.1; omega)
    have e1 : decide ((dirs.length : Int) ≤ (dv : Int)) = false := decide_eq_false (by have := HAO.out.2.1; omega)
    have e2 : decide (dirs.length ≤ dv) = false := decide_eq_false (by have := HAO.out.2.1; omega)
    have d5 : (0 : Int) ≤ (dv : Int) := by omega
    have d6 : (dv : Int) < (dirs.length : Int) := by have := HAO.out.2.1; omega
    have HJ := Aside0.mk (HAO.out.2.2 w3)
    rw [HNM.out.1] at HJ
    have HH3 := Aside0.mk (And.intro hh hk3)
    clear hh hk3 hb3 HAB HH hdl3 hde hdlt
    go_wp2_with fail
    refine HJ.out.mono ?_
    rintro e w31 ⟨rfl, hb3⟩
    have hh := HH3.out.1.below hb3
    have hk3 := HH3.out.2.trans (Kp.of_below hb3)
    have n0 : g < w31.heap.size := hh.lt
    clear HJ HH3 q20 qd d5 d6 e0 e1 e2
    have HU := Aside0.mk (uint_ok hh (v := mv) (n := mn) HA.out.2.1 (by have := HV.out.2.1; omega))
    have HK := Aside0.mk hk3
    clear hh hk3 hb3
    go_wp2_with fail
    refine HU.out.mono ?_
    rintro e w4 ⟨rfl, hh, hk⟩
    rw [adv_adv] at hh
    have hk4 := HK.out.trans hk
    have n0 : g < w4.heap.size := hh.lt
    have HU2 := Aside0.mk (uint_ok hh (v := lv) (n := ln) HA.out.2.2 (by have := HV.out.2.2; omega))
    have HK := Aside0.mk hk4
    clear hh hk hk4 HU
    go_wp2_with fail
    refine HU2.out.mono ?_
    rintro e w5 ⟨rfl, hh, hk⟩
    rw [adv_adv] at hh
    have hk5 := HK.out.trans hk
    have n0 : g < w5.heap.size := hh.lt
    have q21 : w5.cell? ⟨g, 21, none⟩ = some (.slice (some ⟨b, 0, none⟩) n cap) := hh.cell HR.out.1 rfl
    have f21 := hh.free 21
    have hF5 := HF.out.kp hk5 HG.out
    obtain ⟨cs, e1, e2, e3, e4⟩ := hF5.at_
    have n1 : b < w5.heap.size := blk_lt e1
    have HH5 := Aside0.mk (And.intro hh (And.intro hk5 (And.intro hF5 (And.intro e1 (And.intro e2 e3)))))
    have wl := nat_i64 lv HV.out.2.2
    have wl' := nat_i64' lv HV.out.2.2
    clear hh hk hk5 HU2 hF5 HK e1 e2 e3 e4
    go_wp2_with fail
    clear wl wl'
    go_quiet (fail)
    have H6 : Aside0 (Has (w5.drewN nq) g 94 R c (S0.adv (i + 1 + dn + mn + ln)) ∧ Kp w (w5.drewN nq) g ∧ FilesAt w5 base b cap fs ∧ (w5.drewN nq).heap[b]? = some (.cells cs 90 (0, 0))) := ⟨HH5.out.1.drewN nq, HH5.out.2.1.drewN nq, HH5.out.2.2.1, HH5.out.2.2.2.1⟩
    have H7 := Aside0.mk (HH5.out.2.2.1.kp ((Kp.refl w5 g).drewN nq) HH5.out.1.blk)
    revert H6 H7
    clear q21 f21 n1 n0
    generalize w5.drewN nq = w6
    intro H6 H7
    have n0 : g < w6.heap.size := H6.out.1.lt
    have n1 : b < w6.heap.size := blk_lt H6.out.2.2.2
    have q21 : w6.cell? ⟨g, 21, none⟩ = some (.slice (some ⟨b, 0, none⟩) n cap) := H6.out.1.cell HR.out.1 rfl
    have f21 := H6.out.1.free 21
    obtain ⟨nc, hnc, hrun⟩ := append_full H6.out.2.2.2 (HH5.out.2.2.2.2.1.trans HN.out.2.symm) HN.out.2.symm HNB.out (.cells #[.string rn, .int .u64 (mv : Int), .int .i64 (lv : Int)] 129) (.pointer (some ⟨w6.heap.size, 0, none⟩))
    have HRUN := Aside0.mk hrun
    have HNC := Aside0.mk hnc
    have H9 : Aside0 (∀ W, W = ((w6.alloc (.cells #[.string rn, .int .u64 (mv : Int), .int .i64 (lv : Int)] 129)).alloc (.cells #[.pointer (some ⟨w6.heap.size, 0, none⟩)] 90)).drew.alloc (.cells (cs ++ #[.pointer (some ⟨w6.heap.size, 0, none⟩)] ++ Builtin.zeroCells #[Value.pointer none] (nc - (n + 1))) 90) →
        Has W g 94 R c (S0.adv (i + 1 + dn + mn + ln)) ∧ Kp w W g ∧ FilesAt W base (w6.heap.size + 2) nc (fs ++ [some ⟨rn, mv, lv⟩])) := ⟨fun W hW => by
      obtain ⟨hf9, hb9⟩ := files_grown (f := ⟨rn, mv, lv⟩) H7.out H6.out.2.2.2 (HH5.out.2.2.2.2.1.trans HN.out.2.symm) HN.out.1 hnc hW
      exact ⟨H6.out.1.below hb9, H6.out.2.1.trans (Kp.of_below hb9), hf9⟩⟩
    obtain ⟨w9, h9⟩ : ∃ W, W = ((w6.alloc (.cells #[.string rn, .int .u64 (mv : Int), .int .i64 (lv : Int)] 129)).alloc (.cells #[.pointer (some ⟨w6.heap.size, 0, none⟩)] 90)).drew.alloc (.cells (cs ++ #[.pointer (some ⟨w6.heap.size, 0, none⟩)] ++ Builtin.zeroCells #[Value.pointer none] (nc - (n + 1))) 90) := ⟨_, rfl⟩
    have H9 := Aside0.mk (H9.out w9 h9)
    rw [← h9] at HRUN
    clear hrun hnc HH5 h9 H7
    have n9 : g < w9.heap.size := H9.out.1.lt
    have q9 : w9.cell? ⟨g, 21, none⟩ = some (.slice (some ⟨b, 0, none⟩) n cap) := H9.out.1.cell HR.out.1 rfl
    have f9 := H9.out.1.free 21
    go_wp2_with (at_builtin; refine wp_append_exact rfl _ _ 89 rfl rfl rfl HRUN.out ?_)
    go_ret2
    exact ⟨rfl, w6.heap.size + 2, nc, H9.out.1.st1 21 _ HR.out.2.1 HR.out.2.2 (fun a h7 => by rw [set14 h7]), H9.out.2.2.kp ((Kp.refl w9 g).set 21 _) H9.out.1.blk, H9.out.2.1.set 21 _⟩

end Go.Proofs.YtdepfipebogdcaaDoor.Line

/- readFileEntry: a file that is added, where there is room. -/
namespace Go.Proofs.YtdepfipebogdcaaDoor.Line
set_option maxRecDepth 100000
open Go.RowKit Go.Proofs.YtdepfipebogdcaaDoorW.PrintWords Go.Proofs.YtdepfipebogdcaaDoorW.PrintLast Go.Proofs.YtdepfipebogdcaaDoorW.PrintMore Go.Proofs.YtdepfipebogdcaaDoor.Leb Go.Proofs.YtdepfipebogdcaaDoor.Buf

/-- A pointer appended where there is room. -/
theorem append_room {w : World} {b n cap : Nat} {cs : Array Value} (hb : w.heap[b]? = some (.cells cs 90 (0, 0))) (hs : cs.size = cap) (hc : n < cap) (o : Obj) (x : Option Addr) :
    (Builtin.append_ #[89, 89] 89 #[.slice (some ⟨b, 0, none⟩) n cap, .slice (some ⟨w.heap.size + 1, 0, none⟩) 1 1]).run Tryd.prog ((w.alloc o).alloc (.cells #[.pointer x] 90)) = .ok (.slice (some ⟨b, 0, none⟩) (n + 1) cap) (((w.alloc o).alloc (.cells #[.pointer x] 90)).setCell ⟨b, n, none⟩ (.pointer x)) := by
  obtain ⟨i0, hi0, hz0, hz1, hz2⟩ := info_parts infoPF
  have hbW : ((w.alloc o).alloc (.cells #[.pointer x] 90)).heap[b]? = some (.cells cs 90 (0, 0)) := blk_alloc (blk_alloc hb _) _
  have hpW : ((w.alloc o).alloc (.cells #[.pointer x] 90)).heap[w.heap.size + 1]? = some (.cells #[.pointer x] 90 (0, 0)) := by
    have h := heap_alloc_new (w.alloc o) (.cells #[.pointer x] 90)
    rwa [World.size_alloc] at h
  have h := run_append_room_cells (P := Tryd.prog) ((w.alloc o).alloc (.cells #[.pointer x] 90)) 89 89 90 i0 Tryd.underlying89 hi0 b 0 n cap ⟨w.heap.size + 1, 0, none⟩ 1 1 [.pointer x] (by rw [hz1]; rfl) (fun j v hj => by rw [add_plain, blk_cell hpW]; simpa using hj) (by simp [Value.oneCell']) (by omega)
    (fun j hj => by
      have : j = 0 := by simpa using hj
      subst this
      rw [hz1, blk_cell hbW, Array.getElem?_eq_getElem (by omega)]
      rfl) (fun j hj => blk_frozen hbW _)
  rw [h, hz1]
  simp [World.setCells]
/-- What stands behind the files that were ever known. -/
theorem FilesAt.next {w : World} {base b cap n : Nat} {fs : List (Option Fl)} (h : FilesAt w base b cap fs) (h1 : fs.length ≤ n) (h2 : n < cap) : w.cell? ⟨b, n, none⟩ = some (.pointer none) := by
  obtain ⟨cs, e1, e2, e3, e4⟩ := h.at_
  exact (blk_cell e1 n).trans (e4 n h1 h2)
theorem ptrs_nb {w : World} {base b cap : Nat} {fs : List (Option Fl)} {cs : Array Value} (h : FilesAt w base b cap fs) (e : w.heap[b]? = some (.cells cs 90 (0, 0))) : cs.all (fun v => !isByte v) = true := by
  obtain ⟨cs', e1, e2, e3, e4⟩ := h.at_
  rw [e] at e1
  injection e1 with e1
  injection e1 with e1
  subst e1
  rw [Array.all_eq_true']
  intro v hv
  obtain ⟨i, hi, rfl⟩ := Array.mem_iff_getElem.1 hv
  by_cases hl : i < fs.length
  · obtain ⟨v, hv2, hp⟩ := e3 i hl
    rw [Array.getElem?_eq_getElem hi] at hv2
    obtain ⟨x, hx⟩ := hp.ptr
    rw [Option.some.inj hv2, hx]
    rfl
  · have h4 := e4 i (by omega) (by omega)
    rw [Array.getElem?_eq_getElem hi] at h4
    rw [Option.some.inj h4]
    rfl
theorem Kx.of_put {w w9 : World} {base b g : Nat} {cs : Array Value} (h : (∀ k, k < w.heap.size → k ≠ b → w9.heap[k]? = w.heap[k]?) ∧ w.heap.size ≤ w9.heap.size ∧ w9.os = w.os ∧ w9.tape = w.tape ∧ w9.output = w.output) (hb : w.heap[b]? = some (.cells cs 90 (0, 0))) (hbase : base ≤ b) : Kx w w9 base g g :=
  ⟨h.2.2.1, h.2.2.2.1, h.2.2.2.2, h.2.1, fun k hk ho => h.1 k hk (fun e => ho (.inr (.inr ⟨e ▸ hbase, cs, (0, 0), e ▸ hb⟩)))⟩
/-- The list with a file more, in its own block. -/
theorem files_put {w : World} {base b cap n : Nat} {fs : List (Option Fl)} {f : Fl} (hF : FilesAt w base b cap fs) (hbase : base ≤ w.heap.size) (hl : fs.length = n) (hc : n < cap) {w9 : World}
    (h9 : w9 = ((w.alloc (.cells #[.string f.nm, .int .u64 f.mt, .int .i64 f.ln] 129)).alloc (.cells #[.pointer (some ⟨w.heap.size, 0, none⟩)] 90)).setCell ⟨b, n, none⟩ (.pointer (some ⟨w.heap.size, 0, none⟩))) :
    FilesAt w9 base b cap (fs ++ [some f]) ∧ (∀ k, k < w.heap.size → k ≠ b → w9.heap[k]? = w.heap[k]?) ∧ w.heap.size ≤ w9.heap.size ∧ w9.os = w.os ∧ w9.tape = w.tape ∧ w9.output = w.output := by
  obtain ⟨⟨cs, e1, e2, e3, e4⟩, h5, h6⟩ := hF
  have hk : ∀ k, k < w.heap.size → k ≠ b → w9.heap[k]? = w.heap[k]? := fun k hk hne => by
    rw [h9]
    exact ((Below.heap_setCell _ ⟨b, n, none⟩ _ k hne)).trans ((below_alloc (below_alloc (Below.refl _ _) _) _).block k hk)
  have hnew : w9.heap[b]? = some (.cells (cs.setIfInBounds n (.pointer (some ⟨w.heap.size, 0, none⟩))) 90 (0, 0)) := by
    rw [h9]
    exact blk_set (blk_alloc (blk_alloc e1 _) _) n _
  have hbl := blk_lt e1
  have hfile : w9.heap[w.heap.size]? = some (.cells #[.string f.nm, .int .u64 f.mt, .int .i64 f.ln] 129 (0, 0)) := by
    rw [h9]
    exact (Below.heap_setCell _ ⟨b, n, none⟩ _ w.heap.size (by show w.heap.size ≠ b; omega)).trans (blk_alloc (heap_alloc_new w _) _)
  refine ⟨⟨⟨_, hnew, by simp [e2], fun i hi => ?_, fun i h1 h2 => ?_⟩, h5, by simp; omega⟩, hk, by rw [h9]; simp; omega, by rw [h9]; rfl, by rw [h9]; rfl, by rw [h9]; rfl⟩
  · by_cases hin : i < fs.length
    · obtain ⟨v, hv, hp⟩ := e3 i hin
      refine ⟨v, ?_, ?_⟩
      · rw [Array.getElem?_setIfInBounds_ne (by omega)]
        exact hv
      · rw [List.getElem_append_left hin]
        exact hp.keep fun b' cs2 _ hb2 => hk b' (blk_lt hb2) (fun e => by
          rw [e, e1] at hb2
          injection hb2 with hb2
          injection hb2 with _ hb2
          exact absurd hb2 (by decide))
    · have hi2 : i = n := by simp at hi; omega
      subst hi2
      refine ⟨.pointer (some ⟨w.heap.size, 0, none⟩), by rw [Array.getElem?_setIfInBounds_self_of_lt (by omega)], ?_⟩
      have hfi : (fs ++ [some f])[i] = some f := by rw [List.getElem_append_right (by omega)]; simp [hl]
      rw [hfi]
      exact ⟨w.heap.size, rfl, hbase, hfile⟩
  · have h1' : fs.length + 1 ≤ i := by simpa using h1
    rw [Array.getElem?_setIfInBounds_ne (by omega)]
    exact e4 i (by omega) h2

set_option maxHeartbeats 1000000 in
theorem rfe_room {w : World} {g t b cap n base i dv dn mv mn lv ln : Nat} {R : Array Value} {c : BC} {S0 : S} {fs : List (Option Fl)} (hH : Has w g t R c S0) (ht : t = 94) (hok : S0.ok = true) (hR : R[14]? = some (.slice (some ⟨b, 0, none⟩) n cap)) (hby : R.all (fun v => !isByte v) = true) (hcb : isByte c.d = false ∧ isByte c.f = false) (hF : FilesAt w base b cap fs) {dirs : List ByteArray} {dirv : Value} {rn : ByteArray} (hR13 : R[13]? = some dirv) (hdl : Lies w 9 Kd.string dirv dirs)
    (hz : Buf.zeroAt S0.l = some i) (hi : 0 < i) (hd : uread (S0.l.drop (i + 1)) = some (dv, dn)) (hdv : dv < 9223372036854775808) (hab : NameOk dirs (strOfNums (S0.l.take i)) dv rn) (hm : uread (S0.l.drop (i + 1 + dn)) = some (mv, mn)) (hmv : mv < 9223372036854775808) (hl : uread (S0.l.drop (i + 1 + dn + mn)) = some (lv, ln)) (hlv : lv < 9223372036854775808) (hn : fs.length = n) (hcap : n < cap) (hnb : n < 140737488355328) :
    Calls Tryd.prog 46 #[.pointer (some ⟨g, 0, none⟩)] w fun e w' => e = .returned (.tuple #[.bool false, .nilIface]) ∧ Has w' g 94 (R.setIfInBounds 14 (.slice (some ⟨b, 0, none⟩) (n + 1) cap)) c (S0.adv (i + 1 + dn + mn + ln)) ∧ FilesAt w' base b cap (fs ++ [some ⟨rn, mv, lv⟩]) ∧ Kx w w' base g g := by
  subst ht
  obtain ⟨nm, hnm⟩ : ∃ nm, strOfNums (S0.l.take i) = nm := ⟨_, rfl⟩
  have hil : i < S0.l.length := zeroAt_lt hz
  have hsz : nm.size = i := by rw [← hnm, size_strOfNums, List.length_take]; omega
  obtain ⟨N, hN⟩ : ∃ N, nm.size = N := ⟨_, rfl⟩
  have hN0 : 0 < N := by omega
  have c0 : ((N : Int) == 0) = false := by simp; omega
  have c1 : decide ((N : Int) = 0) = false := by simp; omega
  have HS := Aside0.mk (string_has hH hok hz)
  have HNM := Aside0.mk (And.intro hnm hN)
  have HA := Aside0.mk (And.intro hd (And.intro hm hl))
  have HD := Aside0.mk (And.intro hR13 hdl)
  have HR := Aside0.mk (And.intro hR (And.intro hby hcb))
  have HOK := Aside0.mk hok
  have HF := Aside0.mk hF
  have HV := Aside0.mk (And.intro hdv (And.intro hmv hlv))
  have HG := Aside0.mk hH.blk
  have HN := Aside0.mk (And.intro hn hcap)
  have cc : decide ((n : Int) < (cap : Int)) = true := by simpa using hcap
  clear hH hok hR hby hcb hF hz hi hd hm hl hil hsz hdv hmv hlv hN0 hR13 hdl hn hcap
  rcases hab with ⟨hrn, hab⟩ | ⟨hno, hdd, hjo⟩
  · have hrn2 : rn = nm := hrn.trans hnm
    subst hrn2
    have HAO := Aside0.mk hab
    clear hrn hab hnm
    go_enter Tryd.func46, Tryd.ntmps46
    go_wp2_with fail
    refine HS.out.mono ?_
    rw [HNM.out.1]
    rintro e w1 ⟨rfl, hh, hk⟩
    have n0 : g < w1.heap.size := hh.lt
    have q6 : w1.cell? ⟨g, 6, none⟩ = some .nilIface := hh.noerr HOK.out
    obtain ⟨_, _, _, _, _, q4, _⟩ := hh.parts
    have HU := Aside0.mk (uint_ok hh (v := dv) (n := dn) HA.out.1 (by have := HV.out.1; omega))
    have HK := Aside0.mk hk
    clear hh hk HS
    go_wp2_with fail
    refine HU.out.mono ?_
    rintro e w2 ⟨rfl, hh, hk⟩
    rw [adv_adv] at hh
    have hk2 := HK.out.trans hk
    have n0 : g < w2.heap.size := hh.lt
    have HH := Aside0.mk (And.intro hh hk2)
    have HAB := Aside0.mk (HAO.out w2)
    rw [HNM.out.1] at HAB
    have wd := nat_i64 dv HV.out.1
    have wd' := nat_i64' dv HV.out.1
    clear hh hk hk2 HU q4 q6
    go_wp2_with fail
    clear wd wd'
    refine HAB.out.mono ?_
    rintro e w3 ⟨rfl, hb3⟩
    have hh := HH.out.1.below hb3
    have hk3 := HH.out.2.trans (Kp.of_below hb3)
    have n0 : g < w3.heap.size := hh.lt
    have HU := Aside0.mk (uint_ok hh (v := mv) (n := mn) HA.out.2.1 (by have := HV.out.2.1; omega))
    have HK := Aside0.mk hk3
    clear hh hk3 hb3 HAB HH
    go_wp2_with fail
    refine HU.out.mono ?_
    rintro e w4 ⟨rfl, hh, hk⟩
    rw [adv_adv] at hh
    have hk4 := HK.out.trans hk
    have n0 : g < w4.heap.size := hh.lt
    have HU2 := Aside0.mk (uint_ok hh (v := lv) (n := ln) HA.out.2.2 (by have := HV.out.2.2; omega))
    have HK := Aside0.mk hk4
    clear hh hk hk4 HU
    go_wp2_with fail
    refine HU2.out.mono ?_
    rintro e w5 ⟨rfl, hh, hk⟩
    rw [adv_adv] at hh
    have hk5 := HK.out.trans hk
    have n0 : g < w5.heap.size := hh.lt
    have q21 : w5.cell? ⟨g, 21, none⟩ = some (.slice (some ⟨b, 0, none⟩) n cap) := hh.cell HR.out.1 rfl
    have f21 := hh.free 21
    have hF5 := HF.out.kp hk5 HG.out
    have H5 := Aside0.mk (And.intro hh (And.intro hk5 hF5))
    have qf : w5.cell? ⟨b, n, none⟩ = some (.pointer none) := hF5.next (by have := HN.out.1; omega) HN.out.2
    have n1 : b < w5.heap.size := World.block_lt_of_cell? w5 _ qf
    have r1 : (0 ≤ (n : Int)) = True := eq_true (by omega)
    have r2 : n + 1 ≤ cap := by have := HN.out.2; omega
    have wl := nat_i64 lv HV.out.2.2
    have wl' := nat_i64' lv HV.out.2.2
    clear hh hk hk5 HU2 hF5 HK
    go_wp2_with fail
    clear wl wl'
    go_quiet (fail)
    have H6 : Aside0 (Has (w5.drewN nq) g 94 R c (S0.adv (i + 1 + dn + mn + ln)) ∧ Kp w (w5.drewN nq) g ∧ FilesAt (w5.drewN nq) base b cap fs) := ⟨H5.out.1.drewN nq, H5.out.2.1.drewN nq, H5.out.2.2.kp ((Kp.refl w5 g).drewN nq) H5.out.1.blk⟩
    revert H6
    clear q21 f21 n1 n0 qf H5
    generalize w5.drewN nq = w6
    intro H6
    clear nq
    have n0 : g < w6.heap.size := H6.out.1.lt
    have q21 : w6.cell? ⟨g, 21, none⟩ = some (.slice (some ⟨b, 0, none⟩) n cap) := H6.out.1.cell HR.out.1 rfl
    have f21 := H6.out.1.free 21
    have qf : w6.cell? ⟨b, n, none⟩ = some (.pointer none) := H6.out.2.2.next (by have := HN.out.1; omega) HN.out.2
    have n1 : b < w6.heap.size := World.block_lt_of_cell? w6 _ qf
    go_wp2_with fail
    have r3 : IntKind.i64.wrap ((n : Int) + 1) = (n : Int) + 1 := by rw [IntKind.wrap_i64]; omega
    have r4 : 0 ≤ (n : Int) + 1 := by omega
    have r5 : ((n : Int) + 1).toNat = n + 1 := by omega
    go_quiet (fail)
    clear r3 r5
    have H7 : Aside0 (Has (w6.drewN nq) g 94 R c (S0.adv (i + 1 + dn + mn + ln)) ∧ Kp w (w6.drewN nq) g ∧ FilesAt (w6.drewN nq) base b cap fs) := ⟨H6.out.1.drewN nq, H6.out.2.1.drewN nq, H6.out.2.2.kp ((Kp.refl w6 g).drewN nq) H6.out.1.blk⟩
    revert H7
    clear q21 f21 n1 n0 qf H6
    generalize w6.drewN nq = w7
    intro H7
    clear nq
    have n0 : g < w7.heap.size := H7.out.1.lt
    have q21 : w7.cell? ⟨g, 21, none⟩ = some (.slice (some ⟨b, 0, none⟩) n cap) := H7.out.1.cell HR.out.1 rfl
    have f21 := H7.out.1.free 21
    have qf : w7.cell? ⟨b, n, none⟩ = some (.pointer none) := H7.out.2.2.next (by have := HN.out.1; omega) HN.out.2
    have n1 : b < w7.heap.size := World.block_lt_of_cell? w7 _ qf
    obtain ⟨cs, e1, e2, e3, e4⟩ := H7.out.2.2.at_
    have hrun := append_room e1 e2 HN.out.2 (.cells #[.string rn, .int .u64 (mv : Int), .int .i64 (lv : Int)] 129) (some ⟨w7.heap.size, 0, none⟩)
    have HRUN := Aside0.mk hrun
    have hbase : base ≤ w7.heap.size := by have := H7.out.2.2.base_; clear r1 r4; omega
    obtain ⟨w9, h9⟩ : ∃ W, W = ((w7.alloc (.cells #[.string rn, .int .u64 (mv : Int), .int .i64 (lv : Int)] 129)).alloc (.cells #[.pointer (some ⟨w7.heap.size, 0, none⟩)] 90)).setCell ⟨b, n, none⟩ (.pointer (some ⟨w7.heap.size, 0, none⟩)) := ⟨_, rfl⟩
    have H9 := Aside0.mk (files_put (f := ⟨rn, mv, lv⟩) H7.out.2.2 hbase HN.out.1 HN.out.2 h9)
    rw [← h9] at HRUN
    have hbg : g ≠ b := by
      obtain ⟨cg, hg⟩ := H7.out.1.blk
      exact blk_ne hg e1 (by decide)
    have hh9 := H7.out.1.far b hbg H9.out.2.1 (fun cs' t f hc => by
      rw [e1] at hc
      injection hc with hc
      injection hc with hc
      subst hc
      exact ptrs_nb H7.out.2.2 e1)
    have HH9 := Aside0.mk (And.intro hh9 (And.intro e1 hbg))
    clear hrun h9 hbg e1 e2 e3 e4 q21 f21 qf n0 n1 hbase hh9
    have n9 : g < w9.heap.size := HH9.out.1.lt
    have q9 : w9.cell? ⟨g, 21, none⟩ = some (.slice (some ⟨b, 0, none⟩) n cap) := HH9.out.1.cell HR.out.1 rfl
    have f9 := HH9.out.1.free 21
    have n0 : g < w7.heap.size := H7.out.1.lt
    have q21 : w7.cell? ⟨g, 21, none⟩ = some (.slice (some ⟨b, 0, none⟩) n cap) := H7.out.1.cell HR.out.1 rfl
    have qf : w7.cell? ⟨b, n, none⟩ = some (.pointer none) := H7.out.2.2.next (by have := HN.out.1; omega) HN.out.2
    have n1 : b < w7.heap.size := World.block_lt_of_cell? w7 _ qf
    go_wp2_with (at_builtin; refine wp_append_exact rfl _ _ 89 rfl rfl rfl HRUN.out ?_)
    go_ret2
    refine ⟨rfl, HH9.out.1.st1 21 _ HR.out.2.1 HR.out.2.2 (fun a h7 => by rw [set14 h7]), H9.out.1.kp ((Kp.refl w9 g).set 21 _) HH9.out.1.blk, ?_⟩
    exact (Kx.of_Kp H7.out.2.1).trans ((Kx.of_put H9.out.2 HH9.out.2.1 H7.out.2.2.base_).trans (Kx.of_Kp ((Kp.refl w9 g).set 21 _)))
  · have HAO := Aside0.mk (And.intro hno (And.intro hdd hjo))
    clear hno hdd hjo hnm
    go_enter Tryd.func46, Tryd.ntmps46
    go_wp2_with fail
    refine HS.out.mono ?_
    rw [HNM.out.1]
    rintro e w1 ⟨rfl, hh, hk⟩
    have n0 : g < w1.heap.size := hh.lt
    have q6 : w1.cell? ⟨g, 6, none⟩ = some .nilIface := hh.noerr HOK.out
    obtain ⟨_, _, _, _, _, q4, _⟩ := hh.parts
    have HU := Aside0.mk (uint_ok hh (v := dv) (n := dn) HA.out.1 (by have := HV.out.1; omega))
    have HK := Aside0.mk hk
    clear hh hk HS
    go_wp2_with fail
    refine HU.out.mono ?_
    rintro e w2 ⟨rfl, hh, hk⟩
    rw [adv_adv] at hh
    have hk2 := HK.out.trans hk
    have n0 : g < w2.heap.size := hh.lt
    have HH := Aside0.mk (And.intro hh hk2)
    have HAB := Aside0.mk (HAO.out.1 w2)
    rw [HNM.out.1] at HAB
    have wd := nat_i64 dv HV.out.1
    have wd' := nat_i64' dv HV.out.1
    clear hh hk hk2 HU q4 q6
    go_wp2_with fail
    clear wd wd'
    refine HAB.out.mono ?_
    rintro e w3 ⟨rfl, hb3⟩
    have hh := HH.out.1.below hb3
    have hk3 := HH.out.2.trans (Kp.of_below hb3)
    have n0 : g < w3.heap.size := hh.lt
    have hdl3 := lies_kp HD.out.2 hk3 HG.out
    obtain ⟨dad, dcap, hde, hdlt, qd⟩ := lies_at hdl3 HAO.out.2.1
    have q20 : w3.cell? ⟨g, 20, none⟩ = some (.slice (some dad) dirs.length dcap) := by
      rw [← hde]
      exact hh.cell HD.out.1 rfl
    have e0 : decide ((dv : Int) ≥ (dirs.length : Int)) = false := decide_eq_false (by have := HAO.out.2.1; omega)
    have e1 : decide ((dirs.length : Int) ≤ (dv : Int)) = false := decide_eq_false (by have := HAO.out.2.1; omega)
    have e2 : decide (dirs.length ≤ dv) = false := decide_eq_false (by have := HAO.out.2.1; omega)
    have d5 : (0 : Int) ≤ (dv : Int) := by omega
    have d6 : (dv : Int) < (dirs.length : Int) := by have := HAO.out.2.1; omega
    have HJ := Aside0.mk (HAO.out.2.2 w3)
    rw [HNM.out.1] at HJ
    have HH3 := Aside0.mk (And.intro hh hk3)
    clear hh hk3 hb3 HAB HH hdl3 hde hdlt
    go_wp2_with fail
    refine HJ.out.mono ?_
    rintro e w31 ⟨rfl, hb3⟩
    have hh := HH3.out.1.below hb3
    have hk3 := HH3.out.2.trans (Kp.of_below hb3)
    have n0 : g < w31.heap.size := hh.lt
    clear HJ HH3 q20 qd d5 d6 e0 e1 e2
    have HU := Aside0.mk (uint_ok hh (v := mv) (n := mn) HA.out.2.1 (by have := HV.out.2.1; omega))
    have HK := Aside0.mk hk3
    clear hh hk3 hb3
    go_wp2_with fail
    refine HU.out.mono ?_
    rintro e w4 ⟨rfl, hh, hk⟩
    rw [adv_adv] at hh
    have hk4 := HK.out.trans hk
    have n0 : g < w4.heap.size := hh.lt
    have HU2 := Aside0.mk (uint_ok hh (v := lv) (n := ln) HA.out.2.2 (by have := HV.out.2.2; omega))
    have HK := Aside0.mk hk4
    clear hh hk hk4 HU
    go_wp2_with fail
    refine HU2.out.mono ?_
    rintro e w5 ⟨rfl, hh, hk⟩
    rw [adv_adv] at hh
    have hk5 := HK.out.trans hk
    have n0 : g < w5.heap.size := hh.lt
    have q21 : w5.cell? ⟨g, 21, none⟩ = some (.slice (some ⟨b, 0, none⟩) n cap) := hh.cell HR.out.1 rfl
    have f21 := hh.free 21
    have hF5 := HF.out.kp hk5 HG.out
    have H5 := Aside0.mk (And.intro hh (And.intro hk5 hF5))
    have qf : w5.cell? ⟨b, n, none⟩ = some (.pointer none) := hF5.next (by have := HN.out.1; omega) HN.out.2
    have n1 : b < w5.heap.size := World.block_lt_of_cell? w5 _ qf
    have r1 : (0 ≤ (n : Int)) = True := eq_true (by omega)
    have r2 : n + 1 ≤ cap := by have := HN.out.2; omega
    have wl := nat_i64 lv HV.out.2.2
    have wl' := nat_i64' lv HV.out.2.2
    clear hh hk hk5 HU2 hF5 HK
    go_wp2_with fail
    clear wl wl'
    go_quiet (fail)
    have H6 : Aside0 (Has (w5.drewN nq) g 94 R c (S0.adv (i + 1 + dn + mn + ln)) ∧ Kp w (w5.drewN nq) g ∧ FilesAt (w5.drewN nq) base b cap fs) := ⟨H5.out.1.drewN nq, H5.out.2.1.drewN nq, H5.out.2.2.kp ((Kp.refl w5 g).drewN nq) H5.out.1.blk⟩
    revert H6
    clear q21 f21 n1 n0 qf H5
    generalize w5.drewN nq = w6
    intro H6
    clear nq
    have n0 : g < w6.heap.size := H6.out.1.lt
    have q21 : w6.cell? ⟨g, 21, none⟩ = some (.slice (some ⟨b, 0, none⟩) n cap) := H6.out.1.cell HR.out.1 rfl
    have f21 := H6.out.1.free 21
    have qf : w6.cell? ⟨b, n, none⟩ = some (.pointer none) := H6.out.2.2.next (by have := HN.out.1; omega) HN.out.2
    have n1 : b < w6.heap.size := World.block_lt_of_cell? w6 _ qf
    go_wp2_with fail
    have r3 : IntKind.i64.wrap ((n : Int) + 1) = (n : Int) + 1 := by rw [IntKind.wrap_i64]; omega
    have r4 : 0 ≤ (n : Int) + 1 := by omega
    have r5 : ((n : Int) + 1).toNat = n + 1 := by omega
    go_quiet (fail)
    clear r3 r5
    have H7 : Aside0 (Has (w6.drewN nq) g 94 R c (S0.adv (i + 1 + dn + mn + ln)) ∧ Kp w (w6.drewN nq) g ∧ FilesAt (w6.drewN nq) base b cap fs) := ⟨H6.out.1.drewN nq, H6.out.2.1.drewN nq, H6.out.2.2.kp ((Kp.refl w6 g).drewN nq) H6.out.1.blk⟩
    revert H7
    clear q21 f21 n1 n0 qf H6
    generalize w6.drewN nq = w7
    intro H7
    clear nq
    have n0 : g < w7.heap.size := H7.out.1.lt
    have q21 : w7.cell? ⟨g, 21, none⟩ = some (.slice (some ⟨b, 0, none⟩) n cap) := H7.out.1.cell HR.out.1 rfl
    have f21 := H7.out.1.free 21
    have qf : w7.cell? ⟨b, n, none⟩ = some (.pointer none) := H7.out.2.2.next (by have := HN.out.1; omega) HN.out.2
    have n1 : b < w7.heap.size := World.block_lt_of_cell? w7 _ qf
    obtain ⟨cs, e1, e2, e3, e4⟩ := H7.out.2.2.at_
    have hrun := append_room e1 e2 HN.out.2 (.cells #[.string rn, .int .u64 (mv : Int), .int .i64 (lv : Int)] 129) (some ⟨w7.heap.size, 0, none⟩)
    have HRUN := Aside0.mk hrun
    have hbase : base ≤ w7.heap.size := by have := H7.out.2.2.base_; clear r1 r4; omega
    obtain ⟨w9, h9⟩ : ∃ W, W = ((w7.alloc (.cells #[.string rn, .int .u64 (mv : Int), .int .i64 (lv : Int)] 129)).alloc (.cells #[.pointer (some ⟨w7.heap.size, 0, none⟩)] 90)).setCell ⟨b, n, none⟩ (.pointer (some ⟨w7.heap.size, 0, none⟩)) := ⟨_, rfl⟩
    have H9 := Aside0.mk (files_put (f := ⟨rn, mv, lv⟩) H7.out.2.2 hbase HN.out.1 HN.out.2 h9)
    rw [← h9] at HRUN
    have hbg : g ≠ b := by
      obtain ⟨cg, hg⟩ := H7.out.1.blk
      exact blk_ne hg e1 (by decide)
    have hh9 := H7.out.1.far b hbg H9.out.2.1 (fun cs' t f hc => by
      rw [e1] at hc
      injection hc with hc
      injection hc with hc
      subst hc
      exact ptrs_nb H7.out.2.2 e1)
    have HH9 := Aside0.mk (And.intro hh9 (And.intro e1 hbg))
    clear hrun h9 hbg e1 e2 e3 e4 q21 f21 qf n0 n1 hbase hh9
    have n9 : g < w9.heap.size := HH9.out.1.lt
    have q9 : w9.cell? ⟨g, 21, none⟩ = some (.slice (some ⟨b, 0, none⟩) n cap) := HH9.out.1.cell HR.out.1 rfl
    have f9 := HH9.out.1.free 21
    have n0 : g < w7.heap.size := H7.out.1.lt
    have q21 : w7.cell? ⟨g, 21, none⟩ = some (.slice (some ⟨b, 0, none⟩) n cap) := H7.out.1.cell HR.out.1 rfl
    have qf : w7.cell? ⟨b, n, none⟩ = some (.pointer none) := H7.out.2.2.next (by have := HN.out.1; omega) HN.out.2
    have n1 : b < w7.heap.size := World.block_lt_of_cell? w7 _ qf
    go_wp2_with (at_builtin; refine wp_append_exact rfl _ _ 89 rfl rfl rfl HRUN.out ?_)
    go_ret2
    refine ⟨rfl, HH9.out.1.st1 21 _ HR.out.2.1 HR.out.2.2 (fun a h7 => by rw [set14 h7]), H9.out.1.kp ((Kp.refl w9 g).set 21 _) HH9.out.1.blk, ?_⟩
    exact (Kx.of_Kp H7.out.2.1).trans ((Kx.of_put H9.out.2 HH9.out.2.1 H7.out.2.2.base_).trans (Kx.of_Kp ((Kp.refl w9 g).set 21 _)))

end Go.Proofs.YtdepfipebogdcaaDoor.Line

/- readFileEntry: what it does, in whole. -/
namespace Go.Proofs.YtdepfipebogdcaaDoor.Line
set_option maxRecDepth 100000
open Go.RowKit Go.Proofs.YtdepfipebogdcaaDoorW.PrintWords Go.Proofs.YtdepfipebogdcaaDoorW.PrintLast Go.Proofs.YtdepfipebogdcaaDoorW.PrintMore Go.Proofs.YtdepfipebogdcaaDoor.Leb Go.Proofs.YtdepfipebogdcaaDoor.Buf

theorem rfe_done {w : World} {g : Nat} {R : Array Value} {c : BC} {S0 : S} (hH : Has w g 94 R c S0) (hok : S0.ok = true) (hz : Buf.zeroAt S0.l = some 0) :
    Calls Tryd.prog 46 #[.pointer (some ⟨g, 0, none⟩)] w fun e w' => e = .returned (.tuple #[.bool true, .nilIface]) ∧ Has w' g 94 R c (S0.adv 1) ∧ Kp w w' g := by
  have HS := Aside0.mk (string_has hH hok hz)
  obtain ⟨nm, hnm⟩ : ∃ nm, strOfNums (S0.l.take 0) = nm := ⟨_, rfl⟩
  have hsz : nm.size = 0 := by rw [← hnm, size_strOfNums]; simp
  have HNM := Aside0.mk hnm
  have HOK := Aside0.mk hok
  clear hH hok hz hnm
  go_enter Tryd.func46, Tryd.ntmps46
  go_wp2_with fail
  refine HS.out.mono ?_
  rw [HNM.out]
  rintro e w1 ⟨rfl, hh, hk⟩
  have n0 : g < w1.heap.size := hh.lt
  have q6 : w1.cell? ⟨g, 6, none⟩ = some .nilIface := hh.noerr HOK.out
  have HK := Aside0.mk (And.intro hh hk)
  clear hh hk HS
  go_wp2_with fail
  go_ret2
  exact ⟨rfl, HK.out⟩

/-- The files with one more. -/
def addF (fs : List (Option Fl)) (n : Nat) (f : Fl) : List (Option Fl) := if n < fs.length then fs else fs ++ [some f]

theorem rfe_calls {w : World} {g b cap n base i dv dn mv mn lv ln : Nat} {R : Array Value} {c : BC} {S0 : S} {fs : List (Option Fl)} (hH : Has w g 94 R c S0) (hok : S0.ok = true) (hR : R[14]? = some (.slice (some ⟨b, 0, none⟩) n cap)) (hby : R.all (fun v => !isByte v) = true) (hcb : isByte c.d = false ∧ isByte c.f = false) (hF : FilesAt w base b cap fs) {dirs : List ByteArray} {dirv : Value} {rn : ByteArray} (hR13 : R[13]? = some dirv) (hdl : Lies w 9 Kd.string dirv dirs)
    (hz : Buf.zeroAt S0.l = some i) (hi : 0 < i) (hd : uread (S0.l.drop (i + 1)) = some (dv, dn)) (hdv : dv < 9223372036854775808) (hab : NameOk dirs (strOfNums (S0.l.take i)) dv rn) (hm : uread (S0.l.drop (i + 1 + dn)) = some (mv, mn)) (hmv : mv < 9223372036854775808) (hl : uread (S0.l.drop (i + 1 + dn + mn)) = some (lv, ln)) (hlv : lv < 9223372036854775808)
    (hn : n ≤ fs.length) (hs : n < fs.length → (fs.getD n none).isSome = true) (hnb : n < 4294967296) :
    Calls Tryd.prog 46 #[.pointer (some ⟨g, 0, none⟩)] w fun e w' => e = .returned (.tuple #[.bool false, .nilIface]) ∧ ∃ b' cap', Has w' g 94 (R.setIfInBounds 14 (.slice (some ⟨b', 0, none⟩) (n + 1) cap')) c (S0.adv (i + 1 + dn + mn + ln)) ∧ FilesAt w' base b' cap' (addF fs n ⟨rn, mv, lv⟩) ∧ Kx w w' base g g := by
  by_cases h : n < fs.length
  · have h2 := hs h
    rw [List.getD_eq_getElem?_getD, List.getElem?_eq_getElem h] at h2
    obtain ⟨f0, hf0⟩ := Option.isSome_iff_exists.1 h2
    refine (rfe_again hH rfl hok hR hby hcb hF hR13 hdl hz hi hd hdv hab hm hmv hl hlv h (by omega) (f0 := f0) (by rw [List.getElem?_eq_getElem h]; exact congrArg some hf0)).mono ?_
    rintro e w' ⟨rfl, hh, hk⟩
    refine ⟨rfl, b, cap, hh, ?_, Kx.of_Kp hk⟩
    rw [addF, if_pos h]
    exact hF.kp hk hH.blk
  · have hle := hF.le
    rw [addF, if_neg h]
    by_cases hc : n < cap
    · refine (rfe_room hH rfl hok hR hby hcb hF hR13 hdl hz hi hd hdv hab hm hmv hl hlv (by omega) hc (by omega)).mono ?_
      rintro e w' ⟨rfl, hh, hf, hk⟩
      exact ⟨rfl, b, cap, hh, hf, hk⟩
    · refine (rfe_grow hH rfl hok hR hby hcb hF hR13 hdl hz hi hd hdv hab hm hmv hl hlv (by omega) (by omega) hnb).mono ?_
      rintro e w' ⟨rfl, b', cap', hh, hf, hk⟩
      exact ⟨rfl, b', cap', hh, hf, Kx.of_Kp hk⟩
end Go.Proofs.YtdepfipebogdcaaDoor.Line

/- A step of a line reader: the operation that adds a file. -/
namespace Go.Proofs.YtdepfipebogdcaaDoor.Line
set_option maxRecDepth 100000
open Go.RowKit Go.Proofs.YtdepfipebogdcaaDoorW.PrintWords Go.Proofs.YtdepfipebogdcaaDoorW.PrintLast Go.Proofs.YtdepfipebogdcaaDoorW.PrintMore Go.Proofs.YtdepfipebogdcaaDoor.Leb Go.Proofs.YtdepfipebogdcaaDoor.Buf Go.Proofs.YtdepfipebogdcaaDoor

theorem add_eq (s : St) (f : Fl) : s.add f = { s with n := s.n + 1, fs := addF s.fs s.n f } := by
  unfold St.add addF
  split <;> rfl
theorem Kx.wide {w w' : World} {base g ge : Nat} (h : Kx w w' base g g) : Kx w w' base g ge := ⟨h.os, h.tape, h.output, h.size, fun k hk ho => h.block k hk (fun h2 => ho (by
  rcases h2 with h2 | h2 | h2
  · exact .inl h2
  · exact .inl h2
  · exact .inr (.inr h2)))⟩
theorem PtrIs.kx {w w' : World} {base g ge : Nat} {v : Value} {o : Option Fl} (h : PtrIs w base v o) (hk : Kx w w' base g ge) (hg : ∃ cs, w.heap[g]? = some (.cells cs 94 (0, 0))) (he : ge = g ∨ ∃ cs, w.heap[ge]? = some (.cells cs 92 (0, 0))) : PtrIs w' base v o := by
  obtain ⟨cg, hg⟩ := hg
  refine h.keep fun b' cs _ hb => hk.block b' (blk_lt hb) ?_
  rintro (e | e | ⟨_, cs', x, e⟩)
  · exact blk_ne hb hg (by decide) e
  · rcases he with he | ⟨ce, he⟩
    · exact blk_ne hb hg (by decide) (e.trans he)
    · exact blk_ne hb he (by decide) e
  · rw [hb] at e
    injection e with e
    injection e with _ e
    exact absurd e (by decide)
theorem Kx.at_ {w w' : World} {base g : Nat} {ge : Nat} {es : Array Value} (h : Kx w w' base g g) (he : w.heap[ge]? = some (.cells es 92 (0, 0))) (hne : ge ≠ g) : w'.heap[ge]? = some (.cells es 92 (0, 0)) := by
  refine (h.block ge (blk_lt he) ?_).trans he
  rintro (e | e | ⟨_, cs', x, e⟩)
  · exact hne e
  · exact hne e
  · rw [he] at e
    injection e with e
    injection e with _ e
    exact absurd e (by decide)

set_option maxHeartbeats 1000000 in
theorem ext_3 {w : World} {g ge : Nat} {c : RC} {k : K} {s : St} {es : Array Value} {l l2 : List Int} {v n : Nat} {i dv dn mv mn lv ln : Nat} (h : HasR w g c k s) (he : w.heap[ge]? = some (.cells es 92 (0, 0))) (hes : IsRow es) (hl : k.at s.p = 0 :: l) (hob : 0 < k.ob) (hu : uread (k.at (s.p + 1)) = some (v, n)) (hx : k.at (s.p + 1 + n) = 3 :: l2) (hv : 1 ≤ v) (hq : s.p + 1 + n + v ≤ k.eo) (hfz : Buf.zeroAt (k.at (s.p + 1 + n + 1)) = some i) (hfi : 0 < i) (hfd : uread ((k.at (s.p + 1 + n + 1)).drop (i + 1)) = some (dv, dn)) (hdv : dv < 9223372036854775808) {rn : ByteArray} (hab : NameOk k.dirs (strOfNums ((k.at (s.p + 1 + n + 1)).take i)) dv rn) (hfm : uread ((k.at (s.p + 1 + n + 1)).drop (i + 1 + dn)) = some (mv, mn)) (hmv : mv < 9223372036854775808) (hfl : uread ((k.at (s.p + 1 + n + 1)).drop (i + 1 + dn + mn)) = some (lv, ln)) (hlv : lv < 9223372036854775808) (hm : 1 + (i + 1 + dn + mn + ln) ≤ v) (hfi0 : 0 ≤ s.fi) (hsome : s.n < s.fs.length → (s.fs.getD s.n none).isSome = true) (hn32 : s.n < 4294967295) :
    Calls Tryd.prog 51 #[.pointer (some ⟨g, 0, none⟩), .pointer (some ⟨ge, 0, none⟩)] w fun e w' => StepPost w g ge c k es (none) ({ (s.add ⟨rn, mv, lv⟩).upd with p := s.p + 1 + n + v }) e w' := by
  obtain ⟨b, cap, fp, hH, hF, hP⟩ := h.at_
  have hq0 : s.p + 1 + n + v < 2147483648 := by have := h.eo; have := h.len; omega
  obtain ⟨y, rfl⟩ := hP.ptr
  have HV := Aside0.mk (uint8_has hH hl)
  have HA := Aside0.mk (adv_at (k := k) (p := s.p) (n := 1) (by omega))
  have H0 := Aside0.mk (And.intro h (And.intro he (And.intro hF hP)))
  have HES := Aside0.mk hes
  have HQ := Aside0.mk hq
  have HQ0 := Aside0.mk hq0
  have HU := Aside0.mk hu
  have HX := Aside0.mk hx
  have HVV := Aside0.mk hv
  have c1 : decide (k.ob ≤ 0) = false := decide_eq_false (by omega)
  obtain ⟨p1, hp1⟩ : ∃ p1, s.p + 1 + n = p1 := ⟨_, rfl⟩
  obtain ⟨q, hqq⟩ : ∃ q, p1 + v = q := ⟨_, rfl⟩
  have HE := Aside0.mk (And.intro hp1 hqq)
  have w1_ := nat_u32 v (by omega)
  have w2_ := add_u32 p1 v q hqq (by omega)
  rw [hp1, hqq]
  rw [hp1] at hfz hfd hab hfm hfl
  obtain ⟨f, hff⟩ : ∃ f : Fl, (⟨rn, mv, lv⟩ : Fl) = f := ⟨_, rfl⟩
  rw [hff]
  have HFF := Aside0.mk hff
  obtain ⟨m, hmm⟩ : ∃ m, i + 1 + dn + mn + ln = m := ⟨_, rfl⟩
  rw [hmm] at hm
  have HMM := Aside0.mk (And.intro hmm hm)
  have HFI0 := Aside0.mk hfi0
  have HSM := Aside0.mk (And.intro hsome hn32)
  have HFA : Aside0 (∀ (W : World), Has W g 94 (rest c k s (.slice (some ⟨b, 0, none⟩) s.n cap) (.pointer y)) c.bc ⟨((p1 + 1 : Nat) : Int), k.at (p1 + 1), true⟩ → FilesAt W c.base b cap s.fs → Lies W 9 Kd.string c.dirs k.dirs →
      Calls Tryd.prog 46 #[.pointer (some ⟨g, 0, none⟩)] W fun e w' => e = .returned (.tuple #[.bool false, .nilIface]) ∧ ∃ b' cap', Has w' g 94 ((rest c k s (.slice (some ⟨b, 0, none⟩) s.n cap) (.pointer y)).setIfInBounds 14 (.slice (some ⟨b', 0, none⟩) (s.n + 1) cap')) c.bc ((S.mk ((p1 + 1 : Nat) : Int) (k.at (p1 + 1)) true).adv m) ∧ FilesAt w' c.base b' cap' (addF s.fs s.n f) ∧ Kx W w' c.base g g) := ⟨fun W hW hFW hDW => by
    have h1 := rfe_calls hW rfl rfl (rest_all c k _ _ _ rfl rfl) ⟨c.byte.1, c.byte.2.1⟩ hFW (dirv := c.dirs) rfl hDW hfz hfi hfd hdv hab hfm hmv hfl hlv h.n hsome (by omega)
    try simp only at h1
    rw [hmm, hff] at h1
    exact h1⟩
  clear h he hF hP hl hq hob hH hu hx hv hq0 hp1 hqq hes hfz hfi hfd hdv hab hfm hmv hfl hlv hm hfi0 hsome hn32 hff hmm
  go_enter Tryd.func51, Tryd.ntmps51
  go_wp2_with fail
  go_step3
  go_wp2_with fail
  refine HV.out.mono ?_
  rintro e w1 ⟨rfl, hh, hk⟩
  rw [HA.out] at hh
  have n0 : g < w1.heap.size := hh.lt
  have q18 : w1.cell? ⟨g, 18, none⟩ = some (.int .i64 k.ob) := (hh.restc 11).trans rfl
  have HU1 := Aside0.mk (uint_ok hh (v := v) (n := n) HU.out (by clear w1_ w2_; have := HQ0.out; omega))
  have HK := Aside0.mk hk
  clear hh hk HV HA HU
  go_wp2_with fail
  refine HU1.out.mono ?_
  rintro e w2 ⟨rfl, hh, hk⟩
  rw [adv_at (k := k) (p := s.p + 1) (n := n) (by clear w1_ w2_; have := HQ0.out; omega), HE.out.1] at hh
  have n0 : g < w2.heap.size := hh.lt
  have q4 : w2.cell? ⟨g, 4, none⟩ = some (.int .u32 (p1 : Int)) := by
    obtain ⟨_, _, _, _, _, q4, _⟩ := hh.parts
    exact q4
  have HX1 := Aside0.mk (uint8_has hh (b := 3) (r := l2) (by have := HX.out; rw [HE.out.1] at this; exact this))
  have HK2 := Aside0.mk (HK.out.trans hk)
  clear hh hk HK HU1 q18
  go_wp2_with fail
  refine HX1.out.mono ?_
  rintro e w3 ⟨rfl, hh, hk⟩
  rw [adv_at (k := k) (p := p1) (n := 1) (by clear w1_ w2_; have := HQ0.out; have := HE.out.1; omega)] at hh
  have n0 : g < w3.heap.size := hh.lt
  have hk := HK2.out.trans hk
  clear HX1 HK2 q4
  obtain ⟨b0, cap0, fp0, hH0, _⟩ := H0.out.1.at_
  have HG := Aside0.mk hH0.blk
  have hF3 := H0.out.2.2.1.kp hk hH0.blk
  have HFA := Aside0.mk (HFA.out w3 hh hF3 (lies_kp H0.out.1.dirs hk hH0.blk))
  have HK3 := Aside0.mk (And.intro hk hh.blk)
  clear hh hk hF3 hH0
  go_wp2_with fail
  refine HFA.out.mono ?_
  rintro e w4 ⟨rfl, b', cap', hh, hF4, hk4⟩
  rw [adv_at (k := k) (p := p1 + 1) (n := m) (by clear w1_ w2_; have := HMM.out.2; have := HE.out.1; have := HE.out.2; have := HQ0.out; omega)] at hh
  have hh : Has w4 g 94 (rest c k (s.add f) (.slice (some ⟨b', 0, none⟩) (s.n + 1) cap') (.pointer y)) c.bc ⟨((p1 + 1 + m : Nat) : Int), k.at (p1 + 1 + m), true⟩ := by
    have e : (rest c k s (.slice (some ⟨b, 0, none⟩) s.n cap) (.pointer y)).setIfInBounds 14 (.slice (some ⟨b', 0, none⟩) (s.n + 1) cap') = rest c k (s.add f) (.slice (some ⟨b', 0, none⟩) (s.n + 1) cap') (.pointer y) := by
      rw [add_eq]
      simp
    rw [← e]
    exact hh
  have hkx := (Kx.of_Kp (ge := g) (base := c.base) HK3.out.1).trans hk4
  have n0 : g < w4.heap.size := hh.lt
  have hn4 : s.n + 1 ≤ (addF s.fs s.n f).length := by
    clear w1_ w2_
    have := H0.out.1.n
    unfold addF
    split
    · omega
    · simp; omega
  have HUP := Aside0.mk (update_calls (n := s.n + 1) (fi := s.fi) hF4 hn4 HFI0.out (by rw [hh.restc 30, add_eq]; rfl) ((hh.restc 14).trans rfl) ((hh.restc 20).trans rfl) (hh.free 27))
  have HX4 := Aside0.mk (And.intro hh (And.intro hkx (And.intro hF4 hn4)))
  clear hh hkx hF4 hk4 hn4 HFA HK3
  go_wp2_with fail
  refine HUP.out.mono ?_
  rintro e w5 ⟨rfl, j, fq, hq, ⟨z, rfl⟩, rfl⟩
  have h5 : Has ((w4.setCell ⟨g, 27, none⟩ (.pointer z)).drewN j) g 94 (rest c k (s.add f).upd (.slice (some ⟨b', 0, none⟩) (s.n + 1) cap') (.pointer z)) c.bc ⟨((p1 + 1 + m : Nat) : Int), k.at (p1 + 1 + m), true⟩ :=
    (HX4.out.1.st1 27 _ (rest_all c k _ _ _ rfl rfl) ⟨c.byte.1, c.byte.2.1⟩ (fun a h7 => by simp [Array.setIfInBounds_append_right, h7, St.upd])).drewN j
  have k45 : Kp w4 ((w4.setCell ⟨g, 27, none⟩ (.pointer z)).drewN j) g := ((Kp.refl w4 g).set 27 _).drewN j
  have hp5 := hq.kp k45 HX4.out.1.blk
  have hF5 := HX4.out.2.2.1.kp k45 HX4.out.1.blk
  have hk5 := HX4.out.2.1.trans (Kx.of_Kp k45)
  have HN4 := Aside0.mk HX4.out.2.2.2
  revert h5 hp5 hF5 hk5
  clear k45 hq HUP HX4
  generalize (w4.setCell ⟨g, 27, none⟩ (.pointer z)).drewN j = w5
  intro hh hp5 hF5 hk
  have n0 : g < w5.heap.size := hh.lt
  have HP5 := Aside0.mk (And.intro hp5 (And.intro hF5 hh.blk))
  clear hp5 hF5
  have hle_ : p1 + 1 + m ≤ q := by clear w1_ w2_; have := HE.out.1; have := HE.out.2; have := HMM.out.2; omega
  obtain ⟨d, hd⟩ : ∃ d, p1 + 1 + m + d = q := ⟨q - (p1 + 1 + m), by clear w1_ w2_; omega⟩
  have hdl : d ≤ (k.at (p1 + 1 + m)).length := by rw [at_length _ H0.out.1.eo]; clear w1_ w2_; have := HE.out.1; have := HE.out.2; have := HQ.out; omega
  have w3_ := sub_u32 (p1 + 1 + m) d q hd (by have := HE.out.1; have := HE.out.2; have := HQ0.out; clear w1_ w2_; omega)
  have w4_ := nat_i64 d (by have := HE.out.1; have := HE.out.2; have := HQ0.out; clear w1_ w2_ w3_; omega)
  have w5_ := nat_i64' d (by have := HE.out.1; have := HE.out.2; have := HQ0.out; clear w1_ w2_ w3_ w4_; omega)
  have HD := Aside0.mk (And.intro hd hdl)
  obtain ⟨C, hC⟩ : ∃ C : Int, ((p1 + 1 + m : Nat) : Int) = C := ⟨_, rfl⟩
  rw [hC] at w3_
  have q4 : w5.cell? ⟨g, 4, none⟩ = some (.int .u32 C) := by
    rw [← hC]
    obtain ⟨_, _, _, _, _, q4, _⟩ := hh.parts
    exact q4
  have HH : Aside0 (Has w5.drew g 94 (rest c k ((s.add f).upd) (.slice (some ⟨b', 0, none⟩) (s.n + 1) cap') (.pointer z)) c.bc ⟨((p1 + 1 + m : Nat) : Int), k.at (p1 + 1 + m), true⟩ ∧ Kx w w5.drew c.base g g ∧ Kp w5 w5.drew g) := ⟨hh.drewN 1, hk.trans (Kx.of_Kp ((Kp.refl w5 g).drewN 1)), (Kp.refl w5 g).drewN 1⟩
  clear hh hk hle_ hd hdl hC
  go_wp2_with fail
  refine Fast.wp_tail 13 (by kernel_rfl) (by kernel_rfl) ?_
  simp only [List.take_succ_cons, List.take_zero, List.drop_succ_cons, List.drop_zero]
  repeat still_step
  try refine wpStill_nil ?_
  change wpList _ _ _ _ _ w5.drew
  revert HH
  generalize w5.drew = wa
  intro HH
  have HS := Aside0.mk (skip_has HH.out.1 d HD.out.2)
  have n0 : g < wa.heap.size := HH.out.1.lt
  go_wp2_with fail
  first | rw [w4_] | skip
  refine HS.out.mono ?_
  rintro e wb ⟨rfl, hh, hk⟩
  rw [adv_at (k := k) (p := p1 + 1 + m) (n := d) (by clear w1_ w2_ w3_ w4_ w5_; have := HD.out.1; have := HE.out.1; have := HE.out.2; have := HQ0.out; omega), HD.out.1] at hh
  have hk := And.intro (HH.out.2.1.trans (Kx.of_Kp hk)) (HH.out.2.2.trans hk)
  have HB := Aside0.mk (And.intro hh hk)
  have n0 : g < wb.heap.size := hh.lt
  clear hh hk HS
  go_wp2_with fail
  rw [Exit.noGoto_ret]
  go_ret
  obtain ⟨hb, kb, kb5⟩ := HB.out
  obtain ⟨cg, hg⟩ := HG.out
  have hfi : (fileAt (addF s.fs s.n f) (s.n + 1) s.fi) = (s.add f).upd.r.fl := by rw [add_eq]; rfl
  refine ⟨rfl, H0.out.1.next (s' := { (s.add f).upd with p := q }) (b := b') (cap := cap') (fp := .pointer z) H0.out.2.1 kb.wide (by clear w1_ w2_ w3_ w4_ w5_; have := HE.out.1; have := HE.out.2; have := HQ.out; show q ≤ k.eo; omega) ?_ ?_ ?_ ?_, kb.at_ H0.out.2.1 (blk_ne H0.out.2.1 hg (by decide)), kb.wide⟩
  · have h1 := HN4.out
    show (s.add f).n ≤ (s.add f).fs.length
    rw [add_eq]
    exact h1
  · have h1 := hb
    show Has wb g _ (rest c k { (s.add f).upd with p := q } (.slice (some ⟨b', 0, none⟩) (s.add f).n cap') (.pointer z)) c.bc _
    rw [add_eq] at h1 ⊢
    exact h1
  · show FilesAt wb c.base b' cap' (s.add f).fs
    rw [add_eq]
    exact HP5.out.2.1.kp kb5 HP5.out.2.2
  · rw [← hfi]
    exact HP5.out.1.kp kb5 HP5.out.2.2

end Go.Proofs.YtdepfipebogdcaaDoor.Line

/- A step of a line reader: the opcodes without operands. -/
namespace Go.Proofs.YtdepfipebogdcaaDoor.Line
set_option maxRecDepth 100000
open Go.RowKit Go.Proofs.YtdepfipebogdcaaDoorW.PrintWords Go.Proofs.YtdepfipebogdcaaDoorW.PrintLast Go.Proofs.YtdepfipebogdcaaDoorW.PrintMore Go.Proofs.YtdepfipebogdcaaDoor.Leb Go.Proofs.YtdepfipebogdcaaDoor.Buf Go.Proofs.YtdepfipebogdcaaDoor

theorem step_6 {w : World} {g ge : Nat} {c : RC} {k : K} {s : St} {es : Array Value} {l : List Int} (h : HasR w g c k s) (he : w.heap[ge]? = some (.cells es 92 (0, 0))) (hl : k.at s.p = 6 :: l) (hp : s.p + 1 ≤ k.eo) (hob : 6 < k.ob) :
    Calls Tryd.prog 51 #[.pointer (some ⟨g, 0, none⟩), .pointer (some ⟨ge, 0, none⟩)] w fun e w' => StepPost w g ge c k es none { s with p := s.p + 1, r := { s.r with st := !s.r.st } } e w' := by
  obtain ⟨b, cap, fp, hH, hF, hP⟩ := h.at_
  have hlt : s.p + 1 < 4294967296 := by have := h.eo; have := h.len; omega
  obtain ⟨x, rfl⟩ := hP.ptr
  have HV := Aside0.mk (uint8_has hH hl)
  have HA := Aside0.mk (adv_at (k := k) (p := s.p) (n := 1) (by omega))
  have H0 := Aside0.mk (And.intro h (And.intro he (And.intro hF hP)))
  have HP := Aside0.mk hp
  have c1 : decide (k.ob ≤ 6) = false := decide_eq_false (by omega)
  have HLT := Aside0.mk hlt
  clear h he hF hP hl hlt hp hob hH
  go_enter Tryd.func51, Tryd.ntmps51
  go_wp2_with fail
  go_step3
  go_wp2_with fail
  refine HV.out.mono ?_
  rintro e w1 ⟨rfl, hh, hk⟩
  rw [HA.out] at hh
  have n0 : g < w1.heap.size := hh.lt
  have q18 : w1.cell? ⟨g, 18, none⟩ = some (.int .i64 k.ob) := (hh.restc 11).trans rfl
  have q30 : w1.cell? ⟨g, 30, none⟩ = some (.bool s.r.st) := (hh.restc 23).trans rfl
  have f30 := hh.free 30
  have HH := Aside0.mk (And.intro hh hk)
  clear hh hk
  go_wp2_with fail
  rw [Exit.noGoto_ret]
  go_ret
  refine step_none H0.out.1 H0.out.2.1 H0.out.2.2.1 H0.out.2.2.2 (HH.out.2.set 30 _) HP.out (fun fv hfv => ?_) rfl rfl rfl
  subst hfv
  exact HH.out.1.st1 30 _ (rest_all c k _ _ _ rfl rfl) ⟨c.byte.1, c.byte.2.1⟩ (fun a h7 => by simp [Array.setIfInBounds_append_right, h7])

theorem step_7 {w : World} {g ge : Nat} {c : RC} {k : K} {s : St} {es : Array Value} {l : List Int} (h : HasR w g c k s) (he : w.heap[ge]? = some (.cells es 92 (0, 0))) (hl : k.at s.p = 7 :: l) (hp : s.p + 1 ≤ k.eo) (hob : 7 < k.ob) :
    Calls Tryd.prog 51 #[.pointer (some ⟨g, 0, none⟩), .pointer (some ⟨ge, 0, none⟩)] w fun e w' => StepPost w g ge c k es none { s with p := s.p + 1, r := { s.r with bb := true } } e w' := by
  obtain ⟨b, cap, fp, hH, hF, hP⟩ := h.at_
  have hlt : s.p + 1 < 4294967296 := by have := h.eo; have := h.len; omega
  obtain ⟨x, rfl⟩ := hP.ptr
  have HV := Aside0.mk (uint8_has hH hl)
  have HA := Aside0.mk (adv_at (k := k) (p := s.p) (n := 1) (by omega))
  have H0 := Aside0.mk (And.intro h (And.intro he (And.intro hF hP)))
  have HP := Aside0.mk hp
  have c1 : decide (k.ob ≤ 7) = false := decide_eq_false (by omega)
  have HLT := Aside0.mk hlt
  clear h he hF hP hl hlt hp hob hH
  go_enter Tryd.func51, Tryd.ntmps51
  go_wp2_with fail
  go_step3
  go_wp2_with fail
  refine HV.out.mono ?_
  rintro e w1 ⟨rfl, hh, hk⟩
  rw [HA.out] at hh
  have n0 : g < w1.heap.size := hh.lt
  have q18 : w1.cell? ⟨g, 18, none⟩ = some (.int .i64 k.ob) := (hh.restc 11).trans rfl
  have q31 : w1.cell? ⟨g, 31, none⟩ = some (.bool s.r.bb) := (hh.restc 24).trans rfl
  have f31 := hh.free 31
  have HH := Aside0.mk (And.intro hh hk)
  clear hh hk
  go_wp2_with fail
  rw [Exit.noGoto_ret]
  go_ret
  refine step_none H0.out.1 H0.out.2.1 H0.out.2.2.1 H0.out.2.2.2 (HH.out.2.set 31 _) HP.out (fun fv hfv => ?_) rfl rfl rfl
  subst hfv
  exact HH.out.1.st1 31 _ (rest_all c k _ _ _ rfl rfl) ⟨c.byte.1, c.byte.2.1⟩ (fun a h7 => by simp [Array.setIfInBounds_append_right, h7])

theorem step_10 {w : World} {g ge : Nat} {c : RC} {k : K} {s : St} {es : Array Value} {l : List Int} (h : HasR w g c k s) (he : w.heap[ge]? = some (.cells es 92 (0, 0))) (hl : k.at s.p = 10 :: l) (hp : s.p + 1 ≤ k.eo) (hob : 10 < k.ob) :
    Calls Tryd.prog 51 #[.pointer (some ⟨g, 0, none⟩), .pointer (some ⟨ge, 0, none⟩)] w fun e w' => StepPost w g ge c k es none { s with p := s.p + 1, r := { s.r with pe := true } } e w' := by
  obtain ⟨b, cap, fp, hH, hF, hP⟩ := h.at_
  have hlt : s.p + 1 < 4294967296 := by have := h.eo; have := h.len; omega
  obtain ⟨x, rfl⟩ := hP.ptr
  have HV := Aside0.mk (uint8_has hH hl)
  have HA := Aside0.mk (adv_at (k := k) (p := s.p) (n := 1) (by omega))
  have H0 := Aside0.mk (And.intro h (And.intro he (And.intro hF hP)))
  have HP := Aside0.mk hp
  have c1 : decide (k.ob ≤ 10) = false := decide_eq_false (by omega)
  have HLT := Aside0.mk hlt
  clear h he hF hP hl hlt hp hob hH
  go_enter Tryd.func51, Tryd.ntmps51
  go_wp2_with fail
  go_step3
  go_wp2_with fail
  refine HV.out.mono ?_
  rintro e w1 ⟨rfl, hh, hk⟩
  rw [HA.out] at hh
  have n0 : g < w1.heap.size := hh.lt
  have q18 : w1.cell? ⟨g, 18, none⟩ = some (.int .i64 k.ob) := (hh.restc 11).trans rfl
  have q32 : w1.cell? ⟨g, 32, none⟩ = some (.bool s.r.pe) := (hh.restc 25).trans rfl
  have f32 := hh.free 32
  have HH := Aside0.mk (And.intro hh hk)
  clear hh hk
  go_wp2_with fail
  rw [Exit.noGoto_ret]
  go_ret
  refine step_none H0.out.1 H0.out.2.1 H0.out.2.2.1 H0.out.2.2.2 (HH.out.2.set 32 _) HP.out (fun fv hfv => ?_) rfl rfl rfl
  subst hfv
  exact HH.out.1.st1 32 _ (rest_all c k _ _ _ rfl rfl) ⟨c.byte.1, c.byte.2.1⟩ (fun a h7 => by simp [Array.setIfInBounds_append_right, h7])

theorem step_11 {w : World} {g ge : Nat} {c : RC} {k : K} {s : St} {es : Array Value} {l : List Int} (h : HasR w g c k s) (he : w.heap[ge]? = some (.cells es 92 (0, 0))) (hl : k.at s.p = 11 :: l) (hp : s.p + 1 ≤ k.eo) (hob : 11 < k.ob) :
    Calls Tryd.prog 51 #[.pointer (some ⟨g, 0, none⟩), .pointer (some ⟨ge, 0, none⟩)] w fun e w' => StepPost w g ge c k es none { s with p := s.p + 1, r := { s.r with eb := true } } e w' := by
  obtain ⟨b, cap, fp, hH, hF, hP⟩ := h.at_
  have hlt : s.p + 1 < 4294967296 := by have := h.eo; have := h.len; omega
  obtain ⟨x, rfl⟩ := hP.ptr
  have HV := Aside0.mk (uint8_has hH hl)
  have HA := Aside0.mk (adv_at (k := k) (p := s.p) (n := 1) (by omega))
  have H0 := Aside0.mk (And.intro h (And.intro he (And.intro hF hP)))
  have HP := Aside0.mk hp
  have c1 : decide (k.ob ≤ 11) = false := decide_eq_false (by omega)
  have HLT := Aside0.mk hlt
  clear h he hF hP hl hlt hp hob hH
  go_enter Tryd.func51, Tryd.ntmps51
  go_wp2_with fail
  go_step3
  go_wp2_with fail
  refine HV.out.mono ?_
  rintro e w1 ⟨rfl, hh, hk⟩
  rw [HA.out] at hh
  have n0 : g < w1.heap.size := hh.lt
  have q18 : w1.cell? ⟨g, 18, none⟩ = some (.int .i64 k.ob) := (hh.restc 11).trans rfl
  have q33 : w1.cell? ⟨g, 33, none⟩ = some (.bool s.r.eb) := (hh.restc 26).trans rfl
  have f33 := hh.free 33
  have HH := Aside0.mk (And.intro hh hk)
  clear hh hk
  go_wp2_with fail
  rw [Exit.noGoto_ret]
  go_ret
  refine step_none H0.out.1 H0.out.2.1 H0.out.2.2.1 H0.out.2.2.2 (HH.out.2.set 33 _) HP.out (fun fv hfv => ?_) rfl rfl rfl
  subst hfv
  exact HH.out.1.st1 33 _ (rest_all c k _ _ _ rfl rfl) ⟨c.byte.1, c.byte.2.1⟩ (fun a h7 => by simp [Array.setIfInBounds_append_right, h7])

end Go.Proofs.YtdepfipebogdcaaDoor.Line

/- A step of a line reader, whole. -/
namespace Go.Proofs.YtdepfipebogdcaaDoor.Line
set_option maxRecDepth 100000
open Go.RowKit Go.Proofs.YtdepfipebogdcaaDoorW.PrintWords Go.Proofs.YtdepfipebogdcaaDoorW.PrintLast Go.Proofs.YtdepfipebogdcaaDoorW.PrintMore Go.Proofs.YtdepfipebogdcaaDoor.Leb Go.Proofs.YtdepfipebogdcaaDoor.Buf

theorem zeroAt_eq : ∀ l : List Int, zeroAt l = Buf.zeroAt l
  | [] => rfl
  | b :: r => by rw [zeroAt, Buf.zeroAt, zeroAt_eq r]
theorem bind_some' {α β : Type} {o : Option α} {f : α → Option β} {r : β} (h : o.bind f = some r) : ∃ a, o = some a ∧ f a = some r := by
  cases o with
  | none => cases h
  | some a => exact ⟨a, rfl, h⟩
theorem ite_some {α : Type} {c : Prop} [Decidable c] {a : Option α} {r : α} (h : (if c then a else none) = some r) : c ∧ a = some r := by
  split at h
  · exact ⟨by assumption, h⟩
  · cases h

/-- The names that are read are absolute. -/
def Names (k : K) : Prop := ∀ nm d r, nm.size < 2147483648 → nameIn k.dirs nm d = some r → NameOk k.dirs nm d.toNat r
theorem size_strOf (l : List Int) : (strOf l).size = l.length := by
  unfold strOf
  show (List.map _ l).toArray.size = _
  simp

theorem step_calls {w : World} {g ge : Nat} {c : RC} {k : K} {s s' : St} {es : Array Value} {o : Option Row} (h : HasR w g c k s) (he : w.heap[ge]? = some (.cells es 92 (0, 0))) (hes : IsRow es) (hk : KOk k) (hnm : Names k) (hnb : ∀ x ∈ k.ol, x < 256) (hn32 : s.n < 4294967295) (hst : k.step s = some (o, s')) (hq : s'.p ≤ k.eo) :
    Calls Tryd.prog 51 #[.pointer (some ⟨g, 0, none⟩), .pointer (some ⟨ge, 0, none⟩)] w fun e w' => StepPost w g ge c k es o s' e w' := by
  unfold K.step at hst
  cases hl : k.at s.p with
  | nil => rw [hl] at hst; cases hst
  | cons op l =>
    rw [hl] at hst
    simp only at hst
    have hB : 0 ≤ op ∧ op < 256 := by
      obtain ⟨b, cap, fp, hH, _⟩ := h.at_
      exact hH.byte op (by simp [hl])
    by_cases hob : k.ob ≤ op
    · rw [if_pos hob] at hst
      obtain ⟨⟨h1, h2⟩, h3⟩ := ite_some hst
      cases h3
      exact step_special h he hl hq hes hob hk h1 h2
    · rw [if_neg hob] at hst
      have hob' : op < k.ob := by omega
      by_cases h0 : op = 0
      · subst h0
        rw [if_pos rfl] at hst
        obtain ⟨⟨v, n⟩, hu, hst⟩ := bind_some' hst
        simp only at hst
        cases hx : k.at (s.p + 1 + n) with
        | nil => rw [hx] at hst; cases hst
        | cons x l2 =>
          rw [hx] at hst
          simp only at hst
          obtain ⟨⟨hv, hqe⟩, hst⟩ := ite_some hst
          unfold K.ext at hst
          by_cases x1 : x = 1
          · subst x1
            rw [if_pos rfl] at hst
            cases hst
            exact ext_1 h he hes hl hob' hu hx hv hqe
          rw [if_neg x1] at hst
          by_cases x2 : x = 2
          · subst x2
            rw [if_pos rfl] at hst
            by_cases a8 : k.asz = 8
            · rw [if_pos a8] at hst
              split at hst
              · rename_i b0 b1 b2 b3 b4 b5 b6 b7 l3 hz
                obtain ⟨hm, h3⟩ := ite_some hst
                cases h3
                exact ext_a8 h he hes hl hob' hu hx hv hqe hz a8 (by omega)
              · cases hst
            · rw [if_neg a8] at hst
              obtain ⟨a4, hst⟩ := ite_some hst
              split at hst
              · rename_i b0 b1 b2 b3 l3 hz
                obtain ⟨hm, h3⟩ := ite_some hst
                cases h3
                exact ext_a4 h he hes hl hob' hu hx hv hqe hz a4 (by omega)
              · cases hst
          rw [if_neg x2] at hst
          by_cases x3 : x = 3
          · subst x3
            rw [if_pos rfl] at hst
            obtain ⟨⟨fo, fn⟩, hf, hst⟩ := bind_some' hst
            unfold fileIn at hf
            obtain ⟨i, hz, hf⟩ := bind_some' hf
            by_cases hi : i = 0
            · rw [if_pos hi] at hf
              cases hf
              cases hst
            · rw [if_neg hi] at hf
              obtain ⟨⟨dv, dn⟩, hd, hf⟩ := bind_some' hf
              obtain ⟨nm, hnm', hf⟩ := bind_some' hf
              obtain ⟨⟨mv, mn⟩, hm, hf⟩ := bind_some' hf
              obtain ⟨⟨lv, ln⟩, hln, hf⟩ := bind_some' hf
              simp only at hf hm hln
              cases hf
              simp only at hst
              obtain ⟨⟨hle, hfi0, hsome⟩, h3⟩ := ite_some hst
              cases h3
              obtain ⟨d1, d2⟩ := unum_some hd
              obtain ⟨m1, m2⟩ := unum_some hm
              obtain ⟨l1, l2'⟩ := unum_some hln
              have hab := hnm _ _ _ (by rw [size_strOf, List.length_take]; have h1 := at_length (k := k) (s.p + 1 + n + 1) h.eo; have h2 := h.len; have h3 := h.eo; omega) hnm'
              rw [Int.toNat_natCast] at hab
              rw [zeroAt_eq] at hz
              exact ext_3 h he hes hl hob' hu hx hv hqe hz (by omega) d1 d2 hab m1 m2 l1 l2' (by omega) hfi0 hsome hn32
          rw [if_neg x3] at hst
          by_cases x4 : x = 4
          · subst x4
            rw [if_pos rfl] at hst
            obtain ⟨⟨z, m⟩, hz, hst⟩ := bind_some' hst
            obtain ⟨hm, h3⟩ := ite_some hst
            cases h3
            exact ext_4 h he hes hl hob' hu hx hv hqe hz (by simp only at hm; omega)
          rw [if_neg x4] at hst
          cases hst
          exact ext_other h he hes hl hob' hu hx hv hqe (by simp [x1]) (by simp [x2]) (by simp [x3]) (by simp [x4])
      rw [if_neg h0] at hst
      by_cases h1 : op = 1
      · subst h1
        rw [if_pos rfl] at hst
        cases hst
        exact step_1 h he hl hq hes hob'
      rw [if_neg h1] at hst
      by_cases h2 : op = 2
      · subst h2
        rw [if_pos rfl] at hst
        obtain ⟨⟨v, n⟩, hu, hst⟩ := bind_some' hst
        obtain ⟨hf, h3⟩ := ite_some hst
        cases h3
        exact step_2 hu hk hf h he hl hq hob'
      rw [if_neg h2] at hst
      by_cases h3 : op = 3
      · subst h3
        rw [if_pos rfl] at hst
        obtain ⟨⟨v, n⟩, hu, hst⟩ := bind_some' hst
        obtain ⟨hf, h4⟩ := ite_some hst
        cases h4
        exact step_3 hu hf h he hl hq hob'
      rw [if_neg h3] at hst
      by_cases h4 : op = 4
      · subst h4
        rw [if_pos rfl] at hst
        obtain ⟨⟨v, n⟩, hu, hst⟩ := bind_some' hst
        cases hst
        exact step_4 hu h he hl hq hob'
      rw [if_neg h4] at hst
      by_cases h5 : op = 5
      · subst h5
        rw [if_pos rfl] at hst
        obtain ⟨⟨v, n⟩, hu, hst⟩ := bind_some' hst
        cases hst
        exact step_5 hu h he hl hq hob'
      rw [if_neg h5] at hst
      by_cases h6 : op = 6
      · subst h6
        rw [if_pos rfl] at hst
        cases hst
        exact step_6 h he hl hq hob'
      rw [if_neg h6] at hst
      by_cases h7 : op = 7
      · subst h7
        rw [if_pos rfl] at hst
        cases hst
        exact step_7 h he hl hq hob'
      rw [if_neg h7] at hst
      by_cases h8 : op = 8
      · subst h8
        rw [if_pos rfl] at hst
        obtain ⟨hf, h9⟩ := ite_some hst
        cases h9
        exact step_8 h he hl hq hob' hk hf
      rw [if_neg h8] at hst
      by_cases h9 : op = 9
      · subst h9
        rw [if_pos rfl] at hst
        split at hst
        · rename_i b0 b1 l1 hz
          obtain ⟨hf, h10⟩ := ite_some hst
          cases h10
          exact step_9 hz hf h he hl hq hob'
        · cases hst
      rw [if_neg h9] at hst
      by_cases h10 : op = 10
      · subst h10
        rw [if_pos rfl] at hst
        cases hst
        exact step_10 h he hl hq hob'
      rw [if_neg h10] at hst
      by_cases h11 : op = 11
      · subst h11
        rw [if_pos rfl] at hst
        cases hst
        exact step_11 h he hl hq hob'
      rw [if_neg h11] at hst
      by_cases h12 : op = 12
      · subst h12
        rw [if_pos rfl] at hst
        obtain ⟨⟨v, n⟩, hu, hst⟩ := bind_some' hst
        cases hst
        exact step_12 hu h he hl hq hob'
      rw [if_neg h12] at hst
      obtain ⟨p, hs, hst⟩ := bind_some' hst
      cases hst
      refine step_skip h he hl (by omega) hob' hk hs ?_ hq
      have hol := hk.ol
      obtain ⟨O, rfl⟩ := Int.eq_ofNat_of_zero_le hB.1
      rw [Int.toNat_natCast, List.getD_eq_getElem?_getD, List.getElem?_eq_getElem (by omega)]
      have := hnb _ (List.getElem_mem (l := k.ol) (n := O) (by omega))
      simp only [Option.getD_some]
      omega
end Go.Proofs.YtdepfipebogdcaaDoor.Line

/- Plain: the next row of a line program. -/
namespace Go.Proofs.YtdepfipebogdcaaDoor.Line
open Go Go.Proofs.YtdepfipebogdcaaDoor.Leb

/-- The next row, or none at the end of the bytes. -/
def K.nx (k : K) : Nat → St → Option (Option Row × St)
  | 0, _ => none
  | m + 1, s => match k.at s.p with
    | [] => some (none, s)
    | _ :: _ => (k.step s).bind fun rs => if rs.2.p ≤ k.eo ∧ s.n < 4294967295 then match rs.1 with
      | some r => some (some r, rs.2)
      | none => k.nx m rs.2
      else none
end Go.Proofs.YtdepfipebogdcaaDoor.Line

/- Next: the next row of a line program. -/
namespace Go.Proofs.YtdepfipebogdcaaDoor.Line
set_option maxRecDepth 100000
open Go.RowKit Go.Proofs.YtdepfipebogdcaaDoorW.PrintWords Go.Proofs.YtdepfipebogdcaaDoorW.PrintLast Go.Proofs.YtdepfipebogdcaaDoorW.PrintMore Go.Proofs.YtdepfipebogdcaaDoor.Leb Go.Proofs.YtdepfipebogdcaaDoor.Buf

/-- What Next leaves. -/
def NextPost (w : World) (g ge : Nat) (c : RC) (k : K) (EV : Value) (es : Array Value) (o : Option Row) (s' : St) (e : Ending) (w' : World) : Prop :=
  e = .returned (match o with | some _ => .nilIface | none => EV) ∧ HasR w' g c k s' ∧ EntryIs w' c.base ge es o ∧ Kx w w' c.base g ge
theorem Kx.glob {w w' : World} {base g ge b : Nat} {v : Value} (h : Kx w w' base g ge) (hb : b < base) (hg : base ≤ g) (he : base ≤ ge) (hc : w.cell? ⟨b, 0, none⟩ = some v) : w'.cell? ⟨b, 0, none⟩ = some v := by
  have hlt : b < w.heap.size := World.block_lt_of_cell? w _ hc
  rw [← hc]
  unfold World.cell?
  rw [h.block b hlt]
  rintro (e | e | ⟨e, _⟩) <;> omega
theorem HasR.cells5 {w : World} {g : Nat} {c : RC} {k : K} {s : St} (h : HasR w g c k s) : ∃ A cap, w.cell? ⟨g, 5, none⟩ = some (.slice A (k.at s.p).length cap) ∧ w.cell? ⟨g, 6, none⟩ = some .nilIface ∧ g < w.heap.size := by
  obtain ⟨b, cap, fp, hH, _⟩ := h.at_
  obtain ⟨A, cap', _, _, _, _, q5, _⟩ := hH.parts
  exact ⟨A, cap', q5, hH.noerr rfl, hH.lt⟩

set_option maxHeartbeats 1000000 in
theorem next_calls {w : World} {g ge : Nat} {c : RC} {k : K} {s s' : St} {es : Array Value} {o : Option Row} {m et : Nat} {ev : Value} (h : HasR w g c k s) (he : w.heap[ge]? = some (.cells es 92 (0, 0))) (hes : IsRow es) (hk : KOk k) (hnm : Names k) (hnb : ∀ x ∈ k.ol, x < 256)
    (hE : w.cell? ⟨0, 0, none⟩ = some (.iface et ev)) (hEb : 0 < c.base) (hgb : c.base ≤ ge) (hn : k.nx m s = some (o, s')) :
    Calls Tryd.prog 31 #[.pointer (some ⟨g, 0, none⟩), .pointer (some ⟨ge, 0, none⟩)] w fun e w' => NextPost w g ge c k (.iface et ev) es o s' e w' := by
  obtain ⟨A, cap, _, q6, n0⟩ := h.cells5
  have H0 := Aside0.mk (And.intro h (And.intro he hE))
  have HC := Aside0.mk (And.intro hes (And.intro hk (And.intro hnm (And.intro hnb (And.intro hEb hgb)))))
  have HN := Aside0.mk hn
  clear h he hes hk hnm hnb hE hEb hgb hn
  go_enter Tryd.func31, Tryd.ntmps31
  go_wp2_with fail
  go_loopg [4, 5] m (fun kq v4 v5 w' => v4 = .nilIface ∧ ∃ s1, Aside0 (k.nx kq s1 = some (o, s')) ∧ Aside0 (HasR w' g c k s1 ∧ w'.heap[ge]? = some (.cells es 92 (0, 0)) ∧ Kx w w' c.base g ge))
  case atStart => exact ⟨rfl, s, HN, ⟨⟨H0.out.1, H0.out.2.1, Kx.refl _ _ _ _⟩⟩⟩
  case round =>
    obtain ⟨rfl, s1, HNX, HR⟩ := hrel
    clear q6 n0
    obtain ⟨A1, cap1, q5, q6, n0⟩ := HR.out.1.cells5
    have qE := HR.out.2.2.glob HC.out.2.2.2.2.1 HR.out.1.base HC.out.2.2.2.2.2 H0.out.2.2
    cases hq : gk with
    | zero => have h1 := HNX.out; rw [hq] at h1; simp [K.nx] at h1
    | succ m1 =>
      have h1 := HNX.out
      rw [hq] at h1
      unfold K.nx at h1
      cases hl : k.at s1.p with
      | nil =>
        rw [hl] at h1 q5
        simp only [Option.some.injEq, Prod.mk.injEq] at h1
        obtain ⟨rfl, rfl⟩ := h1
        simp only [List.length_nil] at q5
        have HF : Aside0 (EntryIs wr c.base ge es none) := ⟨HR.out.2.1⟩
        clear hl hq
        go_wp2_with fail
        go_ret
        exact ⟨rfl, HR.out.1, HF.out, HR.out.2.2⟩
      | cons b0 l0 =>
        rw [hl] at h1 q5
        simp only at h1
        obtain ⟨⟨o1, s2⟩, hst, h1⟩ := bind_some' h1
        simp only at h1
        obtain ⟨⟨hp, hn32⟩, h1⟩ := ite_some h1
        have HS := Aside0.mk (step_calls HR.out.1 HR.out.2.1 HC.out.1 HC.out.2.1 HC.out.2.2.1 HC.out.2.2.2.1 hn32 hst hp)
        have c0 : ((((b0 :: l0).length : Nat) : Int) == 0) = false := by simp; omega
        obtain ⟨L, hL⟩ : ∃ L : Nat, (b0 :: l0).length = L := ⟨_, rfl⟩
        have c1 : decide ((L : Int) = 0) = false := by rw [← hL]; simp; omega
        rw [hL] at c0 q5
        have HQ := Aside0.mk hq
        have HH1 := Aside0.mk h1
        clear hl hL hst hp hn32 h1 hq
        go_wp2_with fail
        refine HS.out.mono ?_
        rintro e w2 ⟨rfl, hr2, he2, hk2⟩
        obtain ⟨A2, cap2, q52, q62, n02⟩ := hr2.cells5
        cases o1 with
        | none =>
          have HX := Aside0.mk (And.intro hr2 (And.intro he2 (HR.out.2.2.trans hk2)))
          clear hr2 he2 hk2 q52 HS
          go_wp2_with fail
          go_roundg m1
          case measure => rw [HQ.out]; omega
          case rel => exact ⟨rfl, s2, HH1, ⟨HX.out⟩⟩
        | some r =>
          have h1 := HH1.out
          simp only [Option.some.injEq, Prod.mk.injEq] at h1
          obtain ⟨rfl, rfl⟩ := h1
          have HX := Aside0.mk (And.intro hr2 (And.intro he2 (HR.out.2.2.trans hk2)))
          clear hr2 he2 hk2 q52 HS
          go_wp2_with fail
          go_ret
          exact ⟨rfl, HX.out⟩
end Go.Proofs.YtdepfipebogdcaaDoor.Line

/- Reset: the reader at the beginning of its program. -/
namespace Go.Proofs.YtdepfipebogdcaaDoor.Line
set_option maxRecDepth 100000
open Go.RowKit Go.Proofs.YtdepfipebogdcaaDoorW.PrintWords Go.Proofs.YtdepfipebogdcaaDoorW.PrintLast Go.Proofs.YtdepfipebogdcaaDoorW.PrintMore Go.Proofs.YtdepfipebogdcaaDoor.Leb Go.Proofs.YtdepfipebogdcaaDoor.Buf

/-- The bytes of a reader are others: what is written is its place and its bytes. -/
theorem _root_.Go.Proofs.YtdepfipebogdcaaDoor.Buf.Has.moved {w : World} {g t : Nat} {rest : Array Value} {c : BC} {s : S} (h : Has w g t rest c s) (hok : s.ok = true) (off : Int) {A : Option Addr} {cap : Nat} {l : List Int} (hC : Kd.C (Kd.int .u8) w A l.length l) (hc : l.length ≤ cap) (hl : l.length < 2147483648) (hb : Bytes l) :
    Has ((w.setCell ⟨g, 4, none⟩ (.int .u32 off)).setCell ⟨g, 5, none⟩ (.slice A l.length cap)) g t rest c ⟨off, l, true⟩ := by
  obtain ⟨A0, cap0, ev, hg, hC0, _, he⟩ := h.at_
  have h2 := blk_set (blk_set hg 4 (.int .u32 off)) 5 (.slice A l.length cap)
  have q4 : w.cell? ⟨g, 4, none⟩ = some (.int .u32 s.off) := (blk_cell hg 4).trans (cells_at c s A0 cap0 ev rest 4 (by decide))
  have q5 : w.cell? ⟨g, 5, none⟩ = some (.slice A0 s.l.length cap0) := (blk_cell hg 5).trans (cells_at c s A0 cap0 ev rest 5 (by decide))
  rw [hok] at he
  refine ⟨⟨A, cap, ev, ?_, ?_, hc, he⟩, hl, hb, fun h => by cases h⟩
  · rw [h2]
    simp [cellsOf]
  · refine C_set (v := .slice A0 s.l.length cap0) (C_set hC q4 (fun x => by simp) _) ?_ (fun x => by simp) _
    rw [set_other _ _ _ _ (by decide)]
    exact q5

set_option maxHeartbeats 1000000 in
theorem reset_calls {w : World} {g b cap : Nat} {c : RC} {k : K} {s : St} {fp : Value} {S0 : S} (hH : Has w g 94 (rest c k s (.slice (some ⟨b, 0, none⟩) s.n cap) fp) c.bc S0) (hok : S0.ok = true) (hfp : isByte fp = false) (hF : FilesAt w c.base b cap s.fs) (hn : s.n ≤ s.fs.length)
    (hsec : Lies w 5 (Kd.int .u8) c.sec k.sec) (hol : Lies w 3 (Kd.int .i64) c.ol k.ol) (hdirs : Lies w 9 Kd.string c.dirs k.dirs) (hk : KOk k) (hbase : c.base ≤ g) (hbig : c.bc.big = k.big) (hpe : k.po ≤ k.eo) (heo : k.eo ≤ k.sec.length) (hlen : k.sec.length < 2147483648) (hn0 : k.n0 ≤ s.fs.length) :
    Calls Tryd.prog 30 #[.pointer (some ⟨g, 0, none⟩)] w fun e w' => e = .returned (.tuple #[]) ∧ HasR w' g c k (k.reset s) ∧ Kp w w' g := by
  have hsec0 := hsec
  obtain ⟨A, sc, e1, e2, hC, hA⟩ := hsec
  have hcapn := hF.le
  have n0 : g < w.heap.size := hH.lt
  have q22 : w.cell? ⟨g, 22, none⟩ = some (.int .u32 (k.po : Int)) := (hH.restc 15).trans rfl
  have q23 : w.cell? ⟨g, 23, none⟩ = some (.int .u32 (k.eo : Int)) := (hH.restc 16).trans rfl
  have q24 : w.cell? ⟨g, 24, none⟩ = some (.int .i64 (k.n0 : Int)) := (hH.restc 17).trans rfl
  have q7 : w.cell? ⟨g, 7, none⟩ = some (.slice A k.sec.length sc) := by rw [hH.restc 0, ← e1]; rfl
  have q21 : w.cell? ⟨g, 21, none⟩ = some (.slice (some ⟨b, 0, none⟩) s.n cap) := (hH.restc 14).trans rfl
  obtain ⟨A4, c4, ev4, _, _, q4, q5, _⟩ := hH.parts
  have f4 := hH.free 4
  have f5 := hH.free 5
  have f21 := hH.free 21
  have hlat : (k.at k.po).length = k.eo - k.po := at_length _ heo
  have hmid : Kd.C (Kd.int .u8) w (if sc = k.po then A else A.map (·.add k.po)) (k.at k.po).length (k.at k.po) := by
    have h := Kd.C_mid (c := sc) (lo := k.po) (hi := k.eo) hC hpe heo e2
    simpa [Kd.int, Kd.scalar, K.at] using h
  obtain ⟨A', hA'⟩ : ∃ A', (if sc = k.po then A else A.map (·.add k.po)) = A' := ⟨_, rfl⟩
  rw [hA'] at hmid
  obtain ⟨W, hW⟩ : ∃ W, ((w.setCell ⟨g, 4, none⟩ (.int .u32 (k.po : Int))).setCell ⟨g, 5, none⟩ (.slice A' (k.eo - k.po) (sc - k.po))) = W := ⟨_, rfl⟩
  have h2 : Has W g 94 (rest c k s (.slice (some ⟨b, 0, none⟩) s.n cap) fp) c.bc ⟨(k.po : Int), k.at k.po, true⟩ := by
    rw [← hW, ← hlat]
    exact hH.moved hok _ hmid (by omega) (by omega) (fun x hx => hk.byte x (List.mem_of_mem_take (List.mem_of_mem_drop hx)))
  have k2 : Kp w W g := by
    rw [← hW]
    exact ((Kp.refl w g).set 4 _).set 5 _
  have d1 : (0 ≤ (k.po : Int)) = True := eq_true (by omega)
  have d2 : ((k.po : Int) ≤ (k.eo : Int)) = True := eq_true (by omega)
  have d3 : (k.po ≤ k.eo) = True := eq_true hpe
  have d4 : k.eo ≤ sc := by omega
  have d5 : k.n0 ≤ cap := by omega
  have d6 : (0 ≤ (k.n0 : Int)) = True := eq_true (by omega)
  have HX := Aside0.mk (And.intro h2 (And.intro k2 (And.intro hF (And.intro hH.blk hsec0))))
  have HY := Aside0.mk (And.intro hol (And.intro hdirs (And.intro hk (And.intro hbase hbig))))
  have HZ := Aside0.mk (And.intro hpe (And.intro heo (And.intro hlen (And.intro hn0 hfp))))
  clear hH hok hF hn hol hdirs hk hbase hbig hlen e1 e2 hC hA hmid hlat h2 k2 hcapn hpe heo hn0 hfp hsec0
  go_enter Tryd.func30, Tryd.ntmps30
  go_wp2_with fail
  go_region
  try rw [hW]
  clear hW hA' q22 q23 q24 q7 q21 q4 q5 f4 f5 f21 n0
  have H3 : Aside0 (Has W.drew g 94 (rest c k s (.slice (some ⟨b, 0, none⟩) s.n cap) fp) c.bc ⟨(k.po : Int), k.at k.po, true⟩ ∧ Kp w W.drew g) := ⟨HX.out.1.drewN 1, HX.out.2.1.drewN 1⟩
  revert H3
  generalize W.drew = w3
  intro H3
  have n0 : g < w3.heap.size := H3.out.1.lt
  have q24 : w3.cell? ⟨g, 24, none⟩ = some (.int .i64 (k.n0 : Int)) := (H3.out.1.restc 17).trans rfl
  have q21 : w3.cell? ⟨g, 21, none⟩ = some (.slice (some ⟨b, 0, none⟩) s.n cap) := (H3.out.1.restc 14).trans rfl
  have f21 := H3.out.1.free 21
  go_wp2_with fail
  refine Fast.wp_tail 12 (by kernel_rfl) (by kernel_rfl) ?_
  simp only [List.take_succ_cons, List.take_zero, List.drop_succ_cons, List.drop_zero]
  repeat still_step
  try refine wpStill_nil ?_
  change wpList _ _ _ _ _ w3.drew
  have k4 : Kp w (w3.drew.setCell ⟨g, 21, none⟩ (.slice (some ⟨b, 0, none⟩) k.n0 cap)) g := (H3.out.2.drewN 1).set 21 _
  have h4 : Has (w3.drew.setCell ⟨g, 21, none⟩ (.slice (some ⟨b, 0, none⟩) k.n0 cap)) g 94 (rest c k { s with p := k.po, n := k.n0 } (.slice (some ⟨b, 0, none⟩) k.n0 cap) fp) c.bc ⟨(k.po : Int), k.at k.po, true⟩ :=
    (H3.out.1.drewN 1).st1 21 _ (rest_all c k _ _ _ rfl HZ.out.2.2.2.2) ⟨c.byte.1, c.byte.2.1⟩ (fun a h7 => by simp [Array.setIfInBounds_append_right, h7])
  have hF4 : FilesAt (w3.drew.setCell ⟨g, 21, none⟩ (.slice (some ⟨b, 0, none⟩) k.n0 cap)) c.base b cap s.fs := HX.out.2.2.1.kp k4 HX.out.2.2.2.1
  have H4 : Aside0 (Has ((w3.setCell ⟨g, 21, none⟩ (.slice (some ⟨b, 0, none⟩) k.n0 cap)).drew) g 94 (rest c k { s with p := k.po, n := k.n0 } (.slice (some ⟨b, 0, none⟩) k.n0 cap) fp) c.bc ⟨(k.po : Int), k.at k.po, true⟩ ∧ Kp w ((w3.setCell ⟨g, 21, none⟩ (.slice (some ⟨b, 0, none⟩) k.n0 cap)).drew) g ∧ FilesAt ((w3.setCell ⟨g, 21, none⟩ (.slice (some ⟨b, 0, none⟩) k.n0 cap)).drew) c.base b cap s.fs) := ⟨h4, k4, hF4⟩
  clear h4 k4 hF4
  go_wp2_with fail
  revert H4
  generalize (w3.setCell ⟨g, 21, none⟩ (.slice (some ⟨b, 0, none⟩) k.n0 cap)).drew = w4
  intro H4
  clear q21 q24 f21 n0
  have HR := Aside0.mk (resetState_has (s := { s with p := k.po, n := k.n0 }) H4.out.1 HZ.out.2.2.2.2 H4.out.2.2 HZ.out.2.2.2.1)
  have n0 : g < w4.heap.size := H4.out.1.lt
  refine HR.out.mono ?_
  rintro e w5 ⟨rfl, fq, h5, hp5, k5⟩
  have k5' := H4.out.2.1.trans k5
  obtain ⟨cg, hg⟩ := HX.out.2.2.2.1
  have H5 : Aside0 (HasR w5 g c k (k.reset s) ∧ Kp w w5 g) := ⟨⟨⟨b, cap, fq, h5, HX.out.2.2.1.kp k5' ⟨_, hg⟩, hp5⟩, HZ.out.2.2.2.1, HZ.out.1, HZ.out.2.1, HZ.out.2.2.1,
    HX.out.2.2.2.2.kx (base := c.base) (fun _ _ _ _ h => h) (Kx.of_Kp (ge := g) k5') (ne_blk hg (by decide)) (ne_blk hg (by decide)) (by decide),
    HY.out.1.kx (base := c.base) (fun _ _ _ _ h => h) (Kx.of_Kp (ge := g) k5') (ne_blk hg (by decide)) (ne_blk hg (by decide)) (by decide),
    HY.out.2.1.kx (base := c.base) (fun _ _ _ _ h => h) (Kx.of_Kp (ge := g) k5') (ne_blk hg (by decide)) (ne_blk hg (by decide)) (by decide), HY.out.2.2.2.1, HY.out.2.2.2.2⟩, k5'⟩
  have n0 : g < w5.heap.size := h5.lt
  clear h5 hp5 k5 k5' hg HR H4
  go_wp2_with fail
  go_end0
  exact ⟨rfl, H5.out⟩
end Go.Proofs.YtdepfipebogdcaaDoor.Line

/- The thin package over a line reader: a file, a row, a code, as data. -/
namespace Go.Proofs.YtdepfipebogdcaaDoor.Line
set_option maxRecDepth 100000
open Go.RowKit Go.Proofs.YtdepfipebogdcaaDoorW.PrintWords Go.Proofs.YtdepfipebogdcaaDoorW.PrintLast Go.Proofs.YtdepfipebogdcaaDoorW.PrintMore Go.Proofs.YtdepfipebogdcaaDoor.Leb Go.Proofs.YtdepfipebogdcaaDoor.Buf

theorem sizeFile : (Tryd.prog.info? 36).map (·.size) = some 4 := by kernel_rfl
theorem sizeRow : (Tryd.prog.info? 38).map (·.size) = some 15 := by kernel_rfl
/-- A file's cells. -/
def flNone : Option Fl → Bool
  | none => true
  | some _ => false
def flName : Option Fl → ByteArray
  | none => ⟨#[]⟩
  | some f => f.nm
def flTime : Option Fl → Int
  | none => 0
  | some f => f.mt
def flLen : Option Fl → Int
  | none => 0
  | some f => f.ln
/-- fileOf. -/
theorem fileOf_calls {w : World} {base : Nat} {v : Value} {o : Option Fl} (h : PtrIs w base v o) :
    Calls Tryd.prog 37 #[v] w fun e w' => e = .returned (.agg #[.bool (flNone o), .string (flName o), .int .u64 (flTime o), .int .i64 (flLen o)]) ∧ Below w.heap.size w w' := by
  cases o with
  | none =>
    obtain rfl : v = .pointer none := h
    go_enter Tryd.func37, Tryd.ntmps37
    go_wp2
    refine bodyPost_ret (results_cell_row rfl _ _ _ _ _ _ _ rfl (heap_alloc_new _ _) Tryd.underlying36 rfl sizeFile) rfl ⟨rfl, below_alloc (Below.refl _ _) _⟩
  | some f =>
    obtain ⟨b, rfl, _, hb⟩ := h
    have hlt := blk_lt hb
    have hA := heap_alloc_new w (.cells #[.bool false, .string ⟨#[]⟩, .int .u64 0, .int .i64 0] 36)
    have hB := below_alloc (Below.refl w.heap.size w) (.cells #[.bool false, .string ⟨#[]⟩, .int .u64 0, .int .i64 0] 36)
    go_enter Tryd.func37, Tryd.ntmps37
    go_wp2
    revert hA hB
    generalize w.alloc (.cells #[.bool false, .string ⟨#[]⟩, .int .u64 0, .int .i64 0] 36) = w1
    generalize hgs : w.heap.size = gs
    intro hA hB
    have hb1 := (hB.block b (hgs ▸ hlt)).trans hb
    have n1 : gs < w1.heap.size := blk_lt hA
    have p0 : w1.cell? ⟨gs, 0, none⟩ = some (.bool false) := (blk_cell hA 0).trans rfl
    have p1 : w1.cell? ⟨gs, 1, none⟩ = some (.string ⟨#[]⟩) := (blk_cell hA 1).trans rfl
    have p2 : w1.cell? ⟨gs, 2, none⟩ = some (.int .u64 0) := (blk_cell hA 2).trans rfl
    have p3 : w1.cell? ⟨gs, 3, none⟩ = some (.int .i64 0) := (blk_cell hA 3).trans rfl
    have z0 := blk_frozen hA 0
    have z1 := blk_frozen hA 1
    have z2 := blk_frozen hA 2
    have z3 := blk_frozen hA 3
    have HX := Aside0.mk (And.intro hA (And.intro hB hgs))
    have n0 : b < w1.heap.size := blk_lt hb1
    have q0 : w1.cell? ⟨b, 0, none⟩ = some (.string f.nm) := (blk_cell hb1 0).trans rfl
    have q1 : w1.cell? ⟨b, 1, none⟩ = some (.int .u64 f.mt) := (blk_cell hb1 1).trans rfl
    have q2 : w1.cell? ⟨b, 2, none⟩ = some (.int .i64 f.ln) := (blk_cell hb1 2).trans rfl
    clear hb hlt hb1 hA hB hgs
    refine Fast.wp_tail 13 (by kernel_rfl) (by kernel_rfl) ?_
    simp only [List.take_succ_cons, List.take_zero, List.drop_succ_cons, List.drop_zero]
    repeat still_step
    try refine wpStill_nil ?_
    change wpList _ _ _ _ _ w1.drew
    go_wp2
    have hE := blk_set (blk_set (blk_set (blk_set HX.out.1 0 (.bool false)) 1 (.string f.nm)) 2 (.int .u64 f.mt)) 3 (.int .i64 f.ln)
    have hB2 := Below.setCell (Below.setCell (Below.setCell (Below.setCell HX.out.2.1 (p := ⟨gs, 0, none⟩) (Nat.le_refl _) (.bool false)) (p := ⟨gs, 1, none⟩) (Nat.le_refl _) (.string f.nm)) (p := ⟨gs, 2, none⟩) (Nat.le_refl _) (.int .u64 f.mt)) (p := ⟨gs, 3, none⟩) (Nat.le_refl _) (.int .i64 f.ln)
    refine bodyPost_ret (results_cell_row rfl _ _ _ _ _ _ _ rfl hE Tryd.underlying36 rfl sizeFile) rfl ⟨rfl, ?_⟩
    rw [HX.out.2.2]
    exact below_drew1 hB2

theorem row_S {w1 W : World} {gs : Nat} {v0 v1 v2 v3 v4 v5 v6 v7 v8 v9 v10 v11 : Value} (hA : w1.heap[gs]? = some (.cells #[v0, v1, v2, v3, v4, v5, v6, v7, v8, v9, v10, v11] 92 (0, 0))) (hB : Below (gs + 1) w1 W) : W.cell? ⟨gs, 0, none⟩ = some v0 ∧ W.cell? ⟨gs, 1, none⟩ = some v1 ∧ W.cell? ⟨gs, 2, none⟩ = some v2 ∧ W.cell? ⟨gs, 3, none⟩ = some v3 ∧ W.cell? ⟨gs, 4, none⟩ = some v4 ∧ W.cell? ⟨gs, 5, none⟩ = some v5 ∧ W.cell? ⟨gs, 6, none⟩ = some v6 ∧ W.cell? ⟨gs, 7, none⟩ = some v7 ∧ W.cell? ⟨gs, 8, none⟩ = some v8 ∧ W.cell? ⟨gs, 9, none⟩ = some v9 ∧ W.cell? ⟨gs, 10, none⟩ = some v10 ∧ W.cell? ⟨gs, 11, none⟩ = some v11 := by
  have h := (hB.block gs (by omega)).trans hA
  exact ⟨(blk_cell h 0).trans rfl, (blk_cell h 1).trans rfl, (blk_cell h 2).trans rfl, (blk_cell h 3).trans rfl, (blk_cell h 4).trans rfl, (blk_cell h 5).trans rfl, (blk_cell h 6).trans rfl, (blk_cell h 7).trans rfl, (blk_cell h 8).trans rfl, (blk_cell h 9).trans rfl, (blk_cell h 10).trans rfl, (blk_cell h 11).trans rfl⟩
theorem row_P {W : World} {gr : Nat} {v0 v1 v2 v3 v4 v5 v6 v7 v8 v9 v10 v11 v12 v13 v14 : Value} (h : W.heap[gr]? = some (.cells #[v0, v1, v2, v3, v4, v5, v6, v7, v8, v9, v10, v11, v12, v13, v14] 38 (0, 0))) : gr < W.heap.size ∧ W.cell? ⟨gr, 0, none⟩ = some v0 ∧ W.frozen? ⟨gr, 0, none⟩ = false ∧ W.cell? ⟨gr, 1, none⟩ = some v1 ∧ W.frozen? ⟨gr, 1, none⟩ = false ∧ W.cell? ⟨gr, 2, none⟩ = some v2 ∧ W.frozen? ⟨gr, 2, none⟩ = false ∧ W.cell? ⟨gr, 3, none⟩ = some v3 ∧ W.frozen? ⟨gr, 3, none⟩ = false ∧ W.cell? ⟨gr, 4, none⟩ = some v4 ∧ W.frozen? ⟨gr, 4, none⟩ = false ∧ W.cell? ⟨gr, 5, none⟩ = some v5 ∧ W.frozen? ⟨gr, 5, none⟩ = false ∧ W.cell? ⟨gr, 6, none⟩ = some v6 ∧ W.frozen? ⟨gr, 6, none⟩ = false ∧ W.cell? ⟨gr, 7, none⟩ = some v7 ∧ W.frozen? ⟨gr, 7, none⟩ = false ∧ W.cell? ⟨gr, 8, none⟩ = some v8 ∧ W.frozen? ⟨gr, 8, none⟩ = false ∧ W.cell? ⟨gr, 9, none⟩ = some v9 ∧ W.frozen? ⟨gr, 9, none⟩ = false ∧ W.cell? ⟨gr, 10, none⟩ = some v10 ∧ W.frozen? ⟨gr, 10, none⟩ = false ∧ W.cell? ⟨gr, 11, none⟩ = some v11 ∧ W.frozen? ⟨gr, 11, none⟩ = false ∧ W.cell? ⟨gr, 12, none⟩ = some v12 ∧ W.frozen? ⟨gr, 12, none⟩ = false ∧ W.cell? ⟨gr, 13, none⟩ = some v13 ∧ W.frozen? ⟨gr, 13, none⟩ = false ∧ W.cell? ⟨gr, 14, none⟩ = some v14 ∧ W.frozen? ⟨gr, 14, none⟩ = false := by
  exact ⟨blk_lt h, (blk_cell h 0).trans rfl, blk_frozen h 0, (blk_cell h 1).trans rfl, blk_frozen h 1, (blk_cell h 2).trans rfl, blk_frozen h 2, (blk_cell h 3).trans rfl, blk_frozen h 3, (blk_cell h 4).trans rfl, blk_frozen h 4, (blk_cell h 5).trans rfl, blk_frozen h 5, (blk_cell h 6).trans rfl, blk_frozen h 6, (blk_cell h 7).trans rfl, blk_frozen h 7, (blk_cell h 8).trans rfl, blk_frozen h 8, (blk_cell h 9).trans rfl, blk_frozen h 9, (blk_cell h 10).trans rfl, blk_frozen h 10, (blk_cell h 11).trans rfl, blk_frozen h 11, (blk_cell h 12).trans rfl, blk_frozen h 12, (blk_cell h 13).trans rfl, blk_frozen h 13, (blk_cell h 14).trans rfl, blk_frozen h 14⟩
theorem below_set0 {w1 W : World} {g k : Nat} {v : Value} (h : Below g w1 W) : Below g w1 (W.setCell ⟨g, k, none⟩ v) := Below.setCell h (Nat.le_refl _) _
theorem row_end {w w2 : World} {gr : Nat} {u0 u1 u2 u3 u4 u5 u6 u7 u8 u9 u10 u11 u12 u13 u14 : Value} (h : w2.heap[gr]? = some (.cells #[u0, u1, u2, u3, u4, u5, u6, u7, u8, u9, u10, u11, u12, u13, u14] 38 (0, 0))) (hb : Below gr w w2) (v0 v1 v2 v3 v4 v5 v6 v7 v8 v9 v10 v11 v12 v13 v14 : Value) : (((((((((((((((w2.setCell ⟨gr, 0, none⟩ v0).setCell ⟨gr, 1, none⟩ v1).setCell ⟨gr, 2, none⟩ v2).setCell ⟨gr, 3, none⟩ v3).setCell ⟨gr, 4, none⟩ v4).setCell ⟨gr, 5, none⟩ v5).setCell ⟨gr, 6, none⟩ v6).setCell ⟨gr, 7, none⟩ v7).setCell ⟨gr, 8, none⟩ v8).setCell ⟨gr, 9, none⟩ v9).setCell ⟨gr, 10, none⟩ v10).setCell ⟨gr, 11, none⟩ v11).setCell ⟨gr, 12, none⟩ v12).setCell ⟨gr, 13, none⟩ v13).setCell ⟨gr, 14, none⟩ v14).heap[gr]? = some (.cells #[v0, v1, v2, v3, v4, v5, v6, v7, v8, v9, v10, v11, v12, v13, v14] 38 (0, 0)) ∧ Below gr w (((((((((((((((w2.setCell ⟨gr, 0, none⟩ v0).setCell ⟨gr, 1, none⟩ v1).setCell ⟨gr, 2, none⟩ v2).setCell ⟨gr, 3, none⟩ v3).setCell ⟨gr, 4, none⟩ v4).setCell ⟨gr, 5, none⟩ v5).setCell ⟨gr, 6, none⟩ v6).setCell ⟨gr, 7, none⟩ v7).setCell ⟨gr, 8, none⟩ v8).setCell ⟨gr, 9, none⟩ v9).setCell ⟨gr, 10, none⟩ v10).setCell ⟨gr, 11, none⟩ v11).setCell ⟨gr, 12, none⟩ v12).setCell ⟨gr, 13, none⟩ v13).setCell ⟨gr, 14, none⟩ v14) := by
  refine ⟨?_, (below_set0 (below_set0 (below_set0 (below_set0 (below_set0 (below_set0 (below_set0 (below_set0 (below_set0 (below_set0 (below_set0 (below_set0 (below_set0 (below_set0 (below_set0 hb)))))))))))))))⟩
  rw [(blk_set (blk_set (blk_set (blk_set (blk_set (blk_set (blk_set (blk_set (blk_set (blk_set (blk_set (blk_set (blk_set (blk_set (blk_set h 0 v0) 1 v1) 2 v2) 3 v3) 4 v4) 5 v5) 6 v6) 7 v7) 8 v8) 9 v9) 10 v10) 11 v11) 12 v12) 13 v13) 14 v14)]
  simp
/-- The values of a row. -/
abbrev rowVals (r : Row) : Array Value := #[.int .u64 r.ad, .int .i64 r.ix, .bool (flNone r.fl), .string (flName r.fl), .int .u64 (flTime r.fl), .int .i64 (flLen r.fl), .int .i64 r.li, .int .i64 r.co, .bool r.st, .bool r.bb, .bool r.pe, .bool r.eb, .int .i64 r.isa, .int .i64 r.di, .bool r.es]
set_option maxHeartbeats 1000000 in
/-- rowOf. -/
theorem rowOf_calls {w : World} {base : Nat} {fp : Value} {r : Row} (h : PtrIs w base fp r.fl) :
    Calls Tryd.prog 32 #[.agg (rowCells r fp)] w fun e w' => e = .returned (.agg (rowVals r)) ∧ Below w.heap.size w w' := by
  obtain ⟨x, rfl⟩ := h.ptr
  have HP := Aside0.mk h
  clear h
  obtain ⟨ad, ix, fl, li, co, st, bb, pe, eb, isa, di, es⟩ := r
  simp only at HP
  unfold rowVals
  simp only
  go_enter Tryd.func32, Tryd.ntmps32
  go_wp2
  have hA := heap_alloc_new w (.cells #[.int .u64 ad, .int .i64 ix, .pointer x, .int .i64 li, .int .i64 co, .bool st, .bool bb, .bool pe, .bool eb, .int .i64 isa, .int .i64 di, .bool es] 92)
  have hB := below_alloc (below_alloc (Below.refl w.heap.size w) (.cells #[.int .u64 ad, .int .i64 ix, .pointer x, .int .i64 li, .int .i64 co, .bool st, .bool bb, .bool pe, .bool eb, .int .i64 isa, .int .i64 di, .bool es] 92)) (.cells #[.int .u64 0, .int .i64 0, .bool false, .string ⟨#[]⟩, .int .u64 0, .int .i64 0, .int .i64 0, .int .i64 0, .bool false, .bool false, .bool false, .bool false, .int .i64 0, .int .i64 0, .bool false] 38)
  have hC := heap_alloc_new (w.alloc (.cells #[.int .u64 ad, .int .i64 ix, .pointer x, .int .i64 li, .int .i64 co, .bool st, .bool bb, .bool pe, .bool eb, .int .i64 isa, .int .i64 di, .bool es] 92)) (.cells #[.int .u64 0, .int .i64 0, .bool false, .string ⟨#[]⟩, .int .u64 0, .int .i64 0, .int .i64 0, .int .i64 0, .bool false, .bool false, .bool false, .bool false, .int .i64 0, .int .i64 0, .bool false] 38)
  rw [World.size_alloc] at hC
  have hA := blk_alloc hA (.cells #[.int .u64 0, .int .i64 0, .bool false, .string ⟨#[]⟩, .int .u64 0, .int .i64 0, .int .i64 0, .int .i64 0, .bool false, .bool false, .bool false, .bool false, .int .i64 0, .int .i64 0, .bool false] 38)
  revert hA hB hC
  generalize (w.alloc (.cells #[.int .u64 ad, .int .i64 ix, .pointer x, .int .i64 li, .int .i64 co, .bool st, .bool bb, .bool pe, .bool eb, .int .i64 isa, .int .i64 di, .bool es] 92)).alloc (.cells #[.int .u64 0, .int .i64 0, .bool false, .string ⟨#[]⟩, .int .u64 0, .int .i64 0, .int .i64 0, .int .i64 0, .bool false, .bool false, .bool false, .bool false, .int .i64 0, .int .i64 0, .bool false] 38) = w1
  generalize hgs : w.heap.size = gs
  intro hB hC hA
  have HC : Aside0 (∀ W, Below w1.heap.size w1 W → Calls Tryd.prog 37 #[.pointer x] W fun e w' => e = .returned (.agg #[.bool (flNone fl), .string (flName fl), .int .u64 (flTime fl), .int .i64 (flLen fl)]) ∧ Below w1.heap.size w1 w') := ⟨fun W hW => by
    refine (fileOf_calls (base := base) (HP.out.keep fun b' cs _ hb => ?_)).mono ?_
    · have hlt := blk_lt hb
      exact (hW.block b' (by have := hB.size; omega)).trans (hB.block b' (by omega))
    · rintro e w' ⟨rfl, hb⟩
      exact ⟨rfl, hW.trans (hb.mono hW.size)⟩⟩
  have HX := Aside0.mk (And.intro hA (And.intro hB (And.intro hC hgs)))
  have HB := Aside0.mk (Below.refl w1.heap.size w1)
  have HM := Aside0.mk (Below.refl (gs + 1) w1)
  clear hA hB hC hgs
  go_region_held3 (fun w' => w'.cell? ⟨gs, 0, none⟩ = some (.int .u64 ad) ∧ w'.cell? ⟨gs, 1, none⟩ = some (.int .i64 ix) ∧ w'.cell? ⟨gs, 2, none⟩ = some (.pointer x) ∧ w'.cell? ⟨gs, 3, none⟩ = some (.int .i64 li) ∧ w'.cell? ⟨gs, 4, none⟩ = some (.int .i64 co) ∧ w'.cell? ⟨gs, 5, none⟩ = some (.bool st) ∧ w'.cell? ⟨gs, 6, none⟩ = some (.bool bb) ∧ w'.cell? ⟨gs, 7, none⟩ = some (.bool pe) ∧ w'.cell? ⟨gs, 8, none⟩ = some (.bool eb) ∧ w'.cell? ⟨gs, 9, none⟩ = some (.int .i64 isa) ∧ w'.cell? ⟨gs, 10, none⟩ = some (.int .i64 di) ∧ w'.cell? ⟨gs, 11, none⟩ = some (.bool es))
    (exact row_S HX.out.1 (by repeat (first | with_reducible exact HM.out | with_reducible apply below_drew1 | with_reducible apply pw_below_drewN | with_reducible apply below_set0)))
    (first | (go_at_call 37; (with_reducible refine (HC.out _ ?aB).mono ?_); (case aB => exact (below_drew1 HB.out)); rintro e w2 ⟨rfl, hb⟩; clear HM; have HM := Aside0.mk (hb.mono (show gs + 1 ≤ w1.heap.size from Nat.le_of_lt (blk_lt HX.out.2.2.1))); have hC2 := (hb.block (gs + 1) (blk_lt HX.out.2.2.1)).trans HX.out.2.2.1; have HC2 := Aside0.mk hC2; obtain ⟨n1, p0, z0, p1, z1, p2, z2, p3, z3, p4, z4, p5, z5, p6, z6, p7, z7, p8, z8, p9, z9, p10, z10, p11, z11, p12, z12, p13, z13, p14, z14⟩ := row_P hC2; clear hC2 hb))
  all_goals go_wp2
  all_goals
    have hE := row_end (w := w1) HC2.out HM.out
    refine bodyPost_ret (results_cell_row rfl _ _ _ _ _ _ _ rfl (hE _ _ _ _ _ _ _ _ _ _ _ _ _ _ _).1 Tryd.underlying38 rfl sizeRow) rfl ⟨rfl, ?_⟩
    rw [HX.out.2.2.2]
    exact HX.out.2.1.trans ((hE _ _ _ _ _ _ _ _ _ _ _ _ _ _ _).2.mono (Nat.le_succ _))

/-- codeOf: no error. -/
theorem codeOf_nil (w : World) : Calls Tryd.prog 26 #[.nilIface] w fun e w' => e = .returned (.int .i64 0) ∧ w' = w := by
  go_enter Tryd.func26, Tryd.ntmps26
  go_wp2
  go_ret
  exact ⟨rfl, rfl⟩
/-- codeOf: the end. -/
theorem codeOf_eof {w : World} {a : Addr} (hE : w.cell? ⟨0, 0, none⟩ = some (.iface 175 (.pointer (some a)))) : Calls Tryd.prog 26 #[.iface 175 (.pointer (some a))] w fun e w' => e = .returned (.int .i64 1) ∧ w' = w := by
  obtain ⟨ms, hms⟩ : ∃ ms, Tryd.prog.underlying 61 = some (.interface ms) := ⟨_, Tryd.underlying61⟩
  obtain ⟨i, hi1, hi2⟩ : ∃ i, Tryd.prog.info? 175 = some i ∧ i.comparable = true := by
    have h : (Tryd.prog.info? 175).map (·.comparable) = some true := by kernel_rfl
    obtain ⟨i, h1, h2⟩ := Option.map_eq_some_iff.1 h
    exact ⟨i, h1, h2⟩
  obtain ⟨j, hj⟩ : ∃ j, Tryd.prog.info? 213 = some j := by
    have h : (Tryd.prog.info? 213).map (·.comparable) = some true := by kernel_rfl
    obtain ⟨i, h1, h2⟩ := Option.map_eq_some_iff.1 h
    exact ⟨i, h1⟩
  have he := run_eql_iface_ptr_same (P := Tryd.prog) w a hms Tryd.underlying175 hi1 hi2 hj
  clear hms hi1 hi2 hj
  go_enter Tryd.func26, Tryd.ntmps26
  go_wp2
  go_ret
  exact ⟨rfl, rfl⟩
end Go.Proofs.YtdepfipebogdcaaDoor.Line

/- The thin package over a line reader: a step that reads a row. -/
namespace Go.Proofs.YtdepfipebogdcaaDoor.Line
set_option maxRecDepth 100000
open Go.RowKit Go.Proofs.YtdepfipebogdcaaDoorW.PrintWords Go.Proofs.YtdepfipebogdcaaDoorW.PrintLast Go.Proofs.YtdepfipebogdcaaDoorW.PrintMore Go.Proofs.YtdepfipebogdcaaDoor.Leb Go.Proofs.YtdepfipebogdcaaDoor.Buf

theorem sizeAns : (Tryd.prog.info? 41).map (·.size) = some 17 := by kernel_rfl
/-- No row. -/
def zrow : Row := ⟨0, 0, none, 0, 0, false, false, false, false, 0, 0, false⟩
/-- An answer's cells: a row, no files, a code. -/
abbrev ansVals (r : Row) (code : Int) : Array Value := #[.int .u64 r.ad, .int .i64 r.ix, .bool (flNone r.fl), .string (flName r.fl), .int .u64 (flTime r.fl), .int .i64 (flLen r.fl), .int .i64 r.li, .int .i64 r.co, .bool r.st, .bool r.bb, .bool r.pe, .bool r.eb, .int .i64 r.isa, .int .i64 r.di, .bool r.es, .slice none 0 0, .int .i64 code]
abbrev zans : Array Value := #[.int .u64 0, .int .i64 0, .bool false, .string ⟨#[]⟩, .int .u64 0, .int .i64 0, .int .i64 0, .int .i64 0, .bool false, .bool false, .bool false, .bool false, .int .i64 0, .int .i64 0, .bool false, .slice none 0 0, .int .i64 0]
abbrev zent : Array Value := #[.int .u64 0, .int .i64 0, .pointer none, .int .i64 0, .int .i64 0, .bool false, .bool false, .bool false, .bool false, .int .i64 0, .int .i64 0, .bool false]
theorem HasR.under {w w' : World} {g : Nat} {c : RC} {k : K} {s : St} (h : HasR w g c k s) (hb : Below w.heap.size w w') : HasR w' g c k s := by
  obtain ⟨⟨b, cap, fp, hH, hF, hP⟩, h1, h2, h3, h4, h5, h6, h7, h8, h9⟩ := h
  have hg : ∃ cs, w.heap[g]? = some (.cells cs 94 (0, 0)) := hH.blk
  obtain ⟨cs, hg⟩ := hg
  have hk : Kx w w' c.base g g := Kx.of_below hb
  exact ⟨⟨b, cap, fp, hH.below hb, hF.kp (Kp.of_below (g := g) hb) ⟨_, hg⟩, hP.kp (Kp.of_below (g := g) hb) ⟨_, hg⟩⟩, h1, h2, h3, h4,
    h5.kx (base := c.base) (fun _ _ _ _ h => h) hk (ne_blk hg (by decide)) (ne_blk hg (by decide)) (by decide),
    h6.kx (base := c.base) (fun _ _ _ _ h => h) hk (ne_blk hg (by decide)) (ne_blk hg (by decide)) (by decide),
    h7.kx (base := c.base) (fun _ _ _ _ h => h) hk (ne_blk hg (by decide)) (ne_blk hg (by decide)) (by decide), h8, h9⟩

/-- Which row, which code. -/
def rowOr : Option Row → Row
  | none => zrow
  | some r => r
def codeOr : Option Row → Int
  | none => 1
  | some _ => 0

theorem four_new (w : World) (c1 c2 c3 c4 : Array Value) (t1 t2 t3 t4 : TypeId) : ((((w.alloc (.cells c1 t1)).alloc (.cells c2 t2)).alloc (.cells c3 t3)).alloc (.cells c4 t4)).heap[w.heap.size + 1]? = some (.cells c2 t2 (0, 0)) ∧ ((((w.alloc (.cells c1 t1)).alloc (.cells c2 t2)).alloc (.cells c3 t3)).alloc (.cells c4 t4)).heap[w.heap.size + 1 + 1]? = some (.cells c3 t3 (0, 0)) ∧ ((((w.alloc (.cells c1 t1)).alloc (.cells c2 t2)).alloc (.cells c3 t3)).alloc (.cells c4 t4)).heap[w.heap.size + 1 + 1 + 1]? = some (.cells c4 t4 (0, 0)) ∧ Below w.heap.size w ((((w.alloc (.cells c1 t1)).alloc (.cells c2 t2)).alloc (.cells c3 t3)).alloc (.cells c4 t4)) := by
  refine ⟨?_, ?_, ?_, below_alloc (below_alloc (below_alloc (below_alloc (Below.refl _ _) _) _) _) _⟩
  · have h := heap_alloc_new (w.alloc (.cells c1 t1)) (.cells c2 t2)
    rw [World.size_alloc] at h
    exact blk_alloc (blk_alloc h _) _
  · have h := heap_alloc_new ((w.alloc (.cells c1 t1)).alloc (.cells c2 t2)) (.cells c3 t3)
    rw [World.size_alloc, World.size_alloc] at h
    exact blk_alloc h _
  · have h := heap_alloc_new (((w.alloc (.cells c1 t1)).alloc (.cells c2 t2)).alloc (.cells c3 t3)) (.cells c4 t4)
    rw [World.size_alloc, World.size_alloc, World.size_alloc] at h
    exact h
/-- A block of another kind stays. -/
theorem Kx.other {w w' : World} {base g ge b t : Nat} {cs : Array Value} (h : Kx w w' base g ge) (hb : w.heap[b]? = some (.cells cs t (0, 0))) (h1 : b ≠ g) (h2 : b ≠ ge) (ht : t ≠ 90) : w'.heap[b]? = some (.cells cs t (0, 0)) := by
  refine (h.block b (blk_lt hb) ?_).trans hb
  rintro (e | e | ⟨_, cs', x, e⟩)
  · exact h1 e
  · exact h2 e
  · rw [hb] at e
    injection e with e
    injection e with _ e
    exact ht e
theorem ent_P {W : World} {gr : Nat} {v0 v1 v2 v3 v4 v5 v6 v7 v8 v9 v10 v11 : Value} (h : W.heap[gr]? = some (.cells #[v0, v1, v2, v3, v4, v5, v6, v7, v8, v9, v10, v11] 92 (0, 0))) : gr < W.heap.size ∧ W.cell? ⟨gr, 0, none⟩ = some v0 ∧ W.cell? ⟨gr, 1, none⟩ = some v1 ∧ W.cell? ⟨gr, 2, none⟩ = some v2 ∧ W.cell? ⟨gr, 3, none⟩ = some v3 ∧ W.cell? ⟨gr, 4, none⟩ = some v4 ∧ W.cell? ⟨gr, 5, none⟩ = some v5 ∧ W.cell? ⟨gr, 6, none⟩ = some v6 ∧ W.cell? ⟨gr, 7, none⟩ = some v7 ∧ W.cell? ⟨gr, 8, none⟩ = some v8 ∧ W.cell? ⟨gr, 9, none⟩ = some v9 ∧ W.cell? ⟨gr, 10, none⟩ = some v10 ∧ W.cell? ⟨gr, 11, none⟩ = some v11 := by
  exact ⟨blk_lt h, (blk_cell h 0).trans rfl, (blk_cell h 1).trans rfl, (blk_cell h 2).trans rfl, (blk_cell h 3).trans rfl, (blk_cell h 4).trans rfl, (blk_cell h 5).trans rfl, (blk_cell h 6).trans rfl, (blk_cell h 7).trans rfl, (blk_cell h 8).trans rfl, (blk_cell h 9).trans rfl, (blk_cell h 10).trans rfl, (blk_cell h 11).trans rfl⟩
theorem ans_P {W : World} {gr : Nat} {v0 v1 v2 v3 v4 v5 v6 v7 v8 v9 v10 v11 v12 v13 v14 v15 v16 : Value} (h : W.heap[gr]? = some (.cells #[v0, v1, v2, v3, v4, v5, v6, v7, v8, v9, v10, v11, v12, v13, v14, v15, v16] 41 (0, 0))) : gr < W.heap.size ∧ W.cell? ⟨gr, 0, none⟩ = some v0 ∧ W.frozen? ⟨gr, 0, none⟩ = false ∧ W.cell? ⟨gr, 1, none⟩ = some v1 ∧ W.frozen? ⟨gr, 1, none⟩ = false ∧ W.cell? ⟨gr, 2, none⟩ = some v2 ∧ W.frozen? ⟨gr, 2, none⟩ = false ∧ W.cell? ⟨gr, 3, none⟩ = some v3 ∧ W.frozen? ⟨gr, 3, none⟩ = false ∧ W.cell? ⟨gr, 4, none⟩ = some v4 ∧ W.frozen? ⟨gr, 4, none⟩ = false ∧ W.cell? ⟨gr, 5, none⟩ = some v5 ∧ W.frozen? ⟨gr, 5, none⟩ = false ∧ W.cell? ⟨gr, 6, none⟩ = some v6 ∧ W.frozen? ⟨gr, 6, none⟩ = false ∧ W.cell? ⟨gr, 7, none⟩ = some v7 ∧ W.frozen? ⟨gr, 7, none⟩ = false ∧ W.cell? ⟨gr, 8, none⟩ = some v8 ∧ W.frozen? ⟨gr, 8, none⟩ = false ∧ W.cell? ⟨gr, 9, none⟩ = some v9 ∧ W.frozen? ⟨gr, 9, none⟩ = false ∧ W.cell? ⟨gr, 10, none⟩ = some v10 ∧ W.frozen? ⟨gr, 10, none⟩ = false ∧ W.cell? ⟨gr, 11, none⟩ = some v11 ∧ W.frozen? ⟨gr, 11, none⟩ = false ∧ W.cell? ⟨gr, 12, none⟩ = some v12 ∧ W.frozen? ⟨gr, 12, none⟩ = false ∧ W.cell? ⟨gr, 13, none⟩ = some v13 ∧ W.frozen? ⟨gr, 13, none⟩ = false ∧ W.cell? ⟨gr, 14, none⟩ = some v14 ∧ W.frozen? ⟨gr, 14, none⟩ = false ∧ W.cell? ⟨gr, 15, none⟩ = some v15 ∧ W.frozen? ⟨gr, 15, none⟩ = false ∧ W.cell? ⟨gr, 16, none⟩ = some v16 ∧ W.frozen? ⟨gr, 16, none⟩ = false := by
  exact ⟨blk_lt h, (blk_cell h 0).trans rfl, blk_frozen h 0, (blk_cell h 1).trans rfl, blk_frozen h 1, (blk_cell h 2).trans rfl, blk_frozen h 2, (blk_cell h 3).trans rfl, blk_frozen h 3, (blk_cell h 4).trans rfl, blk_frozen h 4, (blk_cell h 5).trans rfl, blk_frozen h 5, (blk_cell h 6).trans rfl, blk_frozen h 6, (blk_cell h 7).trans rfl, blk_frozen h 7, (blk_cell h 8).trans rfl, blk_frozen h 8, (blk_cell h 9).trans rfl, blk_frozen h 9, (blk_cell h 10).trans rfl, blk_frozen h 10, (blk_cell h 11).trans rfl, blk_frozen h 11, (blk_cell h 12).trans rfl, blk_frozen h 12, (blk_cell h 13).trans rfl, blk_frozen h 13, (blk_cell h 14).trans rfl, blk_frozen h 14, (blk_cell h 15).trans rfl, blk_frozen h 15, (blk_cell h 16).trans rfl, blk_frozen h 16⟩
/-- Another block was written. -/
theorem HasR.aside {w w' : World} {g b t : Nat} {c : RC} {k : K} {s : St} {cs : Array Value} (h : HasR w g c k s) (hk : Kp w w' b) (hb : w.heap[b]? = some (.cells cs t (0, 0))) (hcs : cs.all (fun v => !isByte v) = true) (h1 : t ≠ 94) (h2 : t ≠ 90) (h3 : t ≠ 129) (h4 : t ≠ 5) (h5 : t ≠ 3) (h6 : t ≠ 9) : HasR w' g c k s := by
  obtain ⟨⟨bf, cap, fp, hH, hF, hP⟩, q1, q2, q3, q4, q5, q6, q7, q8, q9⟩ := h
  obtain ⟨cg, hg⟩ := hH.blk
  have hx : Kx w w' c.base b b := Kx.of_Kp hk
  refine ⟨⟨bf, cap, fp, hH.far b (blk_ne hg hb h1.symm) hk.block (fun cs' t' f e => by rw [hb] at e; cases e; exact hcs), hF.kp hk ⟨_, hb⟩ h2 h3, hP.kp hk ⟨_, hb⟩ h3⟩, q1, q2, q3, q4, ?_, ?_, ?_, q8, q9⟩
  · exact q5.kx (base := c.base) (fun _ _ _ _ h => h) hx (ne_blk hb h4) (ne_blk hb h4) (by decide)
  · exact q6.kx (base := c.base) (fun _ _ _ _ h => h) hx (ne_blk hb h5) (ne_blk hb h5) (by decide)
  · exact q7.kx (base := c.base) (fun _ _ _ _ h => h) hx (ne_blk hb h6) (ne_blk hb h6) (by decide)
theorem ans_row {w : World} {b : Nat} {u0 u1 u2 u3 u4 u5 u6 u7 u8 u9 u10 u11 u12 u13 u14 u15 u16 : Value} (h : w.heap[b]? = some (.cells #[u0, u1, u2, u3, u4, u5, u6, u7, u8, u9, u10, u11, u12, u13, u14, u15, u16] 41 (0, 0))) (v0 v1 v2 v3 v4 v5 v6 v7 v8 v9 v10 v11 v12 v13 v14 : Value) : (((((((((((((((w.setCell ⟨b, 0, none⟩ v0).setCell ⟨b, 1, none⟩ v1).setCell ⟨b, 2, none⟩ v2).setCell ⟨b, 3, none⟩ v3).setCell ⟨b, 4, none⟩ v4).setCell ⟨b, 5, none⟩ v5).setCell ⟨b, 6, none⟩ v6).setCell ⟨b, 7, none⟩ v7).setCell ⟨b, 8, none⟩ v8).setCell ⟨b, 9, none⟩ v9).setCell ⟨b, 10, none⟩ v10).setCell ⟨b, 11, none⟩ v11).setCell ⟨b, 12, none⟩ v12).setCell ⟨b, 13, none⟩ v13).setCell ⟨b, 14, none⟩ v14).heap[b]? = some (.cells #[v0, v1, v2, v3, v4, v5, v6, v7, v8, v9, v10, v11, v12, v13, v14, u15, u16] 41 (0, 0)) ∧ Kp w (((((((((((((((w.setCell ⟨b, 0, none⟩ v0).setCell ⟨b, 1, none⟩ v1).setCell ⟨b, 2, none⟩ v2).setCell ⟨b, 3, none⟩ v3).setCell ⟨b, 4, none⟩ v4).setCell ⟨b, 5, none⟩ v5).setCell ⟨b, 6, none⟩ v6).setCell ⟨b, 7, none⟩ v7).setCell ⟨b, 8, none⟩ v8).setCell ⟨b, 9, none⟩ v9).setCell ⟨b, 10, none⟩ v10).setCell ⟨b, 11, none⟩ v11).setCell ⟨b, 12, none⟩ v12).setCell ⟨b, 13, none⟩ v13).setCell ⟨b, 14, none⟩ v14) b := by
  refine ⟨?_, ((((((((((((((((Kp.refl w b).set 0 v0).set 1 v1).set 2 v2).set 3 v3).set 4 v4).set 5 v5).set 6 v6).set 7 v7).set 8 v8).set 9 v9).set 10 v10).set 11 v11).set 12 v12).set 13 v13).set 14 v14)⟩
  rw [(blk_set (blk_set (blk_set (blk_set (blk_set (blk_set (blk_set (blk_set (blk_set (blk_set (blk_set (blk_set (blk_set (blk_set (blk_set h 0 v0) 1 v1) 2 v2) 3 v3) 4 v4) 5 v5) 6 v6) 7 v7) 8 v8) 9 v9) 10 v10) 11 v11) 12 v12) 13 v13) 14 v14)]
  simp
theorem ans_all {w : World} {b : Nat} {u0 u1 u2 u3 u4 u5 u6 u7 u8 u9 u10 u11 u12 u13 u14 u15 u16 : Value} (h : w.heap[b]? = some (.cells #[u0, u1, u2, u3, u4, u5, u6, u7, u8, u9, u10, u11, u12, u13, u14, u15, u16] 41 (0, 0))) (v0 v1 v2 v3 v4 v5 v6 v7 v8 v9 v10 v11 v12 v13 v14 v15 v16 : Value) : (((((((((((((((((w.setCell ⟨b, 0, none⟩ v0).setCell ⟨b, 1, none⟩ v1).setCell ⟨b, 2, none⟩ v2).setCell ⟨b, 3, none⟩ v3).setCell ⟨b, 4, none⟩ v4).setCell ⟨b, 5, none⟩ v5).setCell ⟨b, 6, none⟩ v6).setCell ⟨b, 7, none⟩ v7).setCell ⟨b, 8, none⟩ v8).setCell ⟨b, 9, none⟩ v9).setCell ⟨b, 10, none⟩ v10).setCell ⟨b, 11, none⟩ v11).setCell ⟨b, 12, none⟩ v12).setCell ⟨b, 13, none⟩ v13).setCell ⟨b, 14, none⟩ v14).setCell ⟨b, 15, none⟩ v15).setCell ⟨b, 16, none⟩ v16).heap[b]? = some (.cells #[v0, v1, v2, v3, v4, v5, v6, v7, v8, v9, v10, v11, v12, v13, v14, v15, v16] 41 (0, 0)) ∧ Kp w (((((((((((((((((w.setCell ⟨b, 0, none⟩ v0).setCell ⟨b, 1, none⟩ v1).setCell ⟨b, 2, none⟩ v2).setCell ⟨b, 3, none⟩ v3).setCell ⟨b, 4, none⟩ v4).setCell ⟨b, 5, none⟩ v5).setCell ⟨b, 6, none⟩ v6).setCell ⟨b, 7, none⟩ v7).setCell ⟨b, 8, none⟩ v8).setCell ⟨b, 9, none⟩ v9).setCell ⟨b, 10, none⟩ v10).setCell ⟨b, 11, none⟩ v11).setCell ⟨b, 12, none⟩ v12).setCell ⟨b, 13, none⟩ v13).setCell ⟨b, 14, none⟩ v14).setCell ⟨b, 15, none⟩ v15).setCell ⟨b, 16, none⟩ v16) b := by
  refine ⟨?_, ((((((((((((((((((Kp.refl w b).set 0 v0).set 1 v1).set 2 v2).set 3 v3).set 4 v4).set 5 v5).set 6 v6).set 7 v7).set 8 v8).set 9 v9).set 10 v10).set 11 v11).set 12 v12).set 13 v13).set 14 v14).set 15 v15).set 16 v16)⟩
  rw [(blk_set (blk_set (blk_set (blk_set (blk_set (blk_set (blk_set (blk_set (blk_set (blk_set (blk_set (blk_set (blk_set (blk_set (blk_set (blk_set (blk_set h 0 v0) 1 v1) 2 v2) 3 v3) 4 v4) 5 v5) 6 v6) 7 v7) 8 v8) 9 v9) 10 v10) 11 v11) 12 v12) 13 v13) 14 v14) 15 v15) 16 v16)]
  simp
theorem Kx.own {w w1 w2 : World} {base g ge b : Nat} (h : Kx w w1 base g ge) (k : Kp w1 w2 b) (hb : w.heap.size ≤ b) : Kx w w2 base g ge :=
  ⟨k.os.trans h.os, k.tape.trans h.tape, k.output.trans h.output, Nat.le_trans h.size k.size, fun i hi ho => (k.block i (Nat.lt_of_lt_of_le hi h.size) (by omega)).trans (h.block i hi ho)⟩
theorem Kx.start {w w1 w2 : World} {base g ge : Nat} (h : Below w.heap.size w w1) (k : Kx w1 w2 base g ge) (hb : w.heap.size ≤ ge) : Kx w w2 base g g :=
  ⟨k.os.trans h.os, k.tape.trans h.tape, k.output.trans h.output, Nat.le_trans h.size k.size, fun i hi ho => (k.block i (Nat.lt_of_lt_of_le hi h.size) (by
    rintro (h1 | h1 | ⟨h1, cs, x, h2⟩)
    · exact ho (.inl h1)
    · omega
    · exact ho (.inr (.inr ⟨h1, cs, x, (h.block i hi).symm.trans h2⟩)))).trans (h.block i hi)⟩
/-- Which error. -/
def errOr (EV : Value) : Option Row → Value
  | none => EV
  | some _ => .nilIface
theorem NextPost.told {w w' : World} {g ge : Nat} {c : RC} {k : K} {EV : Value} {es : Array Value} {o : Option Row} {s' : St} {e : Ending} (h : NextPost w g ge c k EV es o s' e w') : e = .returned (errOr EV o) ∧ HasR w' g c k s' ∧ EntryIs w' c.base ge es o ∧ Kx w w' c.base g ge := by
  obtain ⟨h1, h2⟩ := h
  refine ⟨?_, h2⟩
  cases o <;> exact h1
theorem codeOf_or {w : World} {ea : Addr} (hE : w.cell? ⟨0, 0, none⟩ = some (.iface 175 (.pointer (some ea)))) (o : Option Row) : Calls Tryd.prog 26 #[errOr (.iface 175 (.pointer (some ea))) o] w fun e w' => e = .returned (.int .i64 (codeOr o)) ∧ w' = w := by
  cases o with
  | none => exact codeOf_eof hE
  | some r => exact codeOf_nil w
set_option maxHeartbeats 1000000 in
theorem line_next {w : World} {g gt : Nat} {c : RC} {k : K} {s s' : St} {o : Option Row} {m : Nat} {ea : Addr} {at_ : Int} {pc : Int} (h : HasR w g c k s) (hk : KOk k) (hnm : Names k) (hnb : ∀ x ∈ k.ol, x < 256)
    (hE : w.cell? ⟨0, 0, none⟩ = some (.iface 175 (.pointer (some ea)))) (hEb : 0 < c.base) (hn : k.nx m s = some (o, s')) :
    Calls Tryd.prog 27 #[.pointer (some ⟨g, 0, none⟩), .pointer (some ⟨gt, 0, none⟩), .agg #[.int .i64 0, .int .i64 at_, .int .u64 pc]] w fun e w' =>
      e = .returned (.agg (ansVals (rowOr o) (codeOr o))) ∧ HasR w' g c k s' ∧ Kx w w' c.base g g := by
  have H0 := Aside0.mk (And.intro h hE)
  have HC := Aside0.mk (And.intro hk (And.intro hnm (And.intro hnb hEb)))
  have HN := Aside0.mk hn
  clear h hk hnm hnb hE hEb hn
  go_enter Tryd.func27, Tryd.ntmps27
  go_wp2_with fail
  have hA := four_new w #[.int .i64 0, .int .i64 at_, .int .u64 pc] zans zans zent 67 41 41 92
  revert hA
  generalize (((w.alloc (.cells #[.int .i64 0, .int .i64 at_, .int .u64 pc] 67)).alloc (.cells zans 41)).alloc (.cells zans 41)).alloc (.cells zent 92) = w4
  generalize hgs : w.heap.size = gs
  generalize hga : gs + 1 = ga
  generalize hgb : ga + 1 = gb
  generalize hge : gb + 1 = ge
  intro hA
  have HS := Aside0.mk (And.intro hgs (And.intro hga (And.intro hgb hge)))
  have HA := Aside0.mk hA
  have HG : Aside0 (g < gs ∧ c.base ≤ g) := ⟨by obtain ⟨b, cap, fp, hH, _⟩ := H0.out.1.at_; rw [← hgs]; exact hH.lt, H0.out.1.base⟩
  have HR4 : Aside0 (HasR w4 g c k s) := ⟨H0.out.1.under (hgs ▸ hA.2.2.2)⟩
  have hE4 : w4.cell? ⟨0, 0, none⟩ = some (.iface 175 (.pointer (some ea))) := by
    rw [← H0.out.2]
    exact hA.2.2.2.cell (p := ⟨0, 0, none⟩) (by have h1 := HG.out; have h2 := HC.out.2.2.2; show (0 : Nat) < gs; omega)
  have HU := Aside0.mk (next_calls HR4.out HA.out.2.2.1 (isRow_mk zrow none) HC.out.1 HC.out.2.1 HC.out.2.2.1 hE4 HC.out.2.2.2 (by have := HG.out; have := HS.out; omega) HN.out)
  have HE4 := Aside0.mk hE4
  clear hA hgs hga hgb hge hE4
  refine HU.out.mono ?_
  intro e w5 hpost
  obtain ⟨rfl, hr, he, hx⟩ := hpost.told
  have hlt := HG.out
  have hs := HS.out
  have b5 := hx.other HA.out.2.1 (by omega) (by omega) (by decide)
  have a5 := hx.other HA.out.1 (by omega) (by omega) (by decide)
  have hE5 := hx.glob HC.out.2.2.2 hlt.2 (by omega) HE4.out
  obtain ⟨fp, hP, hent⟩ : ∃ fp, PtrIs w5 c.base fp (rowOr o).fl ∧ w5.heap[ge]? = some (.cells (rowCells (rowOr o) fp) 92 (0, 0)) := by
    cases o with
    | none => exact ⟨.pointer none, rfl, he⟩
    | some r => exact he
  have H5 := Aside0.mk (And.intro hr (And.intro hx (And.intro b5 (And.intro a5 (And.intro hE5 (And.intro hP hent))))))
  have hcode := Aside0.mk (codeOf_or hE5 o)
  clear hlt hs b5 a5 hE5 hP hent hr he hx HU
  go_wp2_with fail
  refine hcode.out.mono ?_
  rintro e w' ⟨rfl, rfl⟩
  obtain ⟨n2, p0, z0, p1, z1, p2, z2, p3, z3, p4, z4, p5, z5, p6, z6, p7, z7, p8, z8, p9, z9, p10, z10, p11, z11, p12, z12, p13, z13, p14, z14, p15, z15, p16, z16⟩ := ans_P H5.out.2.2.1
  obtain ⟨n3, q0, q1, q2, q3, q4, q5, q6, q7, q8, q9, q10, q11⟩ := ent_P H5.out.2.2.2.2.2.2
  obtain ⟨r, hr⟩ : ∃ r, rowOr o = r := ⟨_, rfl⟩
  obtain ⟨cd, hcd⟩ : ∃ cd, codeOr o = cd := ⟨_, rfl⟩
  rw [hr] at H5 q0 q1 q3 q4 q5 q6 q7 q8 q9 q10 q11
  rw [hcd]
  have HRC := Aside0.mk (And.intro hr hcd)
  clear hr hcd hcode
  go_wp2_with fail
  clear n2 p0 z0 p1 z1 p2 z2 p3 z3 p4 z4 p5 z5 p6 z6 p7 z7 p8 z8 p9 z9 p10 z10 p11 z11 p12 z12 p13 z13 p14 z14 p15 z15 p16 z16 n3 q0 q1 q2 q3 q4 q5 q6 q7 q8 q9 q10 q11
  have hs := HS.out
  have hk6 := (Kp.refl w' gb).set 16 (.int .i64 cd)
  have b6 := blk_set H5.out.2.2.1 16 (.int .i64 cd)
  simp at b6
  have hall := And.intro (H5.out.1.aside hk6 H5.out.2.2.1 (by simp [isByte]) (by decide) (by decide) (by decide) (by decide) (by decide) (by decide)) (And.intro b6 (And.intro ((hk6.block ga (blk_lt H5.out.2.2.2.1) (by omega)).trans H5.out.2.2.2.1) (And.intro ((Kx.start (hs.1 ▸ HA.out.2.2.2) H5.out.2.1 (by omega)).own hk6 (by omega)) (H5.out.2.2.2.2.2.1.kp hk6 ⟨_, H5.out.2.2.1⟩ (by decide)))))
  clear hs hk6 b6
  revert hall
  generalize w'.setCell ⟨gb, 16, none⟩ (.int .i64 cd) = w6
  intro hall
  have HU := Aside0.mk (rowOf_calls hall.2.2.2.2)
  have H6 := Aside0.mk hall
  clear hall
  refine HU.out.mono ?_
  rintro e w7 ⟨rfl, hb⟩
  have b7 := (hb.block gb (blk_lt H6.out.2.1)).trans H6.out.2.1
  have a7 := (hb.block ga (blk_lt H6.out.2.2.1)).trans H6.out.2.2.1
  have H7 := Aside0.mk (And.intro (H6.out.1.under hb) (And.intro b7 (And.intro a7 (H6.out.2.2.2.1.trans (Kx.of_below hb)))))
  obtain ⟨n2, p0, z0, p1, z1, p2, z2, p3, z3, p4, z4, p5, z5, p6, z6, p7, z7, p8, z8, p9, z9, p10, z10, p11, z11, p12, z12, p13, z13, p14, z14, p15, z15, p16, z16⟩ := ans_P b7
  clear hb b7 a7 HU
  go_upto_region 22 with (fail)
  clear n2 p0 z0 p1 z1 p2 z2 p3 z3 p4 z4 p5 z5 p6 z6 p7 z7 p8 z8 p9 z9 p10 z10 p11 z11 p12 z12 p13 z13 p14 z14 p15 z15 p16 z16
  have hs := HS.out
  have hrow := ans_row H7.out.2.1 (.int .u64 r.ad) (.int .i64 r.ix) (.bool (flNone r.fl)) (.string (flName r.fl)) (.int .u64 (flTime r.fl)) (.int .i64 (flLen r.fl)) (.int .i64 r.li) (.int .i64 r.co) (.bool r.st) (.bool r.bb) (.bool r.pe) (.bool r.eb) (.int .i64 r.isa) (.int .i64 r.di) (.bool r.es)
  revert hrow
  generalize (((((((((((((((w7.setCell ⟨gb, 0, none⟩ (.int .u64 r.ad)).setCell ⟨gb, 1, none⟩ (.int .i64 r.ix)).setCell ⟨gb, 2, none⟩ (.bool (flNone r.fl))).setCell ⟨gb, 3, none⟩ (.string (flName r.fl))).setCell ⟨gb, 4, none⟩ (.int .u64 (flTime r.fl))).setCell ⟨gb, 5, none⟩ (.int .i64 (flLen r.fl))).setCell ⟨gb, 6, none⟩ (.int .i64 r.li)).setCell ⟨gb, 7, none⟩ (.int .i64 r.co)).setCell ⟨gb, 8, none⟩ (.bool r.st)).setCell ⟨gb, 9, none⟩ (.bool r.bb)).setCell ⟨gb, 10, none⟩ (.bool r.pe)).setCell ⟨gb, 11, none⟩ (.bool r.eb)).setCell ⟨gb, 12, none⟩ (.int .i64 r.isa)).setCell ⟨gb, 13, none⟩ (.int .i64 r.di)).setCell ⟨gb, 14, none⟩ (.bool r.es)) = w8
  intro hrow
  have H8 := Aside0.mk (And.intro (H7.out.1.aside hrow.2 H7.out.2.1 (by simp [isByte]) (by decide) (by decide) (by decide) (by decide) (by decide) (by decide)) (And.intro hrow.1 (And.intro ((hrow.2.block ga (blk_lt H7.out.2.2.1) (by omega)).trans H7.out.2.2.1) (H7.out.2.2.2.own hrow.2 (by omega)))))
  clear hrow hs
  obtain ⟨n2, p0, z0, p1, z1, p2, z2, p3, z3, p4, z4, p5, z5, p6, z6, p7, z7, p8, z8, p9, z9, p10, z10, p11, z11, p12, z12, p13, z13, p14, z14, p15, z15, p16, z16⟩ := ans_P H8.out.2.2.1
  obtain ⟨n3, y0, _, y1, _, y2, _, y3, _, y4, _, y5, _, y6, _, y7, _, y8, _, y9, _, y10, _, y11, _, y12, _, y13, _, y14, _, y15, _, y16, _⟩ := ans_P H8.out.2.1
  go_wp2
  have hs := HS.out
  have hall := ans_all H8.out.2.2.1 (.int .u64 r.ad) (.int .i64 r.ix) (.bool (flNone r.fl)) (.string (flName r.fl)) (.int .u64 (flTime r.fl)) (.int .i64 (flLen r.fl)) (.int .i64 r.li) (.int .i64 r.co) (.bool r.st) (.bool r.bb) (.bool r.pe) (.bool r.eb) (.int .i64 r.isa) (.int .i64 r.di) (.bool r.es) (.slice none 0 0) (.int .i64 cd)
  refine bodyPost_ret (results_cell_row rfl _ _ _ _ _ _ _ rfl hall.1 Tryd.underlying41 rfl sizeAns) rfl ⟨?_, ?_, ?_⟩
  · rw [HRC.out.1, HRC.out.2]
  · exact H8.out.1.aside hall.2 H8.out.2.2.1 (by simp [isByte]) (by decide) (by decide) (by decide) (by decide) (by decide) (by decide)
  · exact H8.out.2.2.2.own hall.2 (by omega)
end Go.Proofs.YtdepfipebogdcaaDoor.Line

/- Plain: the header of a line table, and the steps of a reader, as functions on bytes; no Go in sight. -/
namespace Go.Proofs.YtdepfipebogdcaaDoor.Line
open Go Go.Proofs.YtdepfipebogdcaaDoor.Leb

/-- How many operands the standard opcodes have, as far as the package says. -/
def known : Nat → Option Int
  | 1 => some 0
  | 2 => some 1
  | 3 => some 1
  | 4 => some 1
  | 6 => some 0
  | 7 => some 0
  | 8 => some 0
  | 10 => some 0
  | 11 => some 0
  | 12 => some 1
  | _ => none
/-- Whether the numbers of operands are those. -/
def lensOk (ol : List Int) : Bool := (List.range ol.length).all fun i => match known i with
  | some n => ol.getD i 0 == n
  | none => true
/-- The list of files, from a place on: the files, and how many bytes. -/
def filesIn (dirs : List ByteArray) : Nat → List Int → Option (List (Option Fl) × Nat)
  | 0, _ => none
  | m + 1, l => (fileIn dirs l).bind fun fn => match fn.1 with
    | none => some ([], fn.2)
    | some f => (filesIn dirs m (l.drop fn.2)).bind fun r => some (some f :: r.1, fn.2 + r.2)
/-- A byte as a number with a sign. -/
def sbyte (b : Int) : Int := if b < 128 then b else b - 256
/-- Whether these are bytes. -/
def okBytes (l : List Int) : Bool := l.all fun b => decide (0 ≤ b) && decide (b < 256)
theorem bytes_of_ok {l : List Int} (h : okBytes l = true) : Bytes l := by
  intro b hb
  have := List.all_eq_true.1 h b hb
  simp only [Bool.and_eq_true, decide_eq_true_eq] at this
  exact this
theorem ok_of_bytes {l : List Int} (h : Bytes l) : okBytes l = true := by
  refine List.all_eq_true.2 (fun b hb => ?_)
  simp only [Bool.and_eq_true, decide_eq_true_eq]
  exact h b hb
/-- The header of a table of version 4, of the 32-bit format: what never turns, and the files. -/
def hdr4n (sec : List Int) (off : Nat) (asz : Int) (big : Bool) (dir : ByteArray) : Option (K × List (Option Fl)) := match sec.drop off with
  | b0 :: b1 :: b2 :: b3 :: v0 :: v1 :: h0 :: h1 :: h2 :: h3 :: mi :: mo :: ds :: lb :: lr :: ob :: tl =>
    if (four big b0 b1 b2 b3).toNat < 4294967280 ∧ two big v0 v1 = 4 ∧ off + 16 + tl.length < 2147483648 ∧ 4 + (four big b0 b1 b2 b3).toNat ≤ 16 + tl.length ∧ 10 + (four big h0 h1 h2 h3).toNat ≤ 4 + (four big b0 b1 b2 b3).toNat ∧ 1 ≤ mo ∧ 1 ≤ lr ∧ 1 ≤ ob ∧ ob.toNat - 1 ≤ tl.length ∧ lensOk (0 :: tl.take (ob.toNat - 1)) = true ∧ okBytes sec = true then
      match tl.drop (ob.toNat - 1) with
      | 0 :: l2 => (filesIn [dir] (l2.length + 1) l2).bind fun r => some (⟨sec, off + 4 + (four big b0 b1 b2 b3).toNat, off + 10 + (four big h0 h1 h2 h3).toNat, big, asz, mi, mo, ds != 0, sbyte lb, lr, ob, 0 :: tl.take (ob.toNat - 1), [dir], r.1.length + 1⟩, none :: r.1)
      | _ => none
    else none
  | _ => none
/-- A reader's first state. -/
def first (fs : List (Option Fl)) : St := ⟨0, fs, fs.length, ⟨0, 0, none, 0, 0, false, false, false, false, 0, 0, false⟩, 0⟩
end Go.Proofs.YtdepfipebogdcaaDoor.Line

/- readHeader: the numbers of the header. -/
namespace Go.Proofs.YtdepfipebogdcaaDoor.Line
set_option maxRecDepth 100000
open Go.RowKit Go.Proofs.YtdepfipebogdcaaDoorW.PrintWords Go.Proofs.YtdepfipebogdcaaDoorW.PrintLast Go.Proofs.YtdepfipebogdcaaDoorW.PrintMore Go.Proofs.YtdepfipebogdcaaDoor.Leb Go.Proofs.YtdepfipebogdcaaDoor.Buf

theorem unit_narrow (big : Bool) {s : S} {b0 b1 b2 b3 : Int} {r : List Int} (hl : s.l = b0 :: b1 :: b2 :: b3 :: r) {U : Int} (hU : four big b0 b1 b2 b3 = U) (h : U < 4294967280) : s.unit big = (U, false, s.adv 4) := by
  have e : s.u32 big = (U, s.adv 4) := by unfold S.u32; rw [hl]; simp only; rw [hU]
  unfold S.unit
  rw [e]
  simp only
  rw [if_neg (by omega), if_neg (by omega)]
theorem unit_narrow_calls {w : World} {g t : Nat} {rest : Array Value} {c : BC} {s : S} (hH : Has w g t rest c s) {b0 b1 b2 b3 : Int} {r : List Int} (hl : s.l = b0 :: b1 :: b2 :: b3 :: r) {U : Int} (hU : four c.big b0 b1 b2 b3 = U) (h : U < 4294967280) :
    Calls Tryd.prog 38 #[.pointer (some ⟨g, 0, none⟩)] w fun e w' => e = .returned (.tuple #[.int .u32 U, .bool false]) ∧ Has w' g t rest c (s.adv 4) ∧ Kp w w' g := by
  have h1 := unit_has hH
  rw [unit_narrow c.big hl hU h] at h1
  exact h1
theorem _root_.Go.Proofs.YtdepfipebogdcaaDoor.Buf.Has.offc {w : World} {g t : Nat} {rest : Array Value} {c : BC} {s : S} (h : Has w g t rest c s) : w.cell? ⟨g, 4, none⟩ = some (.int .u32 s.off) := by
  obtain ⟨_, _, _, _, _, q4, _⟩ := h.parts
  exact q4
theorem _root_.Go.Proofs.YtdepfipebogdcaaDoor.Buf.Has.fcell {w : World} {g t : Nat} {rest : Array Value} {c : BC} {s : S} (h : Has w g t rest c s) : w.cell? ⟨g, 2, none⟩ = some c.f := by
  obtain ⟨A0, cap0, ev, hg, _⟩ := h.at_
  exact (blk_cell hg 2).trans (cells_at c s A0 cap0 ev rest 2 (by decide))
theorem adv_mk (o n : Nat) (l : List Int) (h : o + n < 4294967296) : (S.mk (o : Int) l true).adv n = ⟨((o + n : Nat) : Int), l.drop n, true⟩ := by
  unfold S.adv
  simp only
  congr 1
  omega
theorem u32_nat (n : Nat) (h : n < 4294967296) : IntKind.u32.wrap (n : Int) = (n : Int) := by simp [IntKind.wrap, IntKind.signed, IntKind.bits]; omega
theorem u32_add (a b x : Nat) (e : a + b = x) (h : x < 4294967296) : IntKind.u32.wrap (((a : Nat) : Int) + ((b : Nat) : Int)) = (x : Int) := by subst e; simp [IntKind.wrap, IntKind.signed, IntKind.bits]; omega
theorem byte_i64 (b : Int) (h : 0 ≤ b ∧ b < 256) : wrap64 b = b ∧ IntKind.i64.wrap b = b := by
  refine ⟨?_, ?_⟩
  · unfold wrap64; omega
  · rw [IntKind.wrap_i64]; omega
theorem byte_i8 (b : Int) (h : 0 ≤ b ∧ b < 256) : IntKind.i8.wrap b = sbyte b ∧ wrap64 (sbyte b) = sbyte b ∧ IntKind.i64.wrap (sbyte b) = sbyte b := by
  refine ⟨?_, ?_, ?_⟩
  · simp [IntKind.wrap, IntKind.signed, IntKind.bits, sbyte]; split <;> omega
  · unfold wrap64 sbyte; split <;> omega
  · rw [IntKind.wrap_i64]; unfold sbyte; split <;> omega

theorem _root_.Go.Proofs.YtdepfipebogdcaaDoor.Buf.Has.under {w w' : World} {g t : Nat} {rest : Array Value} {c : BC} {s : S} (h : Has w g t rest c s) (hb : Below w.heap.size w w') : Has w' g t rest c s := by
  obtain ⟨A, cap, ev, hg, _⟩ := h.at_
  have hlt := blk_lt hg
  exact h.far w.heap.size (by omega) (fun k hk _ => hb.block k hk) (fun cs t f e => by have := blk_lt e; omega)
set_option maxHeartbeats 1000000 in
theorem addrsize_calls (asz : Int) (w : World) : Calls Tryd.prog 102 #[.agg #[.int .i64 asz]] w fun e w' => e = .returned (.int .i64 asz) ∧ Below w.heap.size w w' := by
  go_enter Tryd.func102, Tryd.ntmps102
  go_wp2_with fail
  go_ret
  exact ⟨rfl, ⟨rfl, rfl, rfl, by simp, fun k hk => heap_alloc_old w _ hk⟩⟩
theorem info_int : (Tryd.prog.info? 3).map (fun i => (i.zero, i.size, i.bytes)) = some (some (.int .i64 0), 1, 8) := by kernel_rfl
theorem make_ints {n : Nat} (h : n < 256) (w : World) : (Instr.makeSlice 87 (.int .i64 (n : Int)) (.int .i64 (n : Int))).run Tryd.prog w = .ok (.slice (some ⟨w.heap.size, 0, none⟩) n n) (w.alloc (.cells (madeCells #[.int .i64 0] n) 3)) := by
  obtain ⟨i0, hi, hz0, hz1, hz2⟩ := info_parts info_int
  have h1 := run_make (P := Tryd.prog) w 87 3 i0 (.int .i64 0) Tryd.underlying87 hi hz0 .i64 .i64 (n : Int) (n : Int) (by omega) (by omega) (by rw [hz2]; omega) (by omega)
  rw [hz1, Nat.mul_one] at h1
  exact h1
/-- The lengths of the opcodes lie in a block. -/
def OlAt (w : World) (gb n i : Nat) (tl : List Int) : Prop := ∃ cs : Array Value, w.heap[gb]? = some (.cells cs 3 (0, 0)) ∧ cs.size = n ∧ cs.all (fun v => !isByte v) = true ∧ (0 < n → cs[0]? = some (.int .i64 0)) ∧ (∀ j, 1 ≤ j → j < i → j < n → cs[j]? = some (.int .i64 (tl.getD (j - 1) 0))) ∧ (∀ j, j < n → ∃ x, cs[j]? = some (.int .i64 x))
theorem olAt_new (w : World) (n : Nat) (tl : List Int) : OlAt (w.alloc (.cells (madeCells #[.int .i64 0] n) 3)) w.heap.size n 1 tl := by
  have e : ∀ j, j < n → (madeCells #[Value.int .i64 0] n)[j]? = some (.int .i64 0) := fun j h => by simp [madeCells, h, Nat.mod_one]
  refine ⟨_, heap_alloc_new _ _, size_madeCells _ _, ?_, fun h => e 0 h, fun j h1 h2 _ => by omega, fun j h => ⟨0, e j h⟩⟩
  rw [Array.all_eq_true]
  intro j h
  have h2 : j < n := by rw [size_madeCells] at h; exact h
  have h3 := e j h2
  rw [Array.getElem?_eq_getElem h] at h3
  rw [Option.some.inj h3]
  rfl
theorem OlAt.store {w : World} {gb n i : Nat} {tl : List Int} (h : OlAt w gb n i tl) (h1 : 1 ≤ i) {v : Int} (hv : v = tl.getD (i - 1) 0) : OlAt (w.setCell ⟨gb, i, none⟩ (.int .i64 v)) gb n (i + 1) tl := by
  obtain ⟨cs, e, e1, e2, e3, e4, e5⟩ := h
  refine ⟨_, blk_set e i _, by simpa using e1, ?_, fun h => ?_, fun j g1 g2 g3 => ?_, fun j h => ?_⟩
  · rw [Array.all_eq_true] at e2 ⊢
    intro j h
    rw [Array.getElem_setIfInBounds]
    split
    · rfl
    · exact e2 j (by simpa using h)
  · rw [Array.getElem?_setIfInBounds_ne (by omega)]
    exact e3 h
  · by_cases hj : i = j
    · subst hj
      rw [Array.getElem?_setIfInBounds_self_of_lt (by omega), hv]
    · rw [Array.getElem?_setIfInBounds_ne hj]
      exact e4 j g1 (by omega) g3
  · by_cases hj : i = j
    · subst hj
      exact ⟨v, by rw [Array.getElem?_setIfInBounds_self_of_lt (by omega)]⟩
    · rw [Array.getElem?_setIfInBounds_ne hj]
      exact e5 j h
theorem OlAt.kp {w w' : World} {gb n i g : Nat} {tl : List Int} (h : OlAt w gb n i tl) (hk : Kp w w' g) (hne : gb ≠ g) : OlAt w' gb n i tl := by
  obtain ⟨cs, e, h⟩ := h
  exact ⟨cs, (hk.block gb (blk_lt e) hne).trans e, h⟩
theorem Kp.own {w w' : World} {g gb : Nat} (h : Kp w w' g) (hb : w.heap.size ≤ gb) (i : Nat) (v : Value) : Kp w (w'.setCell ⟨gb, i, none⟩ v) g := ⟨h.os, h.tape, h.output, by simpa using h.size, fun k hk hg => (Below.heap_setCell w' ⟨gb, i, none⟩ v k (by show k ≠ gb; omega)).trans (h.block k hk hg)⟩
theorem OlAt.far {w : World} {gb n i g t : Nat} {tl : List Int} {rest : Array Value} {c : BC} {s : S} (h : OlAt w gb n i tl) (hH : Has w g t rest c s) (hne : gb ≠ g) (j : Nat) (v : Value) : Has (w.setCell ⟨gb, j, none⟩ v) g t rest c s := by
  obtain ⟨cs, e, _, e2, _⟩ := h
  exact hH.far gb (fun h => hne h.symm) (fun k _ hk => Below.heap_setCell w ⟨gb, j, none⟩ v k hk) (fun cs' t' f e' => by rw [e] at e'; cases e'; exact e2)
theorem OlAt.cell {w : World} {gb n i : Nat} {tl : List Int} (h : OlAt w gb n i tl) {j : Nat} (hj : j < n) : ∃ x, w.cell? ⟨gb, j, none⟩ = some (.int .i64 x) := by
  obtain ⟨cs, e, _, _, _, _, e5⟩ := h
  obtain ⟨x, hx⟩ := e5 j hj
  exact ⟨x, (blk_cell e j).trans hx⟩
theorem OlAt.frozen {w : World} {gb n i : Nat} {tl : List Int} (h : OlAt w gb n i tl) (j : Nat) : w.frozen? ⟨gb, j, none⟩ = false := by
  obtain ⟨cs, e, _⟩ := h
  exact blk_frozen e j
theorem OlAt.lt {w : World} {gb n i : Nat} {tl : List Int} (h : OlAt w gb n i tl) : gb < w.heap.size := by
  obtain ⟨cs, e, _⟩ := h
  exact blk_lt e
theorem drop_getD (l : List Int) (i : Nat) (h1 : 1 ≤ i) (h : i - 1 < l.length) : l.drop (i - 1) = l.getD (i - 1) 0 :: l.drop i := by
  rw [List.drop_eq_getElem_cons h, List.getD_eq_getElem?_getD, List.getElem?_eq_getElem h, show i - 1 + 1 = i by omega]
  rfl
theorem round_new {w w2 : World} {g gb t n i : Nat} {tl : List Int} {R : Array Value} {c : BC} {s : S} {v : Int} (h : Has w2 g t R c s ∧ Kp w w2 g ∧ OlAt w2 gb n i tl) (hg : w.heap.size ≤ gb ∧ gb ≠ g) (hi : 1 ≤ i) (hv : tl.getD (i - 1) 0 = v) :
    Has (w2.setCell ⟨gb, i, none⟩ (.int .i64 v)) g t R c s ∧ Kp w (w2.setCell ⟨gb, i, none⟩ (.int .i64 v)) g ∧ OlAt (w2.setCell ⟨gb, i, none⟩ (.int .i64 v)) gb n (i + 1) tl :=
  ⟨OlAt.far h.2.2 h.1 hg.2 i _, Kp.own h.2.1 hg.1 i _, OlAt.store h.2.2 hi hv.symm⟩
theorem OlAt.lens {w : World} {gb n i : Nat} {tl : List Int} (h : OlAt w gb n n tl) (hi : i < n) (hck : ∀ j m, 1 ≤ j → j < n → known j = some m → tl.getD (j - 1) 0 = m) : ∃ x, w.cell? ⟨gb, i, none⟩ = some (.int .i64 x) ∧ ∀ m, known i = some m → x = m := by
  obtain ⟨cs, e, _, _, e3, e4, _⟩ := h
  cases i with
  | zero => exact ⟨0, (blk_cell e 0).trans (e3 hi), fun m hm => by simp [known] at hm⟩
  | succ j => exact ⟨_, (blk_cell e (j + 1)).trans (e4 (j + 1) (by omega) hi hi), fun m hm => hck (j + 1) m (by omega) hi hm⟩
/-- The map of the numbers of operands lies in block bm. -/
structure MapOk (w : World) (bm : Nat) : Prop where
  glob : w.cell? ⟨2, 0, none⟩ = some (.map (some bm))
  lt : bm < w.heap.size
  run : ∀ w', w'.heap[bm]? = w.heap[bm]? → ∀ i : Nat, i < 256 → (Instr.lookup 119 (.map (some bm)) (.int .i64 (i : Int)) true).run Tryd.prog w' = .ok (match known i with | some n => .tuple #[.int .i64 n, .bool true] | none => .tuple #[.int .i64 0, .bool false]) w'
theorem MapOk.kp {w w' : World} {g bm : Nat} (h : MapOk w bm) (hk : Kp w w' g) (hne : 2 ≠ g ∧ bm ≠ g) : w'.cell? ⟨2, 0, none⟩ = some (.map (some bm)) ∧ ∀ i : Nat, i < 256 → (Instr.lookup 119 (.map (some bm)) (.int .i64 (i : Int)) true).run Tryd.prog w' = .ok (match known i with | some n => .tuple #[.int .i64 n, .bool true] | none => .tuple #[.int .i64 0, .bool false]) w' := by
  refine ⟨?_, h.run w' (hk.block bm h.lt hne.2)⟩
  have hlt := World.block_lt_of_cell? w _ h.glob
  rw [← h.glob]
  unfold World.cell?
  rw [hk.block _ hlt hne.1]
theorem zeroAt_eq' : ∀ l : List Int, zeroAt l = Buf.zeroAt l
  | [] => rfl
  | b :: r => by rw [zeroAt, Buf.zeroAt, zeroAt_eq' r]
theorem Kp.kx0 {w w1 w' : World} {g : Nat} (h : Kp w w1 g) (k : Kx w1 w' w.heap.size g g) : Kp w w' g := ⟨k.os.trans h.os, k.tape.trans h.tape, k.output.trans h.output, Nat.le_trans h.size k.size, fun i hi hg => (k.block i (Nat.lt_of_lt_of_le hi h.size) (by
  rintro (h2 | h2 | ⟨h2, _⟩)
  · exact hg h2
  · exact hg h2
  · omega)).trans (h.block i hi hg)⟩
theorem info_lf : (Tryd.prog.info? 90).map (fun i => (i.zero, i.size, i.bytes)) = some (some (.pointer none), 1, 8) := by kernel_rfl
theorem make_ptr (w : World) : (Instr.makeSlice 89 (.int .i64 1) (.int .i64 1)).run Tryd.prog w = .ok (.slice (some ⟨w.heap.size, 0, none⟩) 1 1) (w.alloc (.cells #[.pointer none] 90)) := by
  obtain ⟨i0, hi, hz0, hz1, hz2⟩ := info_parts info_lf
  have h1 := run_make (P := Tryd.prog) w 89 90 i0 (.pointer none) Tryd.underlying89 hi hz0 .i64 .i64 1 1 (by omega) (by omega) (by rw [hz2]; omega) (by omega)
  rw [hz1, Nat.mul_one] at h1
  have e : madeCells (Value.pointer none).cells (Int.toNat 1) = #[Value.pointer none] := by kernel_rfl
  rw [e] at h1
  exact h1
theorem files_new {w : World} {b base : Nat} (hb : base ≤ b) (h : w.heap[b]? = some (.cells #[.pointer none] 90 (0, 0))) : FilesAt w base b 1 [none] := by
  refine ⟨⟨_, h, rfl, fun i hi => ?_, fun i h1 h2 => ?_⟩, hb, Nat.le_refl _⟩
  · have : i = 0 := by simpa using hi
    subst this
    exact ⟨_, rfl, rfl⟩
  · simp at h1
    omega
theorem OlAt.kx {w w' : World} {gb n i base g : Nat} {tl : List Int} (h : OlAt w gb n i tl) (hk : Kx w w' base g g) (hne : gb ≠ g) : OlAt w' gb n i tl := by
  obtain ⟨cs, e, h⟩ := h
  refine ⟨cs, (hk.block gb (blk_lt e) ?_).trans e, h⟩
  rintro (h | h | ⟨_, cs', x, h⟩)
  · exact hne h
  · exact hne h
  · rw [e] at h
    injection h with h
    injection h with _ h
    exact absurd h (by decide)
theorem strs_kx {w w' : World} {gd base g : Nat} {cs : Array Value} (h : w.heap[gd]? = some (.cells cs 9 (0, 0))) (hk : Kx w w' base g g) (hne : gd ≠ g) : w'.heap[gd]? = some (.cells cs 9 (0, 0)) := by
  refine (hk.block gd (blk_lt h) ?_).trans h
  rintro (h2 | h2 | ⟨_, cs', x, h2⟩)
  · exact hne h2
  · exact hne h2
  · rw [h] at h2
    injection h2 with h2
    injection h2 with _ h2
    exact absurd h2 (by decide)
theorem fileIn_none {dirs : List ByteArray} {l : List Int} {n : Nat} (h : fileIn dirs l = some (none, n)) : Buf.zeroAt l = some 0 := by
  unfold fileIn at h
  obtain ⟨i, hz, h⟩ := Option.bind_eq_some_iff.1 h
  by_cases hi : i = 0
  · rw [← zeroAt_eq', hz, hi]
  · rw [if_neg hi] at h
    obtain ⟨d, _, h⟩ := Option.bind_eq_some_iff.1 h
    obtain ⟨nm, _, h⟩ := Option.bind_eq_some_iff.1 h
    obtain ⟨m, _, h⟩ := Option.bind_eq_some_iff.1 h
    obtain ⟨l, _, h⟩ := Option.bind_eq_some_iff.1 h
    simp at h
theorem unum_some' {l : List Int} {v n : Nat} (h : unum l = some (v, n)) : uread l = some (v, n) ∧ v < 9223372036854775808 := by
  unfold unum at h
  obtain ⟨vn, h1, h2⟩ := Option.bind_eq_some_iff.1 h
  split at h2
  · cases h2
    exact ⟨h1, by assumption⟩
  · cases h2
theorem fileIn_some {dirs : List ByteArray} {l : List Int} {n : Nat} {f : Fl} (h : fileIn dirs l = some (some f, n)) : ∃ i dv dn mv mn lv ln : Nat, Buf.zeroAt l = some i ∧ 0 < i ∧ (uread (l.drop (i + 1)) = some (dv, dn) ∧ dv < 9223372036854775808) ∧ nameIn dirs (strOf (l.take i)) dv = some f.nm ∧ (uread (l.drop (i + 1 + dn)) = some (mv, mn) ∧ mv < 9223372036854775808) ∧ (uread (l.drop (i + 1 + dn + mn)) = some (lv, ln) ∧ lv < 9223372036854775808) ∧ f = ⟨f.nm, mv, lv⟩ ∧ n = i + 1 + dn + mn + ln := by
  unfold fileIn at h
  obtain ⟨i, hz, h⟩ := Option.bind_eq_some_iff.1 h
  by_cases hi : i = 0
  · rw [if_pos hi] at h
    simp at h
  · rw [if_neg hi] at h
    obtain ⟨⟨dv, dn⟩, hd, h⟩ := Option.bind_eq_some_iff.1 h
    obtain ⟨nm, hnm, h⟩ := Option.bind_eq_some_iff.1 h
    obtain ⟨⟨mv, mn⟩, hm, h⟩ := Option.bind_eq_some_iff.1 h
    obtain ⟨⟨lv, ln⟩, hl, h⟩ := Option.bind_eq_some_iff.1 h
    simp only [Option.some.injEq, Prod.mk.injEq] at h
    obtain ⟨rfl, rfl⟩ := h
    exact ⟨i, dv, dn, mv, mn, lv, ln, by rw [← zeroAt_eq']; exact hz, by omega, unum_some' hd, hnm, unum_some' hm, unum_some' hl, rfl, rfl⟩
theorem alloc_below (w : World) (o : Obj) : Below w.heap.size w (w.alloc o) := ⟨rfl, rfl, rfl, by simp, fun k hk => heap_alloc_old w _ hk⟩
/-- The cells of a reader whose header is being read. -/
abbrev hr (sec str lstr : Value) (ver asz seg mi mo : Int) (ds : Bool) (lb lr ob : Int) (ol dirs fv : Value) (po eo nI : Int) : Array Value :=
  #[sec, str, lstr, .int .u16 ver, .int .i64 asz, .int .i64 seg, .int .i64 mi, .int .i64 mo, .bool ds, .int .i64 lb, .int .i64 lr, .int .i64 ob, ol, dirs, fv, .int .u32 po, .int .u32 eo, .int .i64 nI,
    .int .u64 0, .int .i64 0, .pointer none, .int .i64 0, .int .i64 0, .bool false, .bool false, .bool false, .bool false, .int .i64 0, .int .i64 0, .bool false, .int .i64 0]
theorem hr_all {sec str lstr ol dirs fv : Value} (ver asz seg mi mo : Int) (ds : Bool) (lb lr ob po eo nI : Int) (h : isByte sec = false ∧ isByte str = false ∧ isByte lstr = false) (h1 : isByte ol = false) (h2 : isByte dirs = false) (h3 : isByte fv = false) : (hr sec str lstr ver asz seg mi mo ds lb lr ob ol dirs fv po eo nI).all (fun v => !isByte v) = true := by
  obtain ⟨e1, e2, e3⟩ := h
  simp [e1, e2, e3, h1, h2, h3, nb_bool, nb_i64, nb_u64, nb_u32, nb_u16]
  rfl

/-- One directory lies. -/
theorem dir_lies {w : World} {gd : Nat} {dir : ByteArray} (h : w.heap[gd]? = some (.cells #[.string dir] 9 (0, 0))) : Lies w 9 Kd.string (.slice (some ⟨gd, 0, none⟩) 1 1) [dir] :=
  ⟨some ⟨gd, 0, none⟩, 1, rfl, Nat.le_refl _, ⟨rfl, by simp, fun _ => ⟨⟨gd, 0, none⟩, rfl, fun j p hj => by
    rcases j with _ | j
    · cases hj
      exact ⟨[.string dir], rfl, rfl, fun i u hu => by
        rcases i with _ | i
        · cases hu
          exact (blk_cell h 0).trans rfl
        · cases hu⟩
    · cases hj⟩⟩, fun ad had => by
      cases had
      exact ⟨_, _, h⟩⟩
/-- What readHeader leaves. -/
def HdrPost (w : World) (g : Nat) (sec str lstr : Value) (ver asz seg mi mo : Int) (ds : Bool) (lb lr ob po eo : Int) (c : BC) (dir : ByteArray) (tl : List Int) (OB : Nat) (F : List (Option Fl)) (e : Ending) (w' : World) : Prop := e = .returned .nilIface ∧ ∃ gb gd b cap S0, Has w' g 94 (hr sec str lstr ver asz seg mi mo ds lb lr ob (.slice (some ⟨gb, 0, none⟩) OB OB) (.slice (some ⟨gd, 0, none⟩) 1 1) (.slice (some ⟨b, 0, none⟩) (1 + F.length) cap) po eo ((1 + F.length : Nat) : Int)) c S0 ∧ S0.ok = true ∧ Kp w w' g ∧ FilesAt w' w.heap.size b cap (none :: F) ∧ OlAt w' gb OB OB tl ∧ w'.heap[gd]? = some (.cells #[.string dir] 9 (0, 0))
set_option maxHeartbeats 1000000 in
theorem hdr4n_calls {w : World} {g : Nat} {asz : Int} {sec str lstr d : Value} {nm : ByteArray} {c : BC} (hbc : c = ⟨d, c.big, .iface 85 (.agg #[.int .i64 (asz : Int)]), nm⟩) {off : Nat} {dir : ByteArray} {b0 b1 b2 b3 v0 v1 h0 h1 h2 h3 mi mo ds lb lr : Int} {OB : Nat} {tl : List Int} {U Hl : Nat}
    (hH : Has w g 94 (hr sec str lstr 0 0 0 0 0 false 0 0 0 (.slice none 0 0) (.slice none 0 0) (.slice none 0 0) 0 0 0) c ⟨(off : Int), b0 :: b1 :: b2 :: b3 :: v0 :: v1 :: h0 :: h1 :: h2 :: h3 :: mi :: mo :: ds :: lb :: lr :: (OB : Int) :: tl, true⟩) (hnb : isByte sec = false ∧ isByte str = false ∧ isByte lstr = false) (hcb : isByte c.d = false ∧ isByte c.f = false)
    (hU : four c.big b0 b1 b2 b3 = (U : Int)) (hU1 : U < 4294967280) (hV : two c.big v0 v1 = 4) (hHl : four c.big h0 h1 h2 h3 = (Hl : Int)) (hoff : off + 16 + tl.length < 2147483648) (hlen : 4 + U ≤ 16 + tl.length) (hpo : 10 + Hl ≤ 4 + U) (hmo : 1 ≤ mo) (hlr : 1 ≤ lr) (hob : 1 ≤ OB ∧ OB - 1 ≤ tl.length) (hck : ∀ j m, 1 ≤ j → j < OB → known j = some m → tl.getD (j - 1) 0 = m) {l2 : List Int} (htl : tl.drop (OB - 1) = 0 :: l2) {F : List (Option Fl)} {M LN : Nat} (hfi : filesIn [dir] M l2 = some (F, LN)) (hnames : ∀ nm d r, nm.size < 2147483648 → nameIn [dir] nm d = some r → NameOk [dir] nm d.toNat r) {bm : Nat} (hmp : MapOk w bm ∧ 2 ≠ g ∧ bm ≠ g) :
    Calls Tryd.prog 29 #[.pointer (some ⟨g, 0, none⟩), .string dir] w fun e w' => HdrPost w g sec str lstr 4 asz 0 mi mo (ds != 0) (sbyte lb) lr OB ((off + 10 + Hl : Nat) : Int) ((off + 4 + U : Nat) : Int) c dir tl OB F e w' := by
  have HU := Aside0.mk (unit_narrow_calls hH rfl hU (by omega))
  have HX := Aside0.mk (And.intro hnb hcb)
  have HBY := Aside0.mk hH.byte
  have HB := Aside0.mk (And.intro hH (Kp.refl w g))
  have HH := Aside0.mk (And.intro hU (And.intro hU1 (And.intro hV (And.intro hHl (And.intro hoff (And.intro hlen (And.intro hpo (And.intro hmo hlr))))))))
  have HBC := Aside0.mk hbc
  have HOL := Aside0.mk hob
  have HCK := Aside0.mk hck
  have HMP := Aside0.mk hmp
  have HTL := Aside0.mk htl
  have HFI := Aside0.mk hfi
  have HNM0 := Aside0.mk hnames
  clear hck hmp htl hfi hnames
  obtain ⟨EO, hEO⟩ : ∃ EO, off + 4 + U = EO := ⟨_, rfl⟩
  obtain ⟨N, hN⟩ : ∃ N, 12 + tl.length = N := ⟨_, rfl⟩
  obtain ⟨X, hX⟩ : ∃ X, off + 4 + N = X := ⟨_, rfl⟩
  have HE := Aside0.mk (And.intro hEO (And.intro hN hX))
  have HC1 : Aside0 (IntKind.u32.wrap (((off + 4 : Nat) : Int) + (U : Int)) = (EO : Int) ∧ IntKind.u32.wrap (N : Int) = (N : Int) ∧ IntKind.u32.wrap (((off + 4 : Nat) : Int) + (N : Int)) = (X : Int) ∧ decide ((X : Int) < (EO : Int)) = false ∧ decide (X < EO) = false) := ⟨u32_add _ _ _ hEO (by omega), u32_nat _ (by omega), u32_add _ _ _ hX (by omega), by simp; omega, by simp; omega⟩
  obtain ⟨PO, hPO⟩ : ∃ PO, off + 10 + Hl = PO := ⟨_, rfl⟩
  have HC2 : Aside0 (IntKind.u32.wrap (((off + 10 : Nat) : Int) + (Hl : Int)) = (PO : Int) ∧ decide ((EO : Int) < (PO : Int)) = false ∧ decide (EO < PO) = false ∧ PO ≤ EO) := ⟨u32_add _ _ _ hPO (by omega), by simp; omega, by simp; omega, by omega⟩
  obtain ⟨C4, hC4⟩ : ∃ C4 : Int, ((off + 4 : Nat) : Int) = C4 := ⟨_, rfl⟩
  have n0 : g < w.heap.size := hH.lt
  have q4 := hH.offc
  have hOB : OB < 256 := by have := HBY.out (OB : Int) (by simp); omega
  have hmk := make_ints hOB
  have HOB := Aside0.mk hOB
  clear hOB
  have hm : ∀ w : World, (method 336 85 (.agg #[.int .i64 (asz : Int)]) "loop.example/pub-g03025/pub/dwarf.addrsize").run Tryd.prog w = .ok (102, .agg #[.int .i64 (asz : Int)]) w := fun _ => by kernel_rfl
  have HPO := Aside0.mk hPO
  clear hob hH hnb hcb hU hU1 hV hHl hoff hlen hpo hmo hlr hbc hEO hN hX hPO
  go_enter Tryd.func29, Tryd.ntmps29
  go_wp2_with fail
  clear q4 n0
  refine HU.out.mono ?_
  rintro e w1 ⟨rfl, hh, hk⟩
  have HB : Aside0 (Has w1 g 94 (hr sec str lstr 0 0 0 0 0 false 0 0 0 (.slice none 0 0) (.slice none 0 0) (.slice none 0 0) 0 0 0) c ⟨((off + 4 : Nat) : Int), v0 :: v1 :: h0 :: h1 :: h2 :: h3 :: mi :: mo :: ds :: lb :: lr :: (OB : Int) :: tl, true⟩ ∧ Kp w w1 g) := ⟨by have h1_ := hh; rw [adv_mk _ _ _ (by have := HH.out.2.2.2.2.1; omega)] at h1_; exact h1_, HB.out.2.trans hk⟩
  clear hh hk HU
  obtain ⟨cw1, cw2, cw3, cw4, cw5⟩ := HC1.out
  rw [hC4] at cw1 cw3
  have q4 : w1.cell? ⟨g, 4, none⟩ = some (.int .u32 C4) := by rw [← hC4]; exact HB.out.1.offc
  have n0 : g < w1.heap.size := HB.out.1.lt
  have q23 : w1.cell? ⟨g, 23, none⟩ = some (.int .u32 (0)) := HB.out.1.cell (j := 16) rfl rfl
  have f23 := HB.out.1.free 23
  have hs_ := HB.out.1.st1 23 (.int .u32 ((EO : Int))) (rest' := hr sec str lstr 0 0 0 0 0 false 0 0 0 (.slice none 0 0) (.slice none 0 0) (.slice none 0 0) 0 (EO : Int) 0) (hr_all _ _ _ _ _ _ _ _ _ _ _ _ HX.out.1 rfl rfl rfl) HX.out.2 (fun a h7 => by simp [Array.setIfInBounds_append_right, h7])
  have HN := Aside0.mk (And.intro hs_ (HB.out.2.set 23 (.int .u32 ((EO : Int)))))
  clear hs_ HB
  go_wp2_with fail
  clear n0 q23 f23 
  revert HN
  generalize w1.setCell ⟨g, 23, none⟩ (.int .u32 ((EO : Int))) = w1s
  intro HB
  obtain ⟨A5, cap5, q5⟩ : ∃ A5 cap5, w1s.cell? ⟨g, 5, none⟩ = some (.slice A5 N cap5) := by
    have hl5 : (v0 :: v1 :: h0 :: h1 :: h2 :: h3 :: mi :: mo :: ds :: lb :: lr :: (OB : Int) :: tl).length = N := by rw [← HE.out.2.1]; simp; omega
    obtain ⟨A5, cap5, _, _, _, _, q5, _⟩ := HB.out.1.parts
    rw [← hl5]
    exact ⟨_, _, q5⟩
  clear q4
  have q4 : w1s.cell? ⟨g, 4, none⟩ = some (.int .u32 C4) := by rw [← hC4]; exact HB.out.1.offc
  have n0 : g < w1s.heap.size := HB.out.1.lt
  have q23 : w1s.cell? ⟨g, 23, none⟩ = some (.int .u32 ((EO : Int))) := HB.out.1.cell (j := 16) rfl rfl
  have f23 := HB.out.1.free 23
  have HC_ := fun n => And.intro (HB.out.1.drewN n) (HB.out.2.drewN n)
  go_quiet (fail)
  clear n0 q23 f23 q4 q5
  have HN := Aside0.mk (HC_ nq)
  clear HB HC_
  revert HN
  generalize w1s.drewN nq = w1sq
  intro HB
  go_wp2_with fail
  have HU := Aside0.mk (uint16_ok HB.out.1 rfl)
  rw [HH.out.2.2.1] at HU
  refine HU.out.mono ?_
  rintro e w2 ⟨rfl, hh, hk⟩
  have HB : Aside0 (Has w2 g 94 (hr sec str lstr 0 0 0 0 0 false 0 0 0 (.slice none 0 0) (.slice none 0 0) (.slice none 0 0) 0 (EO : Int) 0) c ⟨((off + 6 : Nat) : Int), h0 :: h1 :: h2 :: h3 :: mi :: mo :: ds :: lb :: lr :: (OB : Int) :: tl, true⟩ ∧ Kp w w2 g) := ⟨by have h1_ := hh; rw [adv_mk _ _ _ (by have := HH.out.2.2.2.2.1; omega)] at h1_; exact h1_, HB.out.2.trans hk⟩
  clear hh hk HU
  have n0 : g < w2.heap.size := HB.out.1.lt
  have q10 : w2.cell? ⟨g, 10, none⟩ = some (.int .u16 (0)) := HB.out.1.cell (j := 3) rfl rfl
  have f10 := HB.out.1.free 10
  have q6 : w2.cell? ⟨g, 6, none⟩ = some .nilIface := HB.out.1.noerr rfl
  have q2 : w2.cell? ⟨g, 2, none⟩ = some (.iface 85 (.agg #[.int .i64 (asz : Int)])) := HB.out.1.fcell.trans (congrArg some (congrArg BC.f HBC.out))
  have hs_ := HB.out.1.st1 10 (.int .u16 ((4 : Int))) (rest' := hr sec str lstr (4 : Int) 0 0 0 0 false 0 0 0 (.slice none 0 0) (.slice none 0 0) (.slice none 0 0) 0 (EO : Int) 0) (hr_all _ _ _ _ _ _ _ _ _ _ _ _ HX.out.1 rfl rfl rfl) HX.out.2 (fun a h7 => by simp [Array.setIfInBounds_append_right, h7])
  have HN := Aside0.mk (And.intro hs_ (HB.out.2.set 10 (.int .u16 ((4 : Int)))))
  clear hs_ HB
  go_wp2_with fail
  clear n0 q10 f10 q6 q2 
  revert HN
  generalize w2.setCell ⟨g, 10, none⟩ (.int .u16 ((4 : Int))) = w2s
  intro HB
  have HU := Aside0.mk (addrsize_calls (asz : Int) w2s)
  refine HU.out.mono ?_
  rintro e w3 ⟨rfl, hb⟩
  have HN := Aside0.mk (And.intro (HB.out.1.under hb) (HB.out.2.trans (Kp.of_below hb)))
  clear hb HU HB
  have HB := HN
  clear HN
  have n0 : g < w3.heap.size := HB.out.1.lt
  have q11 : w3.cell? ⟨g, 11, none⟩ = some (.int .i64 (0)) := HB.out.1.cell (j := 4) rfl rfl
  have f11 := HB.out.1.free 11
  have q12 : w3.cell? ⟨g, 12, none⟩ = some (.int .i64 (0)) := HB.out.1.cell (j := 5) rfl rfl
  have f12 := HB.out.1.free 12
  have hs_ := HB.out.1.st1 11 (.int .i64 ((asz : Int))) (rest' := hr sec str lstr (4 : Int) (asz : Int) 0 0 0 false 0 0 0 (.slice none 0 0) (.slice none 0 0) (.slice none 0 0) 0 (EO : Int) 0) (hr_all _ _ _ _ _ _ _ _ _ _ _ _ HX.out.1 rfl rfl rfl) HX.out.2 (fun a h7 => by simp [Array.setIfInBounds_append_right, h7])
  have HN := Aside0.mk (And.intro hs_ (HB.out.2.set 11 (.int .i64 ((asz : Int)))))
  clear hs_ HB
  go_wp2_with fail
  clear n0 q11 f11 q12 f12 
  revert HN
  generalize w3.setCell ⟨g, 11, none⟩ (.int .i64 ((asz : Int))) = w3s
  intro HB
  have hs_ := HB.out.1.st1 12 (.int .i64 ((0 : Int))) (rest' := hr sec str lstr (4 : Int) (asz : Int) (0 : Int) 0 0 false 0 0 0 (.slice none 0 0) (.slice none 0 0) (.slice none 0 0) 0 (EO : Int) 0) (hr_all _ _ _ _ _ _ _ _ _ _ _ _ HX.out.1 rfl rfl rfl) HX.out.2 (fun a h7 => by simp [Array.setIfInBounds_append_right, h7])
  have HN := Aside0.mk (And.intro hs_ (HB.out.2.set 12 (.int .i64 ((0 : Int)))))
  clear hs_ HB
  revert HN
  generalize w3s.setCell ⟨g, 12, none⟩ (.int .i64 ((0 : Int))) = w3ss
  intro HB
  have HU := Aside0.mk (uint32_ok HB.out.1 rfl)
  rw [HH.out.2.2.2.1] at HU
  refine HU.out.mono ?_
  rintro e w4 ⟨rfl, hh, hk⟩
  have HB : Aside0 (Has w4 g 94 (hr sec str lstr (4 : Int) (asz : Int) (0 : Int) 0 0 false 0 0 0 (.slice none 0 0) (.slice none 0 0) (.slice none 0 0) 0 (EO : Int) 0) c ⟨((off + 10 : Nat) : Int), mi :: mo :: ds :: lb :: lr :: (OB : Int) :: tl, true⟩ ∧ Kp w w4 g) := ⟨by have h1_ := hh; rw [adv_mk _ _ _ (by have := HH.out.2.2.2.2.1; omega)] at h1_; exact h1_, HB.out.2.trans hk⟩
  clear hh hk HU
  obtain ⟨C10, hC10⟩ : ∃ C10 : Int, ((off + 10 : Nat) : Int) = C10 := ⟨_, rfl⟩
  obtain ⟨ch1, ch2, ch3, ch4⟩ := HC2.out
  rw [hC10] at ch1
  have q4 : w4.cell? ⟨g, 4, none⟩ = some (.int .u32 C10) := by rw [← hC10]; exact HB.out.1.offc
  clear cw1 cw2 cw3 cw4 cw5
  have n0 : g < w4.heap.size := HB.out.1.lt
  have q22 : w4.cell? ⟨g, 22, none⟩ = some (.int .u32 (0)) := HB.out.1.cell (j := 15) rfl rfl
  have f22 := HB.out.1.free 22
  have q23 : w4.cell? ⟨g, 23, none⟩ = some (.int .u32 ((EO : Int))) := HB.out.1.cell (j := 16) rfl rfl
  have f23 := HB.out.1.free 23
  have hs_ := HB.out.1.st1 22 (.int .u32 ((PO : Int))) (rest' := hr sec str lstr (4 : Int) (asz : Int) (0 : Int) 0 0 false 0 0 0 (.slice none 0 0) (.slice none 0 0) (.slice none 0 0) (PO : Int) (EO : Int) 0) (hr_all _ _ _ _ _ _ _ _ _ _ _ _ HX.out.1 rfl rfl rfl) HX.out.2 (fun a h7 => by simp [Array.setIfInBounds_append_right, h7])
  have HN := Aside0.mk (And.intro hs_ (HB.out.2.set 22 (.int .u32 ((PO : Int)))))
  clear hs_ HB
  go_wp2_with fail
  clear n0 q22 f22 q23 f23 q4
  revert HN
  generalize w4.setCell ⟨g, 22, none⟩ (.int .u32 ((PO : Int))) = w4s
  intro HB
  have HU := Aside0.mk (uint8_has HB.out.1 rfl)
  refine HU.out.mono ?_
  rintro e w5 ⟨rfl, hh, hk⟩
  have HB : Aside0 (Has w5 g 94 (hr sec str lstr (4 : Int) (asz : Int) (0 : Int) 0 0 false 0 0 0 (.slice none 0 0) (.slice none 0 0) (.slice none 0 0) (PO : Int) (EO : Int) 0) c ⟨((off + 11 : Nat) : Int), mo :: ds :: lb :: lr :: (OB : Int) :: tl, true⟩ ∧ Kp w w5 g) := ⟨by have h1_ := hh; rw [adv_mk _ _ _ (by have := HH.out.2.2.2.2.1; omega)] at h1_; exact h1_, HB.out.2.trans hk⟩
  clear hh hk HU
  obtain ⟨by1, by2⟩ := byte_i64 mi (HBY.out mi (by simp))
  have n0 : g < w5.heap.size := HB.out.1.lt
  have q13 : w5.cell? ⟨g, 13, none⟩ = some (.int .i64 (0)) := HB.out.1.cell (j := 6) rfl rfl
  have f13 := HB.out.1.free 13
  have q10 : w5.cell? ⟨g, 10, none⟩ = some (.int .u16 ((4 : Int))) := HB.out.1.cell (j := 3) rfl rfl
  have f10 := HB.out.1.free 10
  have hs_ := HB.out.1.st1 13 (.int .i64 (mi)) (rest' := hr sec str lstr (4 : Int) (asz : Int) (0 : Int) mi 0 false 0 0 0 (.slice none 0 0) (.slice none 0 0) (.slice none 0 0) (PO : Int) (EO : Int) 0) (hr_all _ _ _ _ _ _ _ _ _ _ _ _ HX.out.1 rfl rfl rfl) HX.out.2 (fun a h7 => by simp [Array.setIfInBounds_append_right, h7])
  have HN := Aside0.mk (And.intro hs_ (HB.out.2.set 13 (.int .i64 (mi))))
  clear hs_ HB
  go_wp2_with fail
  clear n0 q13 f13 q10 f10 by1 by2
  revert HN
  generalize w5.setCell ⟨g, 13, none⟩ (.int .i64 (mi)) = w5s
  intro HB
  have HU := Aside0.mk (uint8_has HB.out.1 rfl)
  refine HU.out.mono ?_
  rintro e w6 ⟨rfl, hh, hk⟩
  have HB : Aside0 (Has w6 g 94 (hr sec str lstr (4 : Int) (asz : Int) (0 : Int) mi 0 false 0 0 0 (.slice none 0 0) (.slice none 0 0) (.slice none 0 0) (PO : Int) (EO : Int) 0) c ⟨((off + 12 : Nat) : Int), ds :: lb :: lr :: (OB : Int) :: tl, true⟩ ∧ Kp w w6 g) := ⟨by have h1_ := hh; rw [adv_mk _ _ _ (by have := HH.out.2.2.2.2.1; omega)] at h1_; exact h1_, HB.out.2.trans hk⟩
  clear hh hk HU
  obtain ⟨by1, by2⟩ := byte_i64 mo (HBY.out mo (by simp))
  have n0 : g < w6.heap.size := HB.out.1.lt
  have q14 : w6.cell? ⟨g, 14, none⟩ = some (.int .i64 (0)) := HB.out.1.cell (j := 7) rfl rfl
  have f14 := HB.out.1.free 14
  have hs_ := HB.out.1.st1 14 (.int .i64 (mo)) (rest' := hr sec str lstr (4 : Int) (asz : Int) (0 : Int) mi mo false 0 0 0 (.slice none 0 0) (.slice none 0 0) (.slice none 0 0) (PO : Int) (EO : Int) 0) (hr_all _ _ _ _ _ _ _ _ _ _ _ _ HX.out.1 rfl rfl rfl) HX.out.2 (fun a h7 => by simp [Array.setIfInBounds_append_right, h7])
  have HN := Aside0.mk (And.intro hs_ (HB.out.2.set 14 (.int .i64 (mo))))
  clear hs_ HB
  go_wp2_with fail
  clear n0 q14 f14 by1 by2
  revert HN
  generalize w6.setCell ⟨g, 14, none⟩ (.int .i64 (mo)) = w6s
  intro HB
  have HU := Aside0.mk (uint8_has HB.out.1 rfl)
  refine HU.out.mono ?_
  rintro e w7 ⟨rfl, hh, hk⟩
  have HB : Aside0 (Has w7 g 94 (hr sec str lstr (4 : Int) (asz : Int) (0 : Int) mi mo false 0 0 0 (.slice none 0 0) (.slice none 0 0) (.slice none 0 0) (PO : Int) (EO : Int) 0) c ⟨((off + 13 : Nat) : Int), lb :: lr :: (OB : Int) :: tl, true⟩ ∧ Kp w w7 g) := ⟨by have h1_ := hh; rw [adv_mk _ _ _ (by have := HH.out.2.2.2.2.1; omega)] at h1_; exact h1_, HB.out.2.trans hk⟩
  clear hh hk HU
  have n0 : g < w7.heap.size := HB.out.1.lt
  have q15 : w7.cell? ⟨g, 15, none⟩ = some (.bool (false)) := HB.out.1.cell (j := 8) rfl rfl
  have f15 := HB.out.1.free 15
  have hs_ := HB.out.1.st1 15 (.bool (ds != 0)) (rest' := hr sec str lstr (4 : Int) (asz : Int) (0 : Int) mi mo (ds != 0) 0 0 0 (.slice none 0 0) (.slice none 0 0) (.slice none 0 0) (PO : Int) (EO : Int) 0) (hr_all _ _ _ _ _ _ _ _ _ _ _ _ HX.out.1 rfl rfl rfl) HX.out.2 (fun a h7 => by simp [Array.setIfInBounds_append_right, h7])
  have HN := Aside0.mk (And.intro hs_ (HB.out.2.set 15 (.bool (ds != 0))))
  clear hs_ HB
  go_wp2_with fail
  clear n0 q15 f15 
  revert HN
  generalize w7.setCell ⟨g, 15, none⟩ (.bool (ds != 0)) = w7s
  intro HB
  have HU := Aside0.mk (uint8_has HB.out.1 rfl)
  refine HU.out.mono ?_
  rintro e w8 ⟨rfl, hh, hk⟩
  have HB : Aside0 (Has w8 g 94 (hr sec str lstr (4 : Int) (asz : Int) (0 : Int) mi mo (ds != 0) 0 0 0 (.slice none 0 0) (.slice none 0 0) (.slice none 0 0) (PO : Int) (EO : Int) 0) c ⟨((off + 14 : Nat) : Int), lr :: (OB : Int) :: tl, true⟩ ∧ Kp w w8 g) := ⟨by have h1_ := hh; rw [adv_mk _ _ _ (by have := HH.out.2.2.2.2.1; omega)] at h1_; exact h1_, HB.out.2.trans hk⟩
  clear hh hk HU
  obtain ⟨by0, by1, by2⟩ := byte_i8 lb (HBY.out lb (by simp))
  have n0 : g < w8.heap.size := HB.out.1.lt
  have q16 : w8.cell? ⟨g, 16, none⟩ = some (.int .i64 (0)) := HB.out.1.cell (j := 9) rfl rfl
  have f16 := HB.out.1.free 16
  have hs_ := HB.out.1.st1 16 (.int .i64 (sbyte lb)) (rest' := hr sec str lstr (4 : Int) (asz : Int) (0 : Int) mi mo (ds != 0) (sbyte lb) 0 0 (.slice none 0 0) (.slice none 0 0) (.slice none 0 0) (PO : Int) (EO : Int) 0) (hr_all _ _ _ _ _ _ _ _ _ _ _ _ HX.out.1 rfl rfl rfl) HX.out.2 (fun a h7 => by simp [Array.setIfInBounds_append_right, h7])
  have HN := Aside0.mk (And.intro hs_ (HB.out.2.set 16 (.int .i64 (sbyte lb))))
  clear hs_ HB
  go_wp2_with fail
  clear n0 q16 f16 by0 by1 by2
  revert HN
  generalize w8.setCell ⟨g, 16, none⟩ (.int .i64 (sbyte lb)) = w8s
  intro HB
  have HU := Aside0.mk (uint8_has HB.out.1 rfl)
  refine HU.out.mono ?_
  rintro e w9 ⟨rfl, hh, hk⟩
  have HB : Aside0 (Has w9 g 94 (hr sec str lstr (4 : Int) (asz : Int) (0 : Int) mi mo (ds != 0) (sbyte lb) 0 0 (.slice none 0 0) (.slice none 0 0) (.slice none 0 0) (PO : Int) (EO : Int) 0) c ⟨((off + 15 : Nat) : Int), (OB : Int) :: tl, true⟩ ∧ Kp w w9 g) := ⟨by have h1_ := hh; rw [adv_mk _ _ _ (by have := HH.out.2.2.2.2.1; omega)] at h1_; exact h1_, HB.out.2.trans hk⟩
  clear hh hk HU
  obtain ⟨by1, by2⟩ := byte_i64 lr (HBY.out lr (by simp))
  have mo1 : (mo == 0) = false := by have := HH.out.2.2.2.2.2.2.2.1; simp; omega
  have mo2 : decide (mo = 0) = false := by have := HH.out.2.2.2.2.2.2.2.1; simp; omega
  have lr1 : (lr == 0) = false := by have := HH.out.2.2.2.2.2.2.2.2; simp; omega
  have lr2 : decide (lr = 0) = false := by have := HH.out.2.2.2.2.2.2.2.2; simp; omega
  have n0 : g < w9.heap.size := HB.out.1.lt
  have q17 : w9.cell? ⟨g, 17, none⟩ = some (.int .i64 (0)) := HB.out.1.cell (j := 10) rfl rfl
  have f17 := HB.out.1.free 17
  have q14 : w9.cell? ⟨g, 14, none⟩ = some (.int .i64 (mo)) := HB.out.1.cell (j := 7) rfl rfl
  have f14 := HB.out.1.free 14
  have q6 : w9.cell? ⟨g, 6, none⟩ = some .nilIface := HB.out.1.noerr rfl
  have hs_ := HB.out.1.st1 17 (.int .i64 (lr)) (rest' := hr sec str lstr (4 : Int) (asz : Int) (0 : Int) mi mo (ds != 0) (sbyte lb) lr 0 (.slice none 0 0) (.slice none 0 0) (.slice none 0 0) (PO : Int) (EO : Int) 0) (hr_all _ _ _ _ _ _ _ _ _ _ _ _ HX.out.1 rfl rfl rfl) HX.out.2 (fun a h7 => by simp [Array.setIfInBounds_append_right, h7])
  have HN := Aside0.mk (And.intro hs_ (HB.out.2.set 17 (.int .i64 (lr))))
  clear hs_ HB
  go_wp2_with fail
  clear n0 q17 f17 q14 f14 q6 by1 by2 mo1 mo2 lr1 lr2
  revert HN
  generalize w9.setCell ⟨g, 17, none⟩ (.int .i64 (lr)) = w9s
  intro HB
  have HU := Aside0.mk (uint8_has HB.out.1 rfl)
  refine HU.out.mono ?_
  rintro e w10 ⟨rfl, hh, hk⟩
  have HB : Aside0 (Has w10 g 94 (hr sec str lstr (4 : Int) (asz : Int) (0 : Int) mi mo (ds != 0) (sbyte lb) lr 0 (.slice none 0 0) (.slice none 0 0) (.slice none 0 0) (PO : Int) (EO : Int) 0) c ⟨((off + 16 : Nat) : Int), tl, true⟩ ∧ Kp w w10 g) := ⟨by have h1_ := hh; rw [adv_mk _ _ _ (by have := HH.out.2.2.2.2.1; omega)] at h1_; exact h1_, HB.out.2.trans hk⟩
  clear hh hk HU
  obtain ⟨by1, by2⟩ := byte_i64 (OB : Int) (HBY.out (OB : Int) (by simp))
  have n0 : g < w10.heap.size := HB.out.1.lt
  have q18 : w10.cell? ⟨g, 18, none⟩ = some (.int .i64 (0)) := HB.out.1.cell (j := 11) rfl rfl
  have f18 := HB.out.1.free 18
  have q19 : w10.cell? ⟨g, 19, none⟩ = some ((.slice none 0 0)) := HB.out.1.cell (j := 12) rfl rfl
  have f19 := HB.out.1.free 19
  have hs_ := HB.out.1.st1 18 (.int .i64 ((OB : Int))) (rest' := hr sec str lstr (4 : Int) (asz : Int) (0 : Int) mi mo (ds != 0) (sbyte lb) lr (OB : Int) (.slice none 0 0) (.slice none 0 0) (.slice none 0 0) (PO : Int) (EO : Int) 0) (hr_all _ _ _ _ _ _ _ _ _ _ _ _ HX.out.1 rfl rfl rfl) HX.out.2 (fun a h7 => by simp [Array.setIfInBounds_append_right, h7])
  have HN := Aside0.mk (And.intro hs_ (HB.out.2.set 18 (.int .i64 ((OB : Int)))))
  clear hs_ HB
  go_wp2_with fail
  clear n0 q18 f18 q19 f19 by1 by2
  have HZ := Aside0.mk (show (w10.setCell ⟨g, 18, none⟩ (.int .i64 ((OB : Int)))).heap.size = w10.heap.size by simp)
  revert HN HZ
  generalize w10.setCell ⟨g, 18, none⟩ (.int .i64 ((OB : Int))) = w10s
  intro HB HZ
  have hz_ : ∀ v : Value, (w10s.setCell ⟨g, 19, none⟩ v).heap.size = w10.heap.size := fun v => by rw [← HZ.out]; simp
  have hgw : w.heap.size ≤ w10.heap.size := by rw [← HZ.out]; exact HB.out.2.size
  have hgg : w10.heap.size ≠ g := by have := HB.out.1.lt; rw [HZ.out] at this; omega
  revert hz_ hgw hgg
  generalize w10.heap.size = gb
  intro hz_ hgw hgg
  have hs_ := HB.out.1.st1 19 (.slice (some ⟨gb, 0, none⟩) OB OB) (rest' := hr sec str lstr (4 : Int) (asz : Int) (0 : Int) mi mo (ds != 0) (sbyte lb) lr (OB : Int) (.slice (some ⟨gb, 0, none⟩) OB OB) (.slice none 0 0) (.slice none 0 0) (PO : Int) (EO : Int) 0) (hr_all _ _ _ _ _ _ _ _ _ _ _ _ HX.out.1 rfl rfl rfl) HX.out.2 (fun a h7 => by simp [Array.setIfInBounds_append_right, h7])
  have ho_ := olAt_new (w10s.setCell ⟨g, 19, none⟩ (.slice (some ⟨gb, 0, none⟩) OB OB)) OB tl
  rw [hz_] at ho_
  have hb_ := alloc_below (w10s.setCell ⟨g, 19, none⟩ (.slice (some ⟨gb, 0, none⟩) OB OB)) (.cells (madeCells #[.int .i64 0] OB) 3)
  have HN := Aside0.mk (And.intro (hs_.under hb_) (And.intro ((HB.out.2.set 19 _).trans (Kp.of_below hb_)) ho_))
  have HGW := Aside0.mk (And.intro hgw hgg)
  clear hs_ ho_ hb_ hz_ hgw hgg HB
  revert HN
  generalize (w10s.setCell ⟨g, 19, none⟩ (.slice (some ⟨gb, 0, none⟩) OB OB)).alloc (.cells (madeCells #[.int .i64 0] OB) 3) = w11
  intro HB
  go_loopg [11] (OB - 1) (fun kq v11 w' => ∃ i : Nat, v11 = .int .i64 (i : Int) ∧ 1 ≤ i ∧ i ≤ OB ∧ kq = OB - i ∧ Aside0 (Has w' g 94 (hr sec str lstr (4 : Int) (asz : Int) (0 : Int) mi mo (ds != 0) (sbyte lb) lr (OB : Int) (.slice (some ⟨gb, 0, none⟩) OB OB) (.slice none 0 0) (.slice none 0 0) (PO : Int) (EO : Int) 0) c ⟨((off + 15 + i : Nat) : Int), tl.drop (i - 1), true⟩ ∧ Kp w w' g ∧ OlAt w' gb OB i tl))
  case atStart => exact ⟨1, rfl, by omega, HOL.out.1, rfl, HB⟩
  case round =>
    obtain ⟨i, rfl, hi1, hi2, hkq, HW⟩ := hrel
    clear HB
    have n0 : g < wr.heap.size := HW.out.1.lt
    have q18 : wr.cell? ⟨g, 18, none⟩ = some (.int .i64 (OB : Int)) := HW.out.1.cell (j := 11) rfl rfl
    have q19 : wr.cell? ⟨g, 19, none⟩ = some (.slice (some ⟨gb, 0, none⟩) OB OB) := HW.out.1.cell (j := 12) rfl rfl
    have f1 : IntKind.i64.wrap ((i : Int) + 1) = ((i + 1 : Nat) : Int) := by
      have := HOB.out
      rw [IntKind.wrap_i64]
      omega
    have HI0 := Aside0.mk (And.intro hi1 (And.intro hi2 hkq))
    by_cases hc : i < OB
    · have c0 : decide ((i : Int) < (OB : Int)) = true := decide_eq_true (by omega)
      have c1 : decide (i < OB) = true := decide_eq_true hc
      have HC := Aside0.mk hc
      have hlt : i - 1 < tl.length := by have := HOL.out.2; omega
      have hdr := drop_getD tl i hi1 hlt
      have HI : Aside0 (∀ m, Calls Tryd.prog 40 #[.pointer (some ⟨g, 0, none⟩)] (wr.drewN m) fun e w' => e = .returned (.int .u8 (tl.getD (i - 1) 0)) ∧ Has w' g 94 (hr sec str lstr (4 : Int) (asz : Int) (0 : Int) mi mo (ds != 0) (sbyte lb) lr (OB : Int) (.slice (some ⟨gb, 0, none⟩) OB OB) (.slice none 0 0) (.slice none 0 0) (PO : Int) (EO : Int) 0) c ⟨((off + 15 + (i + 1) : Nat) : Int), tl.drop (i + 1 - 1), true⟩ ∧ Kp w w' g ∧ OlAt w' gb OB i tl) := ⟨fun m => by
        refine (uint8_has (HW.out.1.drewN m) hdr).mono ?_
        rintro e w' ⟨rfl, h1, h2⟩
        rw [adv_mk _ _ _ (by have := HH.out.2.2.2.2.1; omega), List.drop_drop, show i - 1 + 1 = i + 1 - 1 by omega] at h1
        exact ⟨rfl, h1, (HW.out.2.1.drewN m).trans h2, HW.out.2.2.kp (((Kp.refl wr g).drewN m).trans h2) HGW.out.2⟩⟩
      obtain ⟨by1, by2⟩ := byte_i64 (tl.getD (i - 1) 0) (HBY.out _ (by rw [List.getD_eq_getElem?_getD, List.getElem?_eq_getElem hlt]; simp))
      clear hdr hkq hlt hi1 hi2
      obtain ⟨bv, hbv⟩ : ∃ bv, tl.getD (i - 1) 0 = bv := ⟨_, rfl⟩
      rw [hbv] at HI by1 by2
      have HBV := Aside0.mk hbv
      clear hbv
      go_wp2_with fail
      go_region_law (first | (go_simp; go_at_call 40; refine (HI.out _).mono ?_; rintro e w2 ⟨rfl, hh, hk, ho⟩; have n0 : g < w2.heap.size := hh.lt; have ng : gb < w2.heap.size := ho.lt; have q19 : w2.cell? ⟨g, 19, none⟩ = some (.slice (some ⟨gb, 0, none⟩) OB OB) := hh.cell (j := 12) rfl rfl; obtain ⟨x, qx⟩ := ho.cell HC.out; have fx := ho.frozen i; have HV := Aside0.mk (And.intro hh (And.intro hk ho)); clear hh hk ho))
      all_goals
        have hNew := Aside0.mk (round_new HV.out HGW.out HI0.out.1 HBV.out)
        clear HV HW
        revert hNew
        generalize w2.setCell ⟨gb, i, none⟩ (.int .i64 bv) = w3
        intro hNew
        clear n0 ng q19 qx fx q18
        go_wp2_with fail
        go_roundg (OB - (i + 1))
        case measure => have := HC.out; have := HI0.out.2.2; omega
        case rel => exact ⟨i + 1, by first | rfl | rw [← f1] | (simp only [i64_w] at f1; rw [← f1]), by omega, by have := HC.out; omega, rfl, by first | exact hNew | exact ⟨hNew.out.1.drewN _, hNew.out.2.1.drewN _, hNew.out.2.2⟩⟩
    · have hio : i = OB := by omega
      have c0 : decide ((i : Int) < (OB : Int)) = false := decide_eq_false (by omega)
      have c1 : decide (i < OB) = false := decide_eq_false hc
      have HL : Aside0 (Has wr g 94 (hr sec str lstr (4 : Int) (asz : Int) (0 : Int) mi mo (ds != 0) (sbyte lb) lr (OB : Int) (.slice (some ⟨gb, 0, none⟩) OB OB) (.slice none 0 0) (.slice none 0 0) (PO : Int) (EO : Int) 0) c ⟨((off + 15 + OB : Nat) : Int), tl.drop (OB - 1), true⟩ ∧ Kp w wr g ∧ OlAt wr gb OB OB tl) := ⟨by have h1 := HW.out; rw [hio] at h1; exact h1⟩
      have q6 : wr.cell? ⟨g, 6, none⟩ = some .nilIface := HL.out.1.noerr rfl
      clear hc HI0 hi2 hi1 hkq HW hio
      go_wp2_with fail
      obtain ⟨wo, rfl⟩ : ∃ wo : World, wo = wr := ⟨_, rfl⟩
      clear q6 n0 c0 c1 f1
      try clear q18
      try clear q19
      go_loopg [261] OB (fun kq v261 w' => w' = wo ∧ ∃ i : Nat, v261 = .int .i64 (i : Int) ∧ i ≤ OB ∧ kq = OB - i)
      case atStart => exact ⟨rfl, 0, rfl, Nat.zero_le _, rfl⟩
      case round =>
        obtain ⟨rfl, i, rfl, hi2, hkq⟩ := hrel
        have f1 : IntKind.i64.wrap ((i : Int) + 1) = ((i + 1 : Nat) : Int) := by
          have := HOB.out
          rw [IntKind.wrap_i64]
          omega
        have HI0 := Aside0.mk (And.intro hi2 hkq)
        by_cases hc : i < OB
        · have c0 : decide ((i : Int) < (OB : Int)) = true := decide_eq_true (by omega)
          have c1 : decide (i < OB) = true := decide_eq_true hc
          obtain ⟨x, qx, hxk⟩ := HL.out.2.2.lens hc HCK.out
          obtain ⟨qG, hlk⟩ := HMP.out.1.kp HL.out.2.1 HMP.out.2
          have hlk := hlk i (by have := HOB.out; omega)
          have HC := Aside0.mk hc
          clear hi2 hkq
          cases hkn : known i with
          | some n =>
            have hxn := hxk n hkn
            subst hxn
            rw [hkn] at hlk
            simp only at hlk
            clear hkn hxk
            go_wp2_with fail
            go_roundg (OB - (i + 1))
            case measure => have := HC.out; have := HI0.out.2; omega
            case rel => exact ⟨rfl, i + 1, by first | rfl | rw [← f1] | (simp only [i64_w] at f1; rw [← f1]), by have := HC.out; omega, rfl⟩
          | none =>
            rw [hkn] at hlk
            simp only at hlk
            clear hkn hxk
            go_wp2_with fail
            go_roundg (OB - (i + 1))
            case measure => have := HC.out; have := HI0.out.2; omega
            case rel => exact ⟨rfl, i + 1, by first | rfl | rw [← f1] | (simp only [i64_w] at f1; rw [← f1]), by have := HC.out; omega, rfl⟩
        · have hio : i = OB := by omega
          have c0 : decide ((i : Int) < (OB : Int)) = false := decide_eq_false (by omega)
          have c1 : decide (i < OB) = false := decide_eq_false hc
          clear hc HI0 hi2 hkq hio
          have n0 : g < wr.heap.size := HL.out.1.lt
          have q10 : wr.cell? ⟨g, 10, none⟩ = some (.int .u16 ((4 : Int))) := HL.out.1.cell (j := 3) rfl rfl
          have f10 := HL.out.1.free 10
          have q20 : wr.cell? ⟨g, 20, none⟩ = some ((.slice none 0 0)) := HL.out.1.cell (j := 13) rfl rfl
          have f20 := HL.out.1.free 20
          go_wp2_with fail
          clear n0 q10 f10 q20 f20

          have hz_ : ∀ v : Value, (wr.setCell ⟨g, 20, none⟩ v).heap.size = wr.heap.size := fun v => by simp
          have hgw : w.heap.size ≤ wr.heap.size := HL.out.2.1.size
          have hgg : wr.heap.size ≠ g := by have := HL.out.1.lt; omega
          revert hz_ hgw hgg
          generalize wr.heap.size = gd
          intro hz_ hgw hgg
          have hs_ := HL.out.1.st1 20 (.slice (some ⟨gd, 0, none⟩) 1 1) (rest' := hr sec str lstr (4 : Int) (asz : Int) (0 : Int) mi mo (ds != 0) (sbyte lb) lr (OB : Int) (.slice (some ⟨gb, 0, none⟩) OB OB) (.slice (some ⟨gd, 0, none⟩) 1 1) (.slice none 0 0) (PO : Int) (EO : Int) 0) (hr_all _ _ _ _ _ _ _ _ _ _ _ _ HX.out.1 rfl rfl rfl) HX.out.2 (fun a h7 => by simp [Array.setIfInBounds_append_right, h7])
          have ho_ := heap_alloc_new (wr.setCell ⟨g, 20, none⟩ (.slice (some ⟨gd, 0, none⟩) 1 1)) (.cells #[.string dir] 9)
          rw [hz_] at ho_
          have hb_ := alloc_below (wr.setCell ⟨g, 20, none⟩ (.slice (some ⟨gd, 0, none⟩) 1 1)) (.cells #[.string dir] 9)
          have hk_ : Kp wr ((wr.setCell ⟨g, 20, none⟩ (.slice (some ⟨gd, 0, none⟩) 1 1)).alloc (.cells #[.string dir] 9)) g := ((Kp.refl wr g).set 20 _).trans (Kp.of_below hb_)
          have HN := Aside0.mk (And.intro (hs_.under hb_) (And.intro (HL.out.2.1.trans hk_) (And.intro (HL.out.2.2.kp hk_ HGW.out.2) ho_)))
          have HGD := Aside0.mk (And.intro hgw hgg)
          clear hs_ ho_ hb_ hk_ hz_ hgw hgg HL
          revert HN
          generalize (wr.setCell ⟨g, 20, none⟩ (.slice (some ⟨gd, 0, none⟩) 1 1)).alloc (.cells #[.string dir] 9) = w12
          intro HB
          obtain ⟨wo2, rfl⟩ : ∃ wo : World, wo = wr := ⟨_, rfl⟩
          go_loopg [16] 0 (fun kq v16 w' => w' = w12 ∧ kq = 0)
          case atStart => exact ⟨rfl, rfl⟩
          case round =>
            obtain ⟨rfl, hkq⟩ := hrel
            have HU := Aside0.mk (string_has (i := 0) HB.out.1 rfl (by show Buf.zeroAt (List.drop (OB - 1) tl) = some 0; rw [HTL.out]; rfl))
            obtain ⟨nm0, hnm0⟩ : ∃ nm0, strOfNums (List.take 0 (List.drop (OB - 1) tl)) = nm0 := ⟨_, rfl⟩
            have HSZ := Aside0.mk (show nm0.size = 0 by rw [← hnm0, size_strOfNums]; simp)
            have HNM := Aside0.mk hnm0
            clear hkq hnm0
            go_wp2_with fail
            refine HU.out.mono ?_
            rw [HNM.out]
            rintro e w13 ⟨rfl, hh, hk⟩
            have n0 : g < w13.heap.size := hh.lt
            have q6 : w13.cell? ⟨g, 6, none⟩ = some .nilIface := hh.noerr rfl
            have q21 : w13.cell? ⟨g, 21, none⟩ = some (.slice none 0 0) := hh.cell (j := 14) rfl rfl
            have f21 := hh.free 21
            have HN := Aside0.mk (And.intro hh (And.intro (HB.out.2.1.trans hk) (And.intro (HB.out.2.2.1.kp hk HGW.out.2) ((hk.block gd (blk_lt HB.out.2.2.2) HGD.out.2).trans HB.out.2.2.2))))
            clear hh hk HU HB
            have HB := HN
            clear HN
            have hmk1 := make_ptr
            have hsz := HSZ.out
            go_wp2_with fail
            clear n0 q6 q21 f21 hsz hmk1
            have hz_ : ∀ v : Value, (w13.setCell ⟨g, 21, none⟩ v).heap.size = w13.heap.size := fun v => by simp
            have hgw : w.heap.size ≤ w13.heap.size := HB.out.2.1.size
            have hgg : w13.heap.size ≠ g := by have := HB.out.1.lt; omega
            revert hz_ hgw hgg
            generalize w13.heap.size = b0f
            intro hz_ hgw hgg
            have hs_ := HB.out.1.st1 21 (.slice (some ⟨b0f, 0, none⟩) 1 1) (rest' := hr sec str lstr (4 : Int) (asz : Int) (0 : Int) mi mo (ds != 0) (sbyte lb) lr (OB : Int) (.slice (some ⟨gb, 0, none⟩) OB OB) (.slice (some ⟨gd, 0, none⟩) 1 1) (.slice (some ⟨b0f, 0, none⟩) 1 1) (PO : Int) (EO : Int) 0) (hr_all _ _ _ _ _ _ _ _ _ _ _ _ HX.out.1 rfl rfl rfl) HX.out.2 (fun a h7 => by simp [Array.setIfInBounds_append_right, h7])
            have ho_ := heap_alloc_new (w13.setCell ⟨g, 21, none⟩ (.slice (some ⟨b0f, 0, none⟩) 1 1)) (.cells #[.pointer none] 90)
            rw [hz_] at ho_
            have hb_ := alloc_below (w13.setCell ⟨g, 21, none⟩ (.slice (some ⟨b0f, 0, none⟩) 1 1)) (.cells #[.pointer none] 90)
            have hk_ : Kp w13 ((w13.setCell ⟨g, 21, none⟩ (.slice (some ⟨b0f, 0, none⟩) 1 1)).alloc (.cells #[.pointer none] 90)) g := ((Kp.refl w13 g).set 21 _).trans (Kp.of_below hb_)
            have HN := Aside0.mk (And.intro (hs_.under hb_) (And.intro (HB.out.2.1.trans hk_) (And.intro (HB.out.2.2.1.kp hk_ HGW.out.2) (And.intro ((hk_.block gd (blk_lt HB.out.2.2.2) HGD.out.2).trans HB.out.2.2.2) (files_new hgw ho_)))))
            clear hs_ ho_ hb_ hk_ hz_ hgw hgg HB
            revert HN
            generalize (w13.setCell ⟨g, 21, none⟩ (.slice (some ⟨b0f, 0, none⟩) 1 1)).alloc (.cells #[.pointer none] 90) = w14
            intro HB
            go_loopg [17, 18] M (fun kq v17 v18 w' => ∃ (f1 f2 : List (Option Fl)) (S0 : S) (b cap n ln : Nat), Aside0 (filesIn [dir] kq S0.l = some (f2, ln) ∧ F = f1 ++ f2 ∧ S0.ok = true ∧ f1.length + S0.l.length < 2147483648 ∧ 1 + f1.length = n ∧ Has w' g 94 (hr sec str lstr (4 : Int) (asz : Int) (0 : Int) mi mo (ds != 0) (sbyte lb) lr (OB : Int) (.slice (some ⟨gb, 0, none⟩) OB OB) (.slice (some ⟨gd, 0, none⟩) 1 1) (.slice (some ⟨b, 0, none⟩) n cap) (PO : Int) (EO : Int) 0) c S0 ∧ Kp w w' g ∧ FilesAt w' w.heap.size b cap (none :: f1) ∧ OlAt w' gb OB OB tl ∧ w'.heap[gd]? = some (.cells #[.string dir] 9 (0, 0))))
            case atStart => exact ⟨[], F, _, b0f, 1, 1, LN, ⟨by have h := HFI.out; have h2 := HTL.out; simp only [S.adv, h2]; exact h, rfl, rfl, by have h := HB.out.1.len; simpa using h, rfl, HB.out.1, HB.out.2.1, HB.out.2.2.2.2, HB.out.2.2.1, HB.out.2.2.2.1⟩⟩
            case round =>
              obtain ⟨f1, f2, S0, b, cap, n, ln, HW⟩ := hrel
              clear HB
              cases hgk : gk with
              | zero => have h := HW.out.1; rw [hgk] at h; simp [filesIn] at h
              | succ m1 =>
                have h := HW.out.1
                rw [hgk] at h
                obtain ⟨⟨fo, fn⟩, hfo, h⟩ := Option.bind_eq_some_iff.1 (show (fileIn [dir] S0.l).bind _ = some (f2, ln) from h)
                have HGK := Aside0.mk hgk
                cases fo with
                | none =>
                  simp only [Option.some.injEq, Prod.mk.injEq] at h
                  have HFF : Aside0 (F = f1) := ⟨by have h1 := HW.out.2.1; rw [← h.1] at h1; simpa using h1⟩
                  have HU := Aside0.mk (rfe_done HW.out.2.2.2.2.2.1 HW.out.2.2.1 (fileIn_none hfo))
                  clear h hfo hgk
                  go_wp2_with fail
                  refine HU.out.mono ?_
                  rintro e w15 ⟨rfl, hh, hk⟩
                  have n0 : g < w15.heap.size := hh.lt
                  have q6 : w15.cell? ⟨g, 6, none⟩ = some .nilIface := hh.noerr HW.out.2.2.1
                  have q21 : w15.cell? ⟨g, 21, none⟩ = some (.slice (some ⟨b, 0, none⟩) n cap) := hh.cell (j := 14) rfl rfl
                  have q24 : w15.cell? ⟨g, 24, none⟩ = some (.int .i64 0) := hh.cell (j := 17) rfl rfl
                  have f24 := hh.free 24
                  have hs_ := hh.st1 24 (.int .i64 (n : Int)) (rest' := hr sec str lstr (4 : Int) (asz : Int) (0 : Int) mi mo (ds != 0) (sbyte lb) lr (OB : Int) (.slice (some ⟨gb, 0, none⟩) OB OB) (.slice (some ⟨gd, 0, none⟩) 1 1) (.slice (some ⟨b, 0, none⟩) n cap) (PO : Int) (EO : Int) (n : Int)) (hr_all _ _ _ _ _ _ _ _ _ _ _ _ HX.out.1 rfl rfl rfl) HX.out.2 (fun a h7 => by simp [Array.setIfInBounds_append_right, h7])
                  have hk_ := hk.set 24 (.int .i64 (n : Int))
                  have HN := Aside0.mk (And.intro hs_ (And.intro (HW.out.2.2.2.2.2.2.1.trans hk_) (And.intro (HW.out.2.2.2.2.2.2.2.1.kp hk_ HW.out.2.2.2.2.2.1.blk) (And.intro (HW.out.2.2.2.2.2.2.2.2.1.kp hk_ HGW.out.2) ((hk_.block gd (blk_lt HW.out.2.2.2.2.2.2.2.2.2) HGD.out.2).trans HW.out.2.2.2.2.2.2.2.2.2)))))
                  clear hs_ hk_ hh hk HU
                  go_wp2_with fail
                  go_ret
                  refine ⟨rfl, gb, gd, b, cap, S0.adv 1, ?_, HW.out.2.2.1, HN.out.2.1, by rw [HFF.out]; exact HN.out.2.2.1, HN.out.2.2.2.1, HN.out.2.2.2.2⟩
                  rw [HFF.out, HW.out.2.2.2.2.1, HE.out.1, HPO.out]
                  exact HN.out.1
                | some f =>
                  obtain ⟨⟨f3, l3⟩, h3, h⟩ := Option.bind_eq_some_iff.1 h
                  simp only [Option.some.injEq, Prod.mk.injEq] at h
                  obtain ⟨i, dv, dn, mv, mn, lv, lnn, hz, hi, hd, hnm, hm, hl, hfe, hfn⟩ := fileIn_some hfo
                  have hab := HNM0.out _ _ _ (by rw [size_strOf, List.length_take]; have := HW.out.2.2.2.2.2.1.len; omega) hnm
                  rw [Int.toNat_natCast] at hab
                  have HU := Aside0.mk (rfe_calls (n := n) (R := hr sec str lstr (4 : Int) (asz : Int) (0 : Int) mi mo (ds != 0) (sbyte lb) lr (OB : Int) (.slice (some ⟨gb, 0, none⟩) OB OB) (.slice (some ⟨gd, 0, none⟩) 1 1) (.slice (some ⟨b, 0, none⟩) n cap) (PO : Int) (EO : Int) 0) HW.out.2.2.2.2.2.1 HW.out.2.2.1 rfl (hr_all _ _ _ _ _ _ _ _ _ _ _ _ HX.out.1 rfl rfl rfl) HX.out.2 HW.out.2.2.2.2.2.2.2.1 (dirs := [dir]) (dirv := .slice (some ⟨gd, 0, none⟩) 1 1) rfl (dir_lies HW.out.2.2.2.2.2.2.2.2.2) hz hi hd.1 hd.2 hab hm.1 hm.2 hl.1 hl.2 (by have := HW.out.2.2.2.2.1; simp; omega) (fun h => by have := HW.out.2.2.2.2.1; simp at h; omega) (by have := HW.out.2.2.2.2.1; have := HW.out.2.2.2.1; omega))
                  have HFF : Aside0 (filesIn [dir] m1 (S0.adv (i + 1 + dn + mn + lnn)).l = some (f3, l3) ∧ F = (f1 ++ [some f]) ++ f3 ∧ addF (none :: f1) n ⟨f.nm, mv, lv⟩ = none :: (f1 ++ [some f]) ∧ (f1 ++ [some f]).length + (S0.adv (i + 1 + dn + mn + lnn)).l.length < 2147483648 ∧ 1 + (f1 ++ [some f]).length = n + 1) := by
                    have hn := HW.out.2.2.2.2.1
                    have hL := HW.out.2.2.2.1
                    have hzl := zeroAt_lt hz
                    refine ⟨by rw [← hfn]; exact h3, by have h1 := HW.out.2.1; rw [← h.1] at h1; simpa using h1, ?_, ?_, by simp; omega⟩
                    · rw [addF, if_neg (by simp; omega), ← hfe]
                      rfl
                    · simp only [S.adv, List.length_append, List.length_cons, List.length_nil, List.length_drop]
                      omega
                  clear h h3 hfo hgk hz hi hd hnm hm hl hfe hfn hab
                  go_wp2_with fail
                  refine HU.out.mono ?_
                  rintro e w15 ⟨rfl, b', cap', hh, hf, hk⟩
                  have HN := Aside0.mk (And.intro hh (And.intro hf (And.intro (Kp.kx0 HW.out.2.2.2.2.2.2.1 hk) (And.intro (HW.out.2.2.2.2.2.2.2.2.1.kx hk HGW.out.2) (strs_kx HW.out.2.2.2.2.2.2.2.2.2 hk HGD.out.2)))))
                  clear hh hf hk HU
                  go_wp2_with fail
                  go_roundg m1
                  case measure => rw [HGK.out]; omega
                  case rel => exact ⟨f1 ++ [some f], f3, _, b', cap', n + 1, l3, ⟨HFF.out.1, HFF.out.2.1, HW.out.2.2.1, HFF.out.2.2.2.1, HFF.out.2.2.2.2, HN.out.1, HN.out.2.2.1, HFF.out.2.2.1 ▸ HN.out.2.1, HN.out.2.2.2.1, HN.out.2.2.2.2⟩⟩
end Go.Proofs.YtdepfipebogdcaaDoor.Line
