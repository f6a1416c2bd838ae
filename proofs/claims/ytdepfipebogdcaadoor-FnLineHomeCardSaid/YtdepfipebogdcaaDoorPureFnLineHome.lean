/- A name of letters is told behind the directory of the unit, if no other is told, and an absolute one as it is (a directory of a slash and letters). No conditions beyond the statement's own. -/
import Derived.Test.YtdepfipebogdcaaDoorPLlawsFnLineHome
import Derived.Test.YtdepfipebogdcaaDoorHa
import Derived.Test.YtdepfipebogdcaaDoorHd
namespace Go.Proofs.YtdepfipebogdcaaDoor.Pure
open Go.RowKit Go.Proofs.YtdepfipebogdcaaDoor.PPl Go.Proofs.YtdepfipebogdcaaDoorW.PrintWords Go.Proofs.YtdepfipebogdcaaDoorW.PrintLast Go.Proofs.YtdepfipebogdcaaDoorW.PrintMore Go.Proofs.YtdepfipebogdcaaDoor.Leb Go.Proofs.YtdepfipebogdcaaDoor.Line
open Go.Proofs.YtdepfipebogdcaaDoor.Paths (by_ by_length by_append by_ext bt_at Low lowB lowB_yes lowB_no lowB_iff)

theorem name_l0 (s : ByteArray) (hs : s.size < 2147483648) (d : Nat) : ∀ i, s.size - i = d → i ≤ s.size → Ev (fun k => spec_IsName.l0 k s (i : Int)) (lowB ((by_ s).drop i) && decide ((s.size : Int) > 0)) := by
  induction d with
  | zero =>
    intro i hd hi
    obtain rfl : i = s.size := by omega
    refine Ev.step (f := fun _ => some (lowB ((by_ s).drop s.size) && decide ((s.size : Int) > 0))) (fun k => ?_) (Ev.now _)
    simp only [spec_IsName.l0]
    rw [if_neg (by omega), ← by_length, List.drop_length]
    simp [lowB]
  | succ d ih =>
    intro i hd hi
    have hlt : i < (by_ s).length := by rw [by_length]; omega
    have hw : wrap64 ((i : Int) + 1) = ((i + 1 : Nat) : Int) := by unfold wrap64; omega
    have hb := bt_at s i (by_ s)[i] (List.getElem?_eq_getElem hlt)
    rw [List.drop_eq_getElem_cons hlt]
    by_cases c1 : (97 ≤ ((by_ s)[i]).toNat ∧ ((by_ s)[i]).toNat ≤ 122)
    · have e := lowB_yes (l := (by_ s).drop (i + 1)) c1
      rw [e]
      refine Ev.step (fun k => ?_) (ih (i + 1) (by omega) (by omega))
      simp only [spec_IsName.l0]
      rw [if_pos (by omega), if_pos (by omega), hb, if_neg (by omega), if_neg (by omega), hw]
    · have e := lowB_no (l := (by_ s).drop (i + 1)) c1
      rw [e, Bool.false_and]
      refine Ev.step (f := fun _ => some false) (fun k => ?_) (Ev.now _)
      simp only [spec_IsName.l0]
      rw [if_pos (by omega), if_pos (by omega), hb]
      by_cases c2 : ((((by_ s)[i]).toNat : Int)) < 97
      · rw [if_pos c2]
      · rw [if_neg c2, if_pos (by omega)]
theorem name_f (s : ByteArray) (hs : s.size < 2147483648) : Ev (fun k => spec_IsName.f k s) (lowB (by_ s) && decide ((s.size : Int) > 0)) := by
  have h := name_l0 s hs s.size 0 (by omega) (by omega)
  rw [List.drop_zero] at h
  exact h

theorem strOf_bytes (s : ByteArray) : strOf (bytesOf s) = s := by
  apply by_ext
  show ((bytesOf s).map fun x => UInt8.ofNat x.toNat).toArray.toList = _
  have := Paths.by_bytesOf s
  exact this
theorem lowB_letters {l : List UInt8} (h : lowB l = true) (h0 : l ≠ []) : letters l = true := by
  have hl := (lowB_iff l).1 h
  unfold letters
  rw [Bool.and_eq_true]
  refine ⟨by cases l with | nil => exact absurd rfl h0 | cons c l => rfl, List.all_eq_true.2 fun c hc => ?_⟩
  have := hl c hc
  rw [Bool.and_eq_true, decide_eq_true_eq, decide_eq_true_eq]
  exact this
theorem steps_home {dir nm r : ByteArray} (h1 : nm.size < 1000000) (hne : nm.size ≠ 0) (hd : dir.size < 100000000000000) (hz : ∀ x ∈ bytesOf nm, x ≠ 0) (hin : nameIn [dir] nm 0 = some r) :
    Ev (fun k => impl_LineSteps.f k (tableOf (headOf 1 1 false 0 1 13 [] (bytesOf nm)) (progOf 0 [1])) ([] : List Int) 0 8 false dir [z67]) ([ansS (some { row0 ⟨r, 0, 0⟩ with ad := 0 })], 0) := by
  have hbl := bytesOf_length nm
  have hP : Bytes (progOf 0 [1]) := cons_bytes (by omega) (cons_bytes (by omega) (cons_bytes (by omega) (app_bytes (le8_bytes _) (by intro b hb; simp at hb; omega))))
  have hPl : (progOf 0 [1]).length = 15 := by simp [progOf, le8, le4]
  have hnb : Bytes (bytesOf nm) := (by intro b hb; unfold bytesOf at hb; obtain ⟨c, _, rfl⟩ := List.mem_map.1 hb; have := c.toNat_lt; omega)
  have hh := hdr_dir (dir := dir) (r := r) (mi := 1) (mo := 1) (ds := false) (lb := 0) (lr := 1) (ob := 13) (more := []) (nm := bytesOf nm) (prog := progOf 0 [1]) (by omega) (by omega) (by omega) (by omega) (by omega) (by simp) nil_bytes
    (by intro e; rw [e] at hbl; simp at hbl; omega) (by rw [strOf_bytes]; exact hin) hz hnb hP (by rw [hbl, hPl]; omega)
  obtain ⟨s', hs'⟩ := say_home (k := { constOf 1 1 false 0 1 13 [] (bytesOf nm) (progOf 0 [1]) with dirs := [dir] }) (F := ⟨r, 0, 0⟩) (ad := 0) rfl rfl rfl (by omega) [0, 1, 1]
  obtain ⟨p', _, d, hd'⟩ := hs' (10 + (headOf 1 1 false 0 1 13 [] (bytesOf nm)).length) (at_progD ..)
  refine ⟨d, fun k hk => ?_⟩
  have hlen : (tableOf (headOf 1 1 false 0 1 13 [] (bytesOf nm)) (progOf 0 [1])).length < 140737488355328 := by
    rw [tableOf_length, headOf_length, lensOf_length _ _ (by simp), hPl, hbl]
    simp
    omega
  show impl_LineSteps.f k _ _ _ _ _ _ _ = _
  unfold impl_LineSteps.f
  rw [if_pos ⟨by omega, hlen, by simp, hd, by simp⟩]
  have e0 : (0 : Int).toNat = 0 := rfl
  rw [e0, hh]
  simp only [Option.bind_some]
  rw [reset_firstD]
  unfold stepsOf
  have e1 : state0 ⟨r, 0, 0⟩ false (10 + (headOf 1 1 false 0 1 13 [] (bytesOf nm)).length) id = (stP ⟨r, 0, 0⟩ (row0 ⟨r, 0, 0⟩)).on (10 + (headOf 1 1 false 0 1 13 [] (bytesOf nm)).length) := rfl
  rw [if_pos (show z67.f0 = 0 from rfl), e1, hd' k hk]
  simp [stepsOf]
theorem home_in {d n : ByteArray} (hd : letters (by_ d) = true) (hn : letters (by_ n) = true) : nameIn [(⟨#[47]⟩ : ByteArray) ++ d] n 0 = some ((((⟨#[47]⟩ : ByteArray) ++ d) ++ (⟨#[47]⟩ : ByteArray)) ++ n) := by
  obtain ⟨hl, h0⟩ := Paths.letters_low hn
  unfold nameIn
  have h47 : ¬ (n.data.toList.head? = some 47) := by
    intro h
    have := (Paths.low_ne (hl 47 (List.mem_of_mem_head? h))).1
    exact this rfl
  have hh : homely ((⟨#[47]⟩ : ByteArray) ++ d) = true := by
    have e : ((⟨#[47]⟩ : ByteArray) ++ d).data.toList = 47 :: by_ d := by
      have := by_append (⟨#[47]⟩ : ByteArray) d
      exact this
    unfold homely
    rw [e]
    simp only [Bool.and_eq_true]
    exact ⟨by decide, hd⟩
  rw [if_neg h47, if_pos ⟨hn, by omega, by simp, hh⟩]
  rfl
theorem abs_in (dir n : ByteArray) : nameIn [dir] ((⟨#[47]⟩ : ByteArray) ++ n) 0 = some ((⟨#[47]⟩ : ByteArray) ++ n) := by
  unfold nameIn
  have e : ((⟨#[47]⟩ : ByteArray) ++ n).data.toList = 47 :: by_ n := by
    have := by_append (⟨#[47]⟩ : ByteArray) n
    exact this
  rw [if_pos (by rw [e]; rfl)]
theorem nz_of {s : ByteArray} (h : ∀ c ∈ by_ s, c ≠ 0) : ∀ x ∈ bytesOf s, x ≠ 0 := by
  intro x hx
  unfold bytesOf at hx
  obtain ⟨c, hc, rfl⟩ := List.mem_map.1 hx
  have := h c hc
  intro e
  apply this
  rw [← UInt8.toNat_inj]
  show c.toNat = 0
  omega
theorem low_nz {l : List UInt8} (h : Low l) : ∀ c ∈ l, c ≠ 0 := by
  intro c hc e
  have := h c hc
  rw [e] at this
  revert this
  decide
/-- One of the two files. -/
theorem round_home {d n nm want : ByteArray} (hdz : d.size ≤ 65536) (hnm : nm.size < 1000000) (hne : nm.size ≠ 0) (hz : ∀ x ∈ bytesOf nm, x ≠ 0) (hin : nameIn [(⟨#[47]⟩ : ByteArray) ++ d] nm 0 = some want) {x7 x8 : ByteArray} (e7 : x7 = nm) (e8 : x8 = want) (y : List Bool) (m i : Int) {R : Bool}
    (next : Ev (fun k => laws_FnLineHome.l0 k d n y m (wrap64 (i + 1))) R) : Ev (fun k => laws_FnLineHome.j3 k d n x7 x8 y m i) R := by
  subst e7 e8
  have hsz : ((⟨#[47]⟩ : ByteArray) ++ d).size = 1 + d.size := by rw [ByteArray.size_append]; rfl
  obtain ⟨K1, h1⟩ := named_f (mi := 1) (mo := 1) (lb := 0) (lr := 1) (ob := 13) (ad := 0) (prog := [1]) (nm := x7) (by omega) (by omega) (by omega) (by omega) (by simp) (by omega)
  have h1 : ∀ k, K1 ≤ k → laws_named.f k 1 1 0 1 13 0 [1] x7 = some (tableOf (headOf 1 1 false 0 1 13 [] (bytesOf x7)) (progOf 0 [1])) := h1
  obtain ⟨K2, h2⟩ := steps_home (dir := (⟨#[47]⟩ : ByteArray) ++ d) hnm hne (by rw [hsz]; omega) hz hin
  have h2 : ∀ k, K2 ≤ k → impl_LineSteps.f k (tableOf (headOf 1 1 false 0 1 13 [] (bytesOf x7)) (progOf 0 [1])) ([] : List Int) 0 8 false ((⟨#[47]⟩ : ByteArray) ++ d) [z67] = some ([ansS (some { row0 ⟨x8, 0, 0⟩ with ad := 0 })], 0) := h2
  obtain ⟨K3, h3⟩ := next
  have h3 : ∀ k, K3 ≤ k → laws_FnLineHome.l0 k d n y m (wrap64 (i + 1)) = some R := h3
  refine ⟨K1 + K2 + K3 + 1, fun k hk => ?_⟩
  obtain ⟨k, rfl⟩ : ∃ j, k = j + 1 := ⟨k - 1, by omega⟩
  show laws_FnLineHome.j3 (k + 1) d n x7 x8 y m i = _
  simp only [laws_FnLineHome.j3, laws_usual.f]
  simp only [Option.bind_some]
  rw [h1 k (by omega)]
  simp only [Option.bind_some]
  have hx : laws_nexts.f 1 = some [z67] := nexts_f 1 (by omega)
  rw [if_pos (by omega), hx]
  simp only [Option.bind_some]
  rw [h2 k (by omega)]
  simp only [Option.bind_some]
  have e : rd_T41 [ansS (some { row0 ⟨x8, 0, 0⟩ with ad := 0 })] 0 = ansS (some { row0 ⟨x8, 0, 0⟩ with ad := 0 }) := rfl
  rw [if_pos (by first | trivial | rfl | (simp; done)), if_pos (by first | trivial | rfl | (simp; done)), if_pos (by first | trivial | rfl | (simp; done)), e, if_pos (by first | trivial | rfl | (simp; done)), if_neg, h3 k (by omega)]
  simp [ansS, rowOr, flNone, flName, flTime, flLen]
theorem FnLineHome : laws_FnLineHome.Pure := by
  intro a0 a1 w0 w1
  have quit : ∀ k, laws_FnLineHome.j0 (k + 1) a0 a1 true = some true := fun k => by simp [laws_FnLineHome.j0]
  have quit1 : ∀ k, laws_FnLineHome.j1 (k + 1) a0 a1 true = some true := fun k => by simp [laws_FnLineHome.j1]
  by_cases c0 : (a0.size : Int) > 2147483647
  · refine ⟨1, ?_⟩
    unfold laws_FnLineHome.f
    rw [if_pos c0]
    exact quit 0
  by_cases c1 : (a1.size : Int) > 2147483647
  · refine ⟨1, ?_⟩
    unfold laws_FnLineHome.f
    rw [if_neg c0, decide_eq_true c1]
    exact quit 0
  obtain ⟨Kn, hn0⟩ : Ev (fun k => laws_FnLineHome.j0 k a0 a1 false) true := by
    have s0 : a0.size < 2147483648 := by omega
    have s1 : a1.size < 2147483648 := by omega
    refine Ev.step (f := fun k => (spec_IsName.f k a0).bind fun t265 => (if t265 = true then ((spec_IsName.f k a1).bind fun t266 => (if t266 = true then (laws_FnLineHome.j1 k a0 a1 (decide ((wrap64 ((a0.size : Int) + (a1.size : Int))) > 65536))) else (laws_FnLineHome.j1 k a0 a1 true))) else (laws_FnLineHome.j1 k a0 a1 true))) (fun k => ?_) ?_
    · simp only [laws_FnLineHome.j0]
      rw [if_neg (by decide)]
    refine Ev.bind (name_f a0 s0) ?_
    cases b0 : (lowB (by_ a0) && decide ((a0.size : Int) > 0)) with
    | false =>
      refine Ev.congr (f := fun k => laws_FnLineHome.j1 k a0 a1 true) (fun k => by rw [if_neg (by decide)]) ?_
      exact Ev.step (f := fun _ => some true) (fun k => quit1 k) (Ev.now _)
    | true =>
      refine Ev.congr (f := fun k => (spec_IsName.f k a1).bind fun t266 => (if t266 = true then (laws_FnLineHome.j1 k a0 a1 (decide ((wrap64 ((a0.size : Int) + (a1.size : Int))) > 65536))) else (laws_FnLineHome.j1 k a0 a1 true))) (fun k => by rw [if_pos rfl]) ?_
      refine Ev.bind (name_f a1 s1) ?_
      cases b1 : (lowB (by_ a1) && decide ((a1.size : Int) > 0)) with
      | false =>
        refine Ev.congr (f := fun k => laws_FnLineHome.j1 k a0 a1 true) (fun k => by rw [if_neg (by decide)]) ?_
        exact Ev.step (f := fun _ => some true) (fun k => quit1 k) (Ev.now _)
      | true =>
        rw [Bool.and_eq_true, decide_eq_true_eq] at b0 b1
        have hw : wrap64 ((a0.size : Int) + (a1.size : Int)) = (a0.size : Int) + (a1.size : Int) := by unfold wrap64; omega
        refine Ev.congr (f := fun k => laws_FnLineHome.j1 k a0 a1 (decide (((a0.size : Int) + (a1.size : Int)) > 65536))) (fun k => by rw [if_pos rfl, hw]) ?_
        by_cases c2 : ((a0.size : Int) + (a1.size : Int)) > 65536
        · rw [decide_eq_true c2]
          exact Ev.step (f := fun _ => some true) (fun k => quit1 k) (Ev.now _)
        rw [decide_eq_false c2]
        have L0 : letters (by_ a0) = true := lowB_letters b0.1 (by intro e; have h := by_length a0; rw [e] at h; simp at h; omega)
        have L1 : letters (by_ a1) = true := lowB_letters b1.1 (by intro e; have h := by_length a1; rw [e] at h; simp at h; omega)
        have hsz : ((⟨#[47]⟩ : ByteArray) ++ a0).size = 1 + a0.size := by rw [ByteArray.size_append]; rfl
        have hsz1 : ((⟨#[47]⟩ : ByteArray) ++ a1).size = 1 + a1.size := by rw [ByteArray.size_append]; rfl
        have hsz2 : (((⟨#[47]⟩ : ByteArray) ++ a0) ++ (⟨#[47]⟩ : ByteArray)).size = 1 + a0.size + 1 := by rw [ByteArray.size_append, hsz]; rfl
        have w1' : wrap64 (0 + 1) = 1 := by unfold wrap64; omega
        have w2' : wrap64 (1 + 1) = 2 := by unfold wrap64; omega
        have lend : Ev (fun k => laws_FnLineHome.l0 k a0 a1 [false, true] 2 2) true := Ev.step (f := fun _ => some true) (fun k => by simp only [laws_FnLineHome.l0]; rw [if_neg (by omega)]) (Ev.now _)
        have l1 : Ev (fun k => laws_FnLineHome.l0 k a0 a1 [false, true] 2 1) true := by
          refine Ev.step (f := fun k => laws_FnLineHome.j3 k a0 a1 ((⟨#[47]⟩ : ByteArray) ++ a1) ((⟨#[47]⟩ : ByteArray) ++ a1) [false, true] 2 1) (fun k => ?_) ?_
          · simp only [laws_FnLineHome.l0]
            rw [if_pos (by omega), if_pos (by omega), if_pos (by simp), if_pos (by omega), if_pos (by rw [hsz]; omega), if_pos (by rw [hsz2]; omega), if_pos (by rfl), if_pos (by omega)]
          · refine round_home (by omega) (by rw [hsz1]; omega) (by rw [hsz1]; omega) (nz_of ?_) (abs_in _ _) rfl rfl _ _ _ (by rw [w2']; exact lend)
            have e : by_ ((⟨#[47]⟩ : ByteArray) ++ a1) = 47 :: by_ a1 := by_append _ _
            rw [e]
            intro c hc
            rcases List.mem_cons.1 hc with rfl | hc
            · decide
            · exact low_nz ((lowB_iff _).1 b1.1) c hc
        have l0 : Ev (fun k => laws_FnLineHome.l0 k a0 a1 [false, true] 2 0) true := by
          refine Ev.step (f := fun k => laws_FnLineHome.j3 k a0 a1 a1 ((((⟨#[47]⟩ : ByteArray) ++ a0) ++ (⟨#[47]⟩ : ByteArray)) ++ a1) [false, true] 2 0) (fun k => ?_) ?_
          · simp only [laws_FnLineHome.l0]
            rw [if_pos (by omega), if_pos (by omega), if_pos (by simp), if_pos (by omega), if_pos (by rw [hsz]; omega), if_pos (by rw [hsz2]; omega), if_neg (by decide)]
          · exact round_home (by omega) (by omega) (by omega) (nz_of (low_nz ((lowB_iff _).1 b1.1))) (home_in L0 L1) rfl rfl _ _ _ (by rw [w1']; exact l1)
        refine Ev.step (f := fun k => laws_FnLineHome.l0 k a0 a1 [false, true] 2 0) (fun k => ?_) l0
        simp only [laws_FnLineHome.j1]
        rw [if_neg (by decide)]
        rfl
  refine ⟨Kn, ?_⟩
  unfold laws_FnLineHome.f
  rw [if_neg c0, decide_eq_false c1]
  exact hn0 Kn (Nat.le_refl _)
end Go.Proofs.YtdepfipebogdcaaDoor.Pure
