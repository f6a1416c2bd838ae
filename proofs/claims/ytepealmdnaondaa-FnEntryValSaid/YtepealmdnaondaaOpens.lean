import Derived.Deep.Slices
import Derived.Deep.Fields
import Derived.ChangeArms
import Derived.DataReads
import Derived.WideShapes
import Derived.Test.YtepealmdnaondaaWWords
/- How an argument's reading is laid out as the print's own values: whole numbers, bools, texts, slices, structs, and these in each other. -/
namespace Go.Proofs.Ytepealmdnaondaa.Opens
open Go.Proofs.YtepealmdnaondaaW.PrintWords Go.Deep

def Opens {α : Type} (P : Program) (t : TypeId) (d : Kd α) (Wf : α → Prop) : Prop :=
  P.cellsOf t = d.sz ∧ ∀ (H : Type) (enc : TypeId × Value → H) (w : World) (base : Nat) (spare : Nat → Bool) (held : Bool) (fuel : Nat) (cs : List Value) (x : DataW H × List MemPlace),
    DataW.trod enc P w base spare held fuel t cs = some x → ∃ v : α, d.K w v cs ∧ Wf v

theorem opens_int {P : Program} {t : TypeId} {k : IntKind} (hu : P.underlying t = some (.int k)) (hc : P.cellsOf t = 1) : Opens P t (Kd.int k) (fun n => (Lit.int k n).wf = true) := by
  refine ⟨hc, fun H enc w base spare held fuel cs x h => ?_⟩
  obtain ⟨n, rfl, _, hw⟩ := DataW.trod_int hu h
  exact ⟨n, rfl, hw⟩
theorem opens_bool {P : Program} {t : TypeId} (hu : P.underlying t = some .bool) (hc : P.cellsOf t = 1) : Opens P t Kd.bool (fun _ => True) := by
  refine ⟨hc, fun H enc w base spare held fuel cs x h => ?_⟩
  obtain ⟨b, rfl, _⟩ := DataW.trod_bool hu h
  exact ⟨b, rfl, trivial⟩
theorem opens_str {P : Program} {t : TypeId} (hu : P.underlying t = some .string) (hc : P.cellsOf t = 1) : Opens P t Kd.string (fun s => s.size ≤ maxLen) := by
  refine ⟨hc, fun H enc w base spare held fuel cs x h => ?_⟩
  obtain ⟨s, rfl, _, hs⟩ := DataW.trod_string hu h
  exact ⟨s, rfl, hs⟩

theorem pick {α : Type} {n : Nat} {R : Nat → α → Prop} (h : ∀ i, i < n → ∃ v, R i v) : ∃ l : List α, l.length = n ∧ ∀ i v, l[i]? = some v → R i v := by
  induction n with
  | zero => exact ⟨[], rfl, fun i v h => by simp at h⟩
  | succ n ih =>
    obtain ⟨l, hl, hr⟩ := ih (fun i hi => h i (by omega))
    obtain ⟨v, hv⟩ := h n (by omega)
    refine ⟨l ++ [v], by simp [hl], fun i u hu => ?_⟩
    rw [List.getElem?_append] at hu
    split at hu
    · exact hr i u hu
    · have hi : i - l.length = 0 := by
        rcases Nat.eq_zero_or_pos (i - l.length) with h0 | h0
        · exact h0
        · rw [List.getElem?_eq_none (by simp; omega)] at hu; cases hu
      rw [hi] at hu
      simp at hu
      subst hu
      rw [show i = n by omega]
      exact hv

theorem opens_slice {α : Type} {P : Program} {t e : TypeId} {d : Kd α} {Wf : α → Prop} (hu : P.underlying t = some (.slice e)) (hc : P.cellsOf t = 1) (he : Opens P e d Wf) :
    Opens P t (Kd.slice e d) (fun l => l.length ≤ maxLen ∧ ∀ x ∈ l, Wf x) := by
  refine ⟨hc, fun H enc w base spare held fuel cs x h => ?_⟩
  rcases open_slice hu h with ⟨rfl, _⟩ | ⟨a, len, cap, m, n, D, Pl, rfl, _, hlc, hcm, hm, _, hel⟩
  · exact ⟨[], ⟨none, 0, rfl, Nat.le_refl _, ⟨rfl, by simp, fun h => absurd h (Nat.lt_irrefl 0)⟩⟩, by simp, by simp⟩
  · have hlm : len ≤ m := by rw [hm]; split <;> omega
    have key : ∀ i, i < len → ∃ v : α, Wf v ∧ ∃ c, c.length = d.sz ∧ d.K w v c ∧ ∀ q u, c[q]? = some u → w.cell? (a.add (i * d.sz + q)) = some u := by
      intro i hi
      obtain ⟨cs', h1, h2⟩ := hel i (by omega)
      obtain ⟨v, hk, hw⟩ := he.2 H enc w base spare held n cs' _ h2
      obtain ⟨_, hl, hcell⟩ := World.cells?_some h1
      refine ⟨v, hw, cs', d.K_len hk, hk, fun q u hq => ?_⟩
      have hq' : q < cs'.length := (List.getElem?_eq_some_iff.1 hq).1
      rw [← hq, ← hcell q (by omega), Go.Deep.add_add, he.1]
    obtain ⟨l, hl, hr⟩ := pick key
    subst hl
    have hmax : l.length ≤ 9223372036854775807 := by simp only [maxLen] at hcm; omega
    refine ⟨l, ⟨some a, cap, rfl, hlc, ⟨rfl, hmax, fun _ => ⟨a, rfl, fun j p hp => (hr j p hp).2⟩⟩⟩, by omega, fun x hx => ?_⟩
    obtain ⟨i, hi, rfl⟩ := List.mem_iff_getElem.1 hx
    exact (hr i _ (List.getElem?_eq_getElem hi)).1

theorem opens_field {α : Type} {H : Type} {enc : TypeId × Value → H} {P : Program} {w : World} {base : Nat} {spare : Nat → Bool} {held : Bool} {n : Nat} {cs : List Value} {fs : Array Field} {xs : List (DataW H × List MemPlace)}
    (hf : ∀ (i : Nat) (f : Field), fs[i]? = some f → DataW.trod enc P w base spare held n f.type ((cs.drop f.offset).take (P.cellsOf f.type)) = xs[i]?) (hx : xs.length = fs.size)
    (i : Nat) (f : Field) (hi : fs[i]? = some f) {o : Nat} {t : TypeId} (ho : f.offset = o) (ht : f.type = t) {d : Kd α} {Wf : α → Prop} (hd : Opens P t d Wf) : ∃ v, d.K w v ((cs.drop o).take d.sz) ∧ Wf v := by
  have h := hf i f hi
  have hlt : i < fs.size := (Array.getElem?_eq_some_iff.1 hi).1
  rw [List.getElem?_eq_getElem (by omega), ho, ht, hd.1] at h
  exact hd.2 H enc w base spare held n _ _ h
theorem cut_more (cs : List Value) (o s : Nat) : cs.drop o = (cs.drop o).take s ++ cs.drop (o + s) := by
  rw [← List.drop_drop, List.take_append_drop]
theorem cut_last (cs : List Value) (o s : Nat) (h : cs.length = o + s) : cs.drop o = (cs.drop o).take s := by
  rw [List.take_of_length_le (by rw [List.length_drop]; omega)]

end Go.Proofs.Ytepealmdnaondaa.Opens
