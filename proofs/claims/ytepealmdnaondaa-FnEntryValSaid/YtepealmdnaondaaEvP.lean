/- What the fields of FnEntryVal say: plain laws. -/
import Derived.Test.YtepealmdnaondaaEvV
import Derived.Test.YtepealmdnaondaaPEvx1
namespace Go.Proofs.Ytepealmdnaondaa.Ev
set_option maxRecDepth 100000
open Go Go.RowKit Go.Proofs.Ytepealmdnaondaa.PEv Go.Proofs.YtepealmdnaondaaW.PrintWords Go.Proofs.YtepealmdnaondaaW.PrintLast Go.Proofs.YtepealmdnaondaaW.PrintMore

theorem fits9_some (a b c : Int) (s : ByteArray) (l : List Int) : ∃ r, laws_zzFits9.f a b c s l = some r := by
  unfold laws_zzFits9.f
  split
  · exact ⟨_, rfl⟩
  · split <;> exact ⟨_, rfl⟩
theorem fits8_some (a b c d : Int) (s : ByteArray) (l : List Int) : ∃ r, laws_zzFits8.f a b c d s l = some r := by
  unfold laws_zzFits8.f
  obtain ⟨r, h⟩ := fits9_some b c d s l
  rw [h]
  cases r <;> exact ⟨_, rfl⟩
theorem fits7_loop (l : List S45) (hl : l.length < 9223372036854775807) : ∀ m n : Nat, n + m = l.length → ∃ k b, laws_zzFits7.l0 k l (l.length : Int) (n : Int) = some b
  | 0, n, h => ⟨1, true, by unfold laws_zzFits7.l0; rw [if_neg (by omega)]⟩
  | m + 1, n, h => by
    obtain ⟨r, hr⟩ := fits8_some ((rd_T45 l n).f0) ((rd_T45 l n).f1.f0) ((rd_T45 l n).f1.f1) ((rd_T45 l n).f1.f2) ((rd_T45 l n).f1.f3) ((rd_T45 l n).f1.f4)
    obtain ⟨k, b, hk⟩ := fits7_loop l hl m (n + 1) (by omega)
    have hw : wrap64 ((n : Int) + 1) = ((n + 1 : Nat) : Int) := by
      unfold wrap64
      omega
    cases r with
    | false => exact ⟨k + 1, false, by unfold laws_zzFits7.l0; rw [if_pos (by omega), if_pos (by omega), if_pos (by omega), hr]; rfl⟩
    | true => exact ⟨k + 1, b, by unfold laws_zzFits7.l0; rw [if_pos (by omega), if_pos (by omega), if_pos (by omega), hr, hw]; exact hk⟩
theorem fits7_some (l : List S45) : ∃ k b, laws_zzFits7.f k l = some b := by
  by_cases h : (l.length : Int) > 2147483647
  · exact ⟨0, false, by unfold laws_zzFits7.f; rw [if_pos h]⟩
  · obtain ⟨k, b, hk⟩ := fits7_loop l (by omega) l.length 0 (by omega)
    exact ⟨k, b, by unfold laws_zzFits7.f; rw [if_neg h]; exact hk⟩

/-- A field that the law takes. -/
def Fit (x : S45) : Prop := 0 ≤ x.f0 ∧ x.f0 ≤ 2147483648 ∧ (x.f1.f1 = 2 ∨ x.f1.f1 = 4)
/-- The field with the attribute that is sought. -/
def wanted (a : Int) (l : List S45) : Option S45 := l.find? (fun x => x.f0 == a)
theorem first_wanted {a : Int} (h0 : 0 ≤ a) (h1 : a ≤ 2147483648) : ∀ l : List S45, (∀ x ∈ l, Fit x) → atNum (l.map fld) (firstAt (a % 4294967296) (l.map fld)) = (wanted a l).map fld
  | [], _ => rfl
  | x :: l, h => by
    have hx := h x (List.mem_cons_self ..)
    have ih := first_wanted h0 h1 l (fun y hy => h y (List.mem_cons_of_mem _ hy))
    have e : (fld x).f0 = x.f0 := by
      show x.f0 % 4294967296 = x.f0
      have h1 := hx.1
      have h2 := hx.2.1
      omega
    have ea : a % 4294967296 = a := by omega
    rw [ea] at ih ⊢
    rw [List.map_cons, firstAt, e]
    unfold wanted
    rw [List.find?_cons]
    by_cases hxa : x.f0 = a
    · rw [if_pos hxa, beq_iff_eq.2 hxa]
      rfl
    · rw [if_neg hxa, beq_eq_false_iff_ne.2 hxa]
      show _ = (wanted a l).map fld
      rw [← ih]
      cases firstAt a (l.map fld) with
      | none => rfl
      | some i => rfl
theorem wanted_snoc_none {a : Int} {p : List S45} {x : S45} (h : x.f0 ≠ a) : wanted a (p ++ [x]) = wanted a p := by
  unfold wanted
  rw [List.find?_append, List.find?_cons, beq_eq_false_iff_ne.2 h]
  cases List.find? (fun x => x.f0 == a) p <;> rfl
theorem wanted_snoc_some {a : Int} {p : List S45} {x : S45} (h : x.f0 = a) (hp : ∀ y ∈ p, y.f0 ≠ x.f0) : wanted a (p ++ [x]) = some x := by
  unfold wanted
  have : List.find? (fun x => x.f0 == a) p = none := by
    rw [List.find?_eq_none]
    intro y hy
    have := hp y hy
    rw [h] at this
    simpa using this
  rw [List.find?_append, this, List.find?_cons, beq_iff_eq.2 h]
  rfl
/-- The cells of the value that is wanted. -/
def WantCells (o : Option S45) (cs : Array Value) : Prop := match o with
  | none => cs = zeroV
  | some x => ∃ A c, cs = #[.int .i64 x.f1.f0, .int .i64 x.f1.f1, .int .u64 x.f1.f2, .string x.f1.f3, .slice A x.f1.f4.length c]
end Go.Proofs.Ytepealmdnaondaa.Ev
