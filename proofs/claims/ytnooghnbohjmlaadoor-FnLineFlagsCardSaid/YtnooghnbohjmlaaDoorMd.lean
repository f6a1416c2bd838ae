/- Texts of this session, joined: LRun, Digits, LSay, PlainF, PlainG, GLaid, GWit. -/
import Derived.Test.YtnooghnbohjmlaaDoorMc
import Derived.Test.YtnooghnbohjmlaaDoorMa
import Derived.Test.YtnooghnbohjmlaaDoorRows
import Derived.ProofKit
import Derived.LaidMore
import Derived.OpenShut
import Derived.Stop.Joined
import Derived.Stop.LaidErr
import Derived.WideKeyElems2
import Derived.Maps.Keyed
import Derived.Lay
set_option linter.unusedVariables false
set_option linter.unusedSimpArgs false
/- Plain: a line reader as a machine on lists of bytes; no Go in sight. -/
namespace Go.Proofs.YtnooghnbohjmlaaDoor.Line
open Go Go.Proofs.YtnooghnbohjmlaaDoor.Leb

/-- The next row of a state, in as many rounds as it takes. -/
def NX (k : K) (s : St) (o : Option Row) (s' : St) : Prop := ∃ d, ∀ m, d ≤ m → k.nx m s = some (o, s')
/-- The state at a place. -/
def St.on (s : St) (p : Nat) : St := { s with p := p }
/-- With these bytes ahead the next row is this one, and the state and the bytes ahead are these then. -/
def Nx (k : K) (s : St) (l : List Int) (o : Option Row) (s' : St) (l' : List Int) : Prop := ∀ p, k.at p = l → ∃ p', k.at p' = l' ∧ NX k (s.on p) o (s'.on p')

theorem Nx.skip {k : K} {s s1 s' : St} {bs l l' : List Int} {o : Option Row} (hne : bs ≠ []) (hn : s.n < 4294967295) (hs : ∀ p, k.at p = bs ++ l → k.step (s.on p) = some (none, s1.on (p + bs.length))) (H : Nx k s1 l o s' l') : Nx k s (bs ++ l) o s' l' := by
  intro p hp
  obtain ⟨p', h1, d, h2⟩ := H (p + bs.length) (at_add hp)
  refine ⟨p', h1, d + 1, fun m hm => ?_⟩
  obtain ⟨m, rfl⟩ : ∃ j, m = j + 1 := ⟨m - 1, by omega⟩
  rw [(nx_none (s := s.on p) (s' := s1.on (p + bs.length)) m hp hne (hs p hp) rfl hn).1]
  exact h2 m (by omega)
theorem Nx.row {k : K} {s s1 : St} {r : Row} {bs l : List Int} (hne : bs ≠ []) (hn : s.n < 4294967295) (hs : ∀ p, k.at p = bs ++ l → k.step (s.on p) = some (some r, s1.on (p + bs.length))) : Nx k s (bs ++ l) (some r) s1 l := by
  intro p hp
  refine ⟨p + bs.length, at_add hp, 1, fun m hm => ?_⟩
  obtain ⟨m, rfl⟩ : ∃ j, m = j + 1 := ⟨m - 1, by omega⟩
  exact (nx_row (s := s.on p) (s' := s1.on (p + bs.length)) m hp hne (hs p hp) rfl hn).1
theorem Nx.fin (k : K) (s : St) : Nx k s [] none s [] := fun p hp => ⟨p, hp, 1, fun m hm => by
  obtain ⟨m, rfl⟩ : ∃ j, m = j + 1 := ⟨m - 1, by omega⟩
  exact nx_end m hp⟩

theorem Nx.special {k : K} {s : St} {op : Int} {l : List Int} (hn : s.n < 4294967295) (ho : k.ob ≤ op) (h1 : fit s.r ((op - k.ob) / k.lr) = true) (h2 : fitL s.r.li 0 = true) :
    Nx k s (op :: l) (some { k.adv s.r ((op - k.ob) / k.lr) with li := s.r.li + (k.lb + (op - k.ob) % k.lr) }) { s with r := { k.adv s.r ((op - k.ob) / k.lr) with li := s.r.li + (k.lb + (op - k.ob) % k.lr), bb := false, pe := false, eb := false, di := 0 } } l :=
  Nx.row (bs := [op]) (by simp) hn fun p hp => step_spec (s := s.on p) hp ho h1 h2
theorem Nx.copy {k : K} {s : St} {l : List Int} (hn : s.n < 4294967295) (ho : 1 < k.ob) : Nx k s (1 :: l) (some s.r) { s with r := { s.r with bb := false, pe := false, eb := false, di := 0 } } l :=
  Nx.row (bs := [1]) (by simp) hn fun p hp => step_copy (s := s.on p) hp ho
theorem Nx.advance {k : K} {s s' : St} {bs l l' : List Int} {o : Option Row} {v : Nat} (hn : s.n < 4294967295) (ho : 2 < k.ob) (hu : unum (bs ++ l) = some (v, bs.length)) (h1 : fit s.r v = true) (H : Nx k { s with r := k.adv s.r v } l o s' l') : Nx k s (2 :: (bs ++ l)) o s' l' :=
  Nx.skip (bs := 2 :: bs) (by simp) hn (fun p hp => by
    rw [step_advance (s := s.on p) (k := k) (l := bs ++ l) hp ho hu h1]
    simp [St.on, Nat.add_assoc, Nat.add_comm 1]) H
theorem Nx.line {k : K} {s s' : St} {bs l l' : List Int} {o : Option Row} {v : Nat} (hn : s.n < 4294967295) (ho : 3 < k.ob) (hu : uread (bs ++ l) = some (v, bs.length)) (h1 : fitL s.r.li (sval v bs.length) = true) (H : Nx k { s with r := { s.r with li := s.r.li + sval v bs.length } } l o s' l') : Nx k s (3 :: (bs ++ l)) o s' l' :=
  Nx.skip (bs := 3 :: bs) (by simp) hn (fun p hp => by
    rw [step_line (s := s.on p) (k := k) (l := bs ++ l) hp ho hu h1]
    simp [St.on, Nat.add_assoc, Nat.add_comm 1]) H
theorem Nx.file {k : K} {s s' : St} {bs l l' : List Int} {o : Option Row} {v : Nat} (hn : s.n < 4294967295) (ho : 4 < k.ob) (hu : unum (bs ++ l) = some (v, bs.length)) (H : Nx k ({ s with fi := v } : St).upd l o s' l') : Nx k s (4 :: (bs ++ l)) o s' l' :=
  Nx.skip (bs := 4 :: bs) (by simp) hn (fun p hp => by
    rw [step_file (s := s.on p) (k := k) (l := bs ++ l) hp ho hu]
    simp [St.on, St.upd, St.file, Nat.add_assoc, Nat.add_comm 1]) H
theorem Nx.column {k : K} {s s' : St} {bs l l' : List Int} {o : Option Row} {v : Nat} (hn : s.n < 4294967295) (ho : 5 < k.ob) (hu : unum (bs ++ l) = some (v, bs.length)) (H : Nx k { s with r := { s.r with co := v } } l o s' l') : Nx k s (5 :: (bs ++ l)) o s' l' :=
  Nx.skip (bs := 5 :: bs) (by simp) hn (fun p hp => by
    rw [step_column (s := s.on p) (k := k) (l := bs ++ l) hp ho hu]
    simp [St.on, Nat.add_assoc, Nat.add_comm 1]) H
theorem Nx.block {k : K} {s s' : St} {l l' : List Int} {o : Option Row} (hn : s.n < 4294967295) (ho : 7 < k.ob) (H : Nx k { s with r := { s.r with bb := true } } l o s' l') : Nx k s (7 :: l) o s' l' :=
  Nx.skip (bs := [7]) (by simp) hn (fun p hp => by exact step_block (s := s.on p) hp ho) H
theorem Nx.const {k : K} {s s' : St} {l l' : List Int} {o : Option Row} (hn : s.n < 4294967295) (ho : 8 < k.ob) (h1 : fit s.r ((255 - k.ob) / k.lr) = true) (H : Nx k { s with r := k.adv s.r ((255 - k.ob) / k.lr) } l o s' l') : Nx k s (8 :: l) o s' l' :=
  Nx.skip (bs := [8]) (by simp) hn (fun p hp => by exact step_const (s := s.on p) hp ho h1) H
theorem Nx.fixed {k : K} {s s' : St} {b0 b1 : Int} {l l' : List Int} {o : Option Row} (hn : s.n < 4294967295) (ho : 9 < k.ob) (h1 : fit s.r 0 = true) (H : Nx k { s with r := { s.r with ad := s.r.ad + two k.big b0 b1 } } l o s' l') : Nx k s (9 :: b0 :: b1 :: l) o s' l' :=
  Nx.skip (bs := [9, b0, b1]) (by simp) hn (fun p hp => by exact step_fixed (s := s.on p) hp ho h1) H
theorem Nx.isa {k : K} {s s' : St} {bs l l' : List Int} {o : Option Row} {v : Nat} (hn : s.n < 4294967295) (ho : 12 < k.ob) (hu : unum (bs ++ l) = some (v, bs.length)) (H : Nx k { s with r := { s.r with isa := v } } l o s' l') : Nx k s (12 :: (bs ++ l)) o s' l' :=
  Nx.skip (bs := 12 :: bs) (by simp) hn (fun p hp => by
    rw [step_isa (s := s.on p) (k := k) (l := bs ++ l) hp ho hu]
    simp [St.on, Nat.add_assoc, Nat.add_comm 1]) H

/-- Extended operations: ls is the length, bs stands behind the number. -/
theorem ext_at {k : K} {s : St} {ls bs l : List Int} {op : Int} {p : Nat} (ho : 0 < k.ob) (hu : uread (ls ++ (op :: bs ++ l)) = some (bs.length + 1, ls.length)) (hp : k.at p = 0 :: (ls ++ (op :: bs ++ l))) :
    k.step (s.on p) = k.ext (s.on p) (p + 1 + ls.length) (p + (0 :: (ls ++ op :: bs)).length) op ∧ k.at (p + 1 + ls.length + 1) = bs ++ l := by
  refine ⟨?_, ?_⟩
  · rw [step_ext (s := s.on p) hp ho hu]
    congr 1
    simp [St.on]
    omega
  · have h1 := at_add (bs := 0 :: (ls ++ [op])) (l := bs ++ l) (k := k) (p := p) (by rw [hp]; simp)
    rw [← h1]
    congr 1
    simp
    omega
theorem Nx.last {k : K} {s : St} {ls l : List Int} (hn : s.n < 4294967295) (ho : 0 < k.ob) (hu : uread (ls ++ (1 :: [] ++ l)) = some (1, ls.length)) : Nx k s (0 :: (ls ++ 1 :: l)) (some { s.r with es := true }) (k.start s) l := by
  have e : 0 :: (ls ++ 1 :: l) = (0 :: (ls ++ 1 :: [])) ++ l := by simp
  rw [e]
  refine Nx.row (bs := 0 :: (ls ++ 1 :: [])) (by simp) hn fun p hp => ?_
  rw [(ext_at (s := s) (bs := []) (l := l) ho hu (by rw [hp]; simp)).1, ext_end]
  rfl
theorem Nx.addr8 {k : K} {s s' : St} {ls l l' : List Int} {o : Option Row} {b0 b1 b2 b3 b4 b5 b6 b7 : Int} (hn : s.n < 4294967295) (ho : 0 < k.ob) (ha : k.asz = 8) (hu : uread (ls ++ (2 :: [b0, b1, b2, b3, b4, b5, b6, b7] ++ l)) = some (9, ls.length)) (H : Nx k { s with r := { s.r with ad := eight k.big b0 b1 b2 b3 b4 b5 b6 b7 } } l o s' l') :
    Nx k s (0 :: (ls ++ 2 :: b0 :: b1 :: b2 :: b3 :: b4 :: b5 :: b6 :: b7 :: l)) o s' l' := by
  have e : 0 :: (ls ++ 2 :: b0 :: b1 :: b2 :: b3 :: b4 :: b5 :: b6 :: b7 :: l) = (0 :: (ls ++ 2 :: [b0, b1, b2, b3, b4, b5, b6, b7])) ++ l := by simp
  rw [e]
  refine Nx.skip (bs := 0 :: (ls ++ 2 :: [b0, b1, b2, b3, b4, b5, b6, b7])) (by simp) hn (fun p hp => ?_) H
  obtain ⟨h1, h2⟩ := ext_at (s := s) (bs := [b0, b1, b2, b3, b4, b5, b6, b7]) (l := l) ho hu (by rw [hp]; simp)
  rw [h1, ext_addr8 h2 ha (by simp; omega)]
  rfl
theorem Nx.other {k : K} {s s' : St} {ls bs l l' : List Int} {o : Option Row} {op : Int} (hn : s.n < 4294967295) (ho : 0 < k.ob) (hu : uread (ls ++ (op :: bs ++ l)) = some (bs.length + 1, ls.length)) (h1 : op ≠ 1) (h2 : op ≠ 2) (h3 : op ≠ 3) (h4 : op ≠ 4) (H : Nx k s l o s' l') :
    Nx k s (0 :: (ls ++ op :: (bs ++ l))) o s' l' := by
  have e : 0 :: (ls ++ op :: (bs ++ l)) = (0 :: (ls ++ op :: bs)) ++ l := by simp
  rw [e]
  refine Nx.skip (bs := 0 :: (ls ++ op :: bs)) (by simp) hn (fun p hp => ?_) H
  rw [(ext_at (s := s) (bs := bs) (l := l) ho hu (by rw [hp]; simp)).1, ext_unknown h1 h2 h3 h4]
  rfl

/-- The rows that are told from a state on, and then no more. -/
def Told (k : K) : St → List Int → List Row → Prop
  | s, l, [] => ∃ s' l', Nx k s l none s' l'
  | s, l, r :: rs => ∃ s' l', Nx k s l (some r) s' l' ∧ Told k s' l' rs
theorem Told.cons {k : K} {s s' : St} {l l' : List Int} {r : Row} {rs : List Row} (h : Nx k s l (some r) s' l') (t : Told k s' l' rs) : Told k s l (r :: rs) := ⟨_, _, h, t⟩
theorem Told.nil (k : K) (s : St) : Told k s [] [] := ⟨_, _, Nx.fin k s⟩
end Go.Proofs.YtnooghnbohjmlaaDoor.Line

/- Plain facts on digits to the base 128, and on the numbers that they tell; no Go in sight. -/
namespace Go.Proofs.YtnooghnbohjmlaaDoor.Leb
open Go

def Dig (l : List Int) : Prop := ∀ d ∈ l, 0 ≤ d ∧ d < 128
/-- The number that digits tell. -/
def dval : List Int → Nat
  | [] => 0
  | d :: r => d.toNat + 128 * dval r
/-- The signed number that digits tell. -/
def sd : List Int → Int
  | [] => 0
  | [d] => if 64 ≤ d then d - 128 else d
  | d :: e :: r => d + 128 * sd (e :: r)

theorem uread_carr : ∀ (ds rest : List Int), ds ≠ [] → Dig ds → uread (carr ds ++ rest) = some (dval ds, ds.length)
  | [], _, h, _ => absurd rfl h
  | [d], rest, _, hd => by
    have := hd d (by simp)
    simp only [carr, List.cons_append, List.nil_append, uread]
    rw [if_pos this.2]
    simp [dval]
  | d :: e :: r, rest, _, hd => by
    have h0 := hd d (by simp)
    have ih := uread_carr (e :: r) rest (by simp) (fun x hx => hd x (by simp [List.mem_cons] at hx ⊢; right; exact hx))
    rw [carr, or128_int d h0.1 h0.2, List.cons_append, uread, if_neg (by omega), ih]
    simp only [Option.map_some, dval, List.length_cons]
    congr 2
    omega

theorem dval_lt : ∀ (ds : List Int), Dig ds → dval ds < 128 ^ ds.length
  | [], _ => by simp [dval]
  | d :: r, hd => by
    have h := dval_lt r (fun x hx => hd x (by simp [hx]))
    have h0 := hd d (by simp)
    rw [dval, List.length_cons, Nat.pow_succ]
    omega

/-- The sign of digits: the last one has 64. -/
theorem dval_sign : ∀ (ds : List Int), ds ≠ [] → Dig ds → ∃ s : Nat, s < 2 ∧ dval ds / 2 ^ (7 * ds.length - 1) = s ∧ (dval ds : Int) = sd ds + (s * 128 ^ ds.length : Nat)
  | [], h, _ => absurd rfl h
  | [d], _, hd => by
    have h0 := hd d (by simp)
    by_cases h : 64 ≤ d
    · refine ⟨1, by decide, ?_, ?_⟩
      · simp [dval]; omega
      · simp [dval, sd, h]; omega
    · refine ⟨0, by decide, ?_, ?_⟩
      · simp [dval]; omega
      · simp [dval, sd, h]; omega
  | d :: e :: r, _, hd => by
    have h0 := hd d (by simp)
    obtain ⟨s, hs, h1, h2⟩ := dval_sign (e :: r) (by simp) (fun x hx => hd x (by simp [List.mem_cons] at hx ⊢; right; exact hx))
    refine ⟨s, hs, ?_, ?_⟩
    · rw [dval, show 7 * (d :: e :: r).length - 1 = 7 + (7 * (e :: r).length - 1) by simp [List.length_cons]; omega, Nat.pow_add, ← Nat.div_div_eq_div_mul]
      rw [show (d.toNat + 128 * dval (e :: r)) / 2 ^ 7 = dval (e :: r) by omega, h1]
    · rw [dval, sd, show (d :: e :: r).length = (e :: r).length + 1 from rfl, Nat.pow_succ, ← Nat.mul_assoc]
      generalize dval (e :: r) = D at *
      generalize s * 128 ^ (e :: r).length = E at *
      omega

theorem sd_range (ds : List Int) (h : ds ≠ []) (hd : Dig ds) (h9 : ds.length ≤ 9) : -9223372036854775808 ≤ sd ds ∧ sd ds < 9223372036854775808 := by
  obtain ⟨s, hs, h1, h2⟩ := dval_sign ds h hd
  have hl := dval_lt ds hd
  have hp : (128 : Nat) ^ ds.length ≤ 128 ^ 9 := Nat.pow_le_pow_right (by decide) h9
  have h9' : (128 : Nat) ^ 9 = 9223372036854775808 := rfl
  have hss : s = 0 ∨ s = 1 := by omega
  rcases hss with rfl | rfl
  · simp at h2
    omega
  · rw [Nat.one_mul] at h2
    omega

/-- The signed number is what the digits tell, in 64 bits. -/
theorem sval_dval (ds : List Int) (h : ds ≠ []) (hd : Dig ds) : sval (dval ds) ds.length = IntKind.i64.wrap (sd ds) := by
  obtain ⟨s, hs, h1, h2⟩ := dval_sign ds h hd
  unfold sval
  have e128 : (2 : Nat) ^ (7 * ds.length) = 128 ^ ds.length := by rw [Nat.pow_mul]
  by_cases h9 : ds.length ≤ 9
  · have hr := sd_range ds h hd h9
    have hw : IntKind.i64.wrap (sd ds) = sd ds := by rw [IntKind.wrap_i64]; omega
    rw [if_pos h9, h1, e128, hw]
    have hss : s = 0 ∨ s = 1 := by omega
    rcases hss with rfl | rfl
    · rw [if_neg (by decide)]; simpa using h2
    · rw [if_pos (by decide), h2, Nat.one_mul]; omega
  · rw [if_neg h9, h2]
    obtain ⟨m, hm⟩ : ∃ m, s * 128 ^ ds.length = 18446744073709551616 * m := by
      refine ⟨s * (64 * 128 ^ (ds.length - 10)), ?_⟩
      rw [show ds.length = 10 + (ds.length - 10) by omega, Nat.pow_add, show (128 : Nat) ^ 10 = 18446744073709551616 * 64 from rfl, show 10 + (ds.length - 10) - 10 = ds.length - 10 by omega]
      rw [Nat.mul_assoc, Nat.mul_left_comm]
    rw [hm, IntKind.wrap_i64, IntKind.wrap_i64]
    omega

theorem dgs_dig (n : Nat) : Dig (dgs n) := by
  induction n using Nat.strongRecOn with
  | _ n ih =>
    intro d hd
    by_cases h : n = 0
    · rw [h, dgs_zero] at hd; simp at hd
    · rw [dgs_pos h] at hd
      rcases List.mem_cons.1 hd with rfl | hd
      · omega
      · exact ih (n / 128) (by omega) d hd
theorem dval_zeros (m : Nat) : dval (List.replicate m 0) = 0 := by
  induction m with
  | zero => rfl
  | succ m ih => rw [List.replicate_succ, dval, ih]; rfl
theorem dval_dgs (n m : Nat) : dval (dgs n ++ List.replicate m 0) = n := by
  induction n using Nat.strongRecOn with
  | _ n ih =>
    by_cases h : n = 0
    · rw [h, dgs_zero, List.nil_append, dval_zeros]
    · rw [dgs_pos h, List.cons_append, dval, ih (n / 128) (by omega)]
      omega
/-- The digits of a number, with m noughts. -/
def udig (n m : Nat) : List Int := ((n % 128 : Nat) : Int) :: (dgs (n / 128) ++ List.replicate m 0)
theorem udig_dig (n m : Nat) : Dig (udig n m) := by
  intro d hd
  rcases List.mem_cons.1 hd with rfl | hd
  · omega
  · rcases List.mem_append.1 hd with hd | hd
    · exact dgs_dig _ d hd
    · obtain ⟨_, rfl⟩ := List.mem_replicate.1 hd
      omega
theorem dval_udig (n m : Nat) : dval (udig n m) = n := by
  rw [udig, dval, dval_dgs]
  omega

/-- What fills a signed number up. -/
def fill (n : Int) : Int := if n < 0 then 127 else 0
theorem sd_zeros (m : Nat) (d : Int) (h : d < 64) : sd (d :: List.replicate m 0) = d := by
  induction m generalizing d with
  | zero => simp [sd]; omega
  | succ m ih => rw [List.replicate_succ, sd, ih 0 (by decide)]; omega
theorem sd_ones (m : Nat) (d : Int) (h : 64 ≤ d) : sd (d :: List.replicate m 127) = d - 128 := by
  induction m generalizing d with
  | zero => simp [sd, h]
  | succ m ih => rw [List.replicate_succ, sd, ih 127 (by decide)]; omega
/-- The digits of a signed number, with m more than it needs. -/
def sdig (n : Int) (m : Nat) : List Int := n % 128 :: (sdg (n / 128) (n % 128) ++ List.replicate m (fill n))
theorem sd_sdg (k : Nat) : ∀ (n d : Int) (m : Nat), (sdg n d).length = k → 0 ≤ d ∧ d < 128 → sd (d :: (sdg n d ++ List.replicate m (fill n))) = d + 128 * n := by
  induction k with
  | zero =>
    intro n d m hk hd
    by_cases he : sEnd n d = true
    · rw [sdg_nil he, List.nil_append]
      rw [sEnd_iff] at he
      rcases he with ⟨rfl, h⟩ | ⟨rfl, h⟩
      · rw [show fill 0 = 0 from rfl, sd_zeros m d h]; omega
      · rw [show fill (-1) = 127 from rfl, sd_ones m d h]; omega
    · rw [sdg_cons he] at hk; simp at hk
  | succ k ih =>
    intro n d m hk hd
    by_cases he : sEnd n d = true
    · rw [sdg_nil he] at hk; simp at hk
    · rw [sdg_cons he, List.length_cons] at hk
      have e : fill n = fill (n / 128) := by unfold fill; by_cases h : n < 0 <;> simp [h] <;> omega
      rw [sdg_cons he, List.cons_append, sd, e, ih (n / 128) (n % 128) m (by omega) (by omega)]
      omega
theorem sd_sdig (n : Int) (m : Nat) : sd (sdig n m) = n := by
  have e : fill n = fill (n / 128) := by unfold fill; by_cases h : n < 0 <;> simp [h] <;> omega
  rw [sdig, e, sd_sdg _ (n / 128) (n % 128) m rfl (by omega)]
  omega
theorem sdg_dig (k : Nat) : ∀ (n d : Int), (sdg n d).length = k → Dig (sdg n d) := by
  induction k with
  | zero => intro n d hk x hx; rw [List.length_eq_zero_iff] at hk; rw [hk] at hx; simp at hx
  | succ k ih =>
    intro n d hk x hx
    by_cases he : sEnd n d = true
    · rw [sdg_nil he] at hk; simp at hk
    · rw [sdg_cons he] at hk hx
      rcases List.mem_cons.1 hx with rfl | hx
      · omega
      · exact ih (n / 128) (n % 128) (by simpa using hk) x hx
theorem sdig_dig (n : Int) (m : Nat) : Dig (sdig n m) := by
  intro d hd
  rcases List.mem_cons.1 hd with rfl | hd
  · omega
  · rcases List.mem_append.1 hd with hd | hd
    · exact sdg_dig _ _ _ rfl d hd
    · obtain ⟨_, rfl⟩ := List.mem_replicate.1 hd
      unfold fill
      split <;> omega
/-- Bytes of digits. -/
theorem carr_bytes : ∀ (ds : List Int), Dig ds → Bytes (carr ds)
  | [], _ => by intro b hb; simp [carr] at hb
  | [d], hd => by intro b hb; simp [carr] at hb; subst hb; have := hd b (by simp); omega
  | d :: e :: r, hd => by
    intro b hb
    have h0 := hd d (by simp)
    rw [carr, or128_int d h0.1 h0.2] at hb
    rcases List.mem_cons.1 hb with rfl | hb
    · omega
    · exact carr_bytes (e :: r) (fun x hx => hd x (by simp [List.mem_cons] at hx ⊢; right; exact hx)) b hb
theorem ub_carr (n : Nat) : ub n = carr (udig n 0) := by rw [udig, List.replicate_zero, List.append_nil, carr_dgs]
theorem sb_carr (n : Int) : sb n = carr (sdig n 0) := by rw [sdig, List.replicate_zero, List.append_nil, carr_sdg _ n rfl]
end Go.Proofs.YtnooghnbohjmlaaDoor.Leb

/- Plain: the rows of plain line programs; no Go in sight. -/
namespace Go.Proofs.YtnooghnbohjmlaaDoor.Line
open Go Go.Proofs.YtnooghnbohjmlaaDoor.Leb

/-- Numbers in LEB128, with bytes more than they need. -/
def ubp (n m : Nat) : List Int := carr (udig n m)
def sbp (n : Int) (m : Nat) : List Int := carr (sdig n m)
theorem uread_ubp (n m : Nat) (l : List Int) : uread (ubp n m ++ l) = some (n, (ubp n m).length) := by
  unfold ubp
  rw [uread_carr _ _ (by simp [udig]) (udig_dig n m), dval_udig, carr_length]
theorem unum_ubp (n m : Nat) (l : List Int) (h : n < 9223372036854775808) : unum (ubp n m ++ l) = some (n, (ubp n m).length) := unum_of (uread_ubp n m l) h
theorem uread_sbp (n : Int) (m : Nat) (l : List Int) (h : -9223372036854775808 ≤ n ∧ n < 9223372036854775808) : ∃ v, uread (sbp n m ++ l) = some (v, (sbp n m).length) ∧ sval v (sbp n m).length = n := by
  refine ⟨dval (sdig n m), ?_, ?_⟩
  · unfold sbp
    rw [uread_carr _ _ (by simp [sdig]) (sdig_dig n m), carr_length]
  · unfold sbp
    rw [carr_length, sval_dval _ (by simp [sdig]) (sdig_dig n m), sd_sdig, IntKind.wrap_i64]
    omega
theorem ubp_bytes (n m : Nat) : Bytes (ubp n m) := carr_bytes _ (udig_dig n m)
theorem sbp_bytes (n : Int) (m : Nat) : Bytes (sbp n m) := carr_bytes _ (sdig_dig n m)
theorem ubp_length (n m : Nat) : (ubp n m).length = (ub n).length + m := by
  unfold ubp
  rw [carr_length, ub_carr, carr_length]
  simp [udig]
  omega
theorem sbp_length (n : Int) (m : Nat) : (sbp n m).length = (sb n).length + m := by
  unfold sbp
  rw [carr_length, sb_carr, carr_length]
  simp [sdig]
  omega

theorem fit_of {r : Row} {v : Int} (h1 : 0 ≤ r.ix ∧ r.ix < 256) (h2 : 0 ≤ v ∧ v ≤ 4294967296) (h3 : 0 ≤ r.ad ∧ r.ad < 9223372036854775808) : fit r v = true := by
  simp [fit, h1.1, h1.2, h2.1, h2.2, h3.1, h3.2]
theorem fitL_of {a b : Int} (h1 : -1099511627776 ≤ a ∧ a ≤ 1099511627776) (h2 : -1099511627776 ≤ b ∧ b ≤ 1099511627776) : fitL a b = true := by
  simp [fitL, h1.1, h1.2, h2.1, h2.2]

theorem Nx.address {k : K} {s s' : St} {ad : Int} {l l' : List Int} {o : Option Row} (ho : 0 < k.ob) (ha : k.asz = 8) (hb : k.big = false) (had : 0 ≤ ad ∧ ad < 18446744073709551616) (hn : s.n < 4294967295) (H : Nx k { s with r := { s.r with ad := ad } } l o s' l') : Nx k s (0 :: 9 :: 2 :: (le8 ad ++ l)) o s' l' := by
  obtain ⟨b0, b1, b2, b3, b4, b5, b6, b7, e8, e9, _⟩ := eight_le8 ad had
  rw [e8]
  exact Nx.addr8 (ls := [9]) hn ho ha (by simp [uread]) (by rw [hb, e9]; exact H)
theorem Nx.final {k : K} {s : St} (hn : s.n < 4294967295) (ho : 0 < k.ob) : Told k s [0, 1, 1] [{ s.r with es := true }] :=
  Told.cons (Nx.last (ls := [1]) (l := []) hn ho (by simp [uread])) (Told.nil _ _)
theorem Nx.adv {k : K} {s s' : St} {n m : Nat} {l l' : List Int} {o : Option Row} (hn : s.n < 4294967295) (ho : 2 < k.ob) (hl : n < 4294967296) (hix : 0 ≤ s.r.ix ∧ s.r.ix < 256) (had : 0 ≤ s.r.ad ∧ s.r.ad < 9223372036854775808) (H : Nx k { s with r := k.adv s.r n } l o s' l') : Nx k s (2 :: (ubp n m ++ l)) o s' l' :=
  Nx.advance hn ho (unum_ubp n m l (by omega)) (fit_of hix ⟨by omega, by omega⟩ had) H

/-- The states of the plain laws. -/
abbrev stP (F : Fl) (r : Row) : St := ⟨0, [none, some F], 2, r, 1⟩
abbrev row0 (F : Fl) : Row := ⟨0, 0, some F, 1, 0, false, false, false, false, 0, 0, false⟩

theorem say_special {k : K} {F : Fl} {ad op : Int} (ho : 1 ≤ k.ob) (ho2 : k.ob ≤ op) (hop : op < 256) (hlr : 1 ≤ k.lr) (hmi : 0 ≤ k.mi ∧ k.mi < 256) (hmo : k.mo = 1) (ha : k.asz = 8) (hb : k.big = false) (had : 0 ≤ ad ∧ ad ≤ 4611686018427387904) :
    ∃ r1 r2, Told k (stP F (row0 F)) (0 :: 9 :: 2 :: (le8 ad ++ op :: [0, 1, 1])) [r1, r2] ∧ r1.es = false ∧ r2.es = true ∧ r1.ad = ad + k.mi * ((op - k.ob) / k.lr) ∧ r1.li = 1 + (k.lb + (op - k.ob) % k.lr) ∧ r2.ad = ad + k.mi * ((op - k.ob) / k.lr) := by
  have hd : 0 ≤ (op - k.ob) / k.lr ∧ (op - k.ob) / k.lr ≤ 255 := by
    refine ⟨Int.ediv_nonneg (by omega) (by omega), ?_⟩
    exact Int.le_trans (Int.ediv_le_self _ (by omega)) (by omega)
  refine ⟨_, _, Told.cons (Nx.address (by omega) ha hb (by omega) (by show (2 : Nat) < _; decide) (Nx.special (by show (2 : Nat) < _; decide) ho2 (fit_of ⟨by show (0 : Int) ≤ 0; decide, by show (0 : Int) < 256; decide⟩ ⟨hd.1, by omega⟩ ⟨had.1, by show ad < _; omega⟩) (by show fitL 1 0 = true; decide))) (Nx.final (by show (2 : Nat) < _; decide) (by omega)), rfl, rfl, ?_, rfl, ?_⟩
  all_goals
    show ad + k.mi * ((0 + (op - k.ob) / k.lr) / k.mo) = _
    rw [hmo, Int.zero_add, Int.ediv_one]

theorem say_operations {k : K} {F : Fl} {ad : Int} {n : Nat} (ho : 9 ≤ k.ob) (hlt : k.ob < 256) (hlr : 1 ≤ k.lr) (hmi : 0 ≤ k.mi ∧ k.mi < 256) (hmo : 1 ≤ k.mo ∧ k.mo < 256) (ha : k.asz = 8) (hb : k.big = false) (had : 0 ≤ ad ∧ ad ≤ 4611686018427387904) (hn : n ≤ 2147483648) :
    ∃ r1 r2, Told k (stP F (row0 F)) (0 :: 9 :: 2 :: (le8 ad ++ 2 :: (ubp n 0 ++ 8 :: 1 :: [0, 1, 1]))) [r1, r2] ∧ r1.es = false ∧ r2.es = true ∧ r1.ix = ((n : Int) % k.mo + (255 - k.ob) / k.lr) % k.mo ∧ r1.ad = ad + k.mi * ((n : Int) / k.mo) + k.mi * (((n : Int) % k.mo + (255 - k.ob) / k.lr) / k.mo) := by
  have hd : 0 ≤ (255 - k.ob) / k.lr ∧ (255 - k.ob) / k.lr ≤ 255 := by
    refine ⟨Int.ediv_nonneg (by omega) (by omega), ?_⟩
    exact Int.le_trans (Int.ediv_le_self _ (by omega)) (by omega)
  have hq : 0 ≤ (n : Int) / k.mo ∧ (n : Int) / k.mo ≤ n := ⟨Int.ediv_nonneg (by omega) (by omega), Int.ediv_le_self _ (by omega)⟩
  have hr : 0 ≤ (n : Int) % k.mo ∧ (n : Int) % k.mo < k.mo := ⟨Int.emod_nonneg _ (by omega), Int.emod_lt_of_pos _ (by omega)⟩
  have hm : 0 ≤ k.mi * ((n : Int) / k.mo) ∧ k.mi * ((n : Int) / k.mo) ≤ 255 * 2147483648 := by
    refine ⟨Int.mul_nonneg (by omega) hq.1, Int.mul_le_mul (by omega) (by omega) hq.1 (by decide)⟩
  refine ⟨_, _, Told.cons (Nx.address (by omega) ha hb (by omega) (by show (2 : Nat) < _; decide) (Nx.adv (by show (2 : Nat) < _; decide) (by omega) (by omega) ⟨by show (0 : Int) ≤ 0; decide, by show (0 : Int) < 256; decide⟩ ⟨had.1, by show ad < _; omega⟩
      (Nx.const (by show (2 : Nat) < _; decide) (by omega) (fit_of ⟨?_, ?_⟩ ⟨hd.1, by omega⟩ ⟨?_, ?_⟩) (Nx.copy (by show (2 : Nat) < _; decide) (by omega))))) (Nx.final (by show (2 : Nat) < _; decide) (by omega)), rfl, rfl, ?_, ?_⟩
  · show 0 ≤ (0 + (n : Int)) % k.mo; rw [Int.zero_add]; omega
  · show (0 + (n : Int)) % k.mo < 256; rw [Int.zero_add]; omega
  · show 0 ≤ ad + k.mi * ((0 + (n : Int)) / k.mo); rw [Int.zero_add]; omega
  · show ad + k.mi * ((0 + (n : Int)) / k.mo) < _; rw [Int.zero_add]; omega
  · show ((0 + (n : Int)) % k.mo + (255 - k.ob) / k.lr) % k.mo = _; rw [Int.zero_add]
  · show ad + k.mi * ((0 + (n : Int)) / k.mo) + k.mi * (((0 + (n : Int)) % k.mo + (255 - k.ob) / k.lr) / k.mo) = _; rw [Int.zero_add]

theorem say_fixed {k : K} {F : Fl} {ad f : Int} {n : Nat} (ho : k.ob = 13) (hmi : 0 ≤ k.mi ∧ k.mi < 256) (hmo : k.mo = 1) (ha : k.asz = 8) (hb : k.big = false) (had : 0 ≤ ad ∧ ad ≤ 4611686018427387904) (hn : n ≤ 2147483648) (hf : 0 ≤ f ∧ f < 65536) :
    ∃ r1 r2, Told k (stP F (row0 F)) (0 :: 9 :: 2 :: (le8 ad ++ 2 :: (ubp n 0 ++ 9 :: f % 256 :: f / 256 % 256 :: 1 :: [0, 1, 1]))) [r1, r2] ∧ r1.es = false ∧ r2.es = true ∧ r1.ix = 0 ∧ r1.ad = ad + (k.mi * n + f) := by
  have hm : 0 ≤ k.mi * (n : Int) ∧ k.mi * (n : Int) ≤ 255 * 2147483648 := by
    refine ⟨Int.mul_nonneg (by omega) (by omega), Int.mul_le_mul (by omega) (by omega) (by omega) (by decide)⟩
  refine ⟨_, _, Told.cons (Nx.address (by omega) ha hb (by omega) (by show (2 : Nat) < _; decide) (Nx.adv (by show (2 : Nat) < _; decide) (by omega) (by omega) ⟨by show (0 : Int) ≤ 0; decide, by show (0 : Int) < 256; decide⟩ ⟨had.1, by show ad < _; omega⟩
      (Nx.fixed (by show (2 : Nat) < _; decide) (by omega) (fit_of ⟨?_, ?_⟩ ⟨by omega, by omega⟩ ⟨?_, ?_⟩) (Nx.copy (by show (2 : Nat) < _; decide) (by omega))))) (Nx.final (by show (2 : Nat) < _; decide) (by omega)), rfl, rfl, ?_, ?_⟩
  · show 0 ≤ (0 + (n : Int)) % k.mo; rw [hmo]; omega
  · show (0 + (n : Int)) % k.mo < 256; rw [hmo]; omega
  · show 0 ≤ ad + k.mi * ((0 + (n : Int)) / k.mo); rw [hmo, Int.zero_add, Int.ediv_one]; omega
  · show ad + k.mi * ((0 + (n : Int)) / k.mo) < _; rw [hmo, Int.zero_add, Int.ediv_one]; omega
  · show (0 + (n : Int)) % k.mo = 0; rw [hmo]; omega
  · show ad + k.mi * ((0 + (n : Int)) / k.mo) + two k.big (f % 256) (f / 256 % 256) = _; rw [hmo, hb, Int.zero_add, Int.ediv_one]; simp only [two]; simp; omega

theorem say_set {k : K} {F : Fl} {ad nx : Int} {n : Nat} (ho : k.ob = 13) (hmi : 0 ≤ k.mi ∧ k.mi < 256) (hmo : k.mo = 1) (ha : k.asz = 8) (hb : k.big = false) (had : 0 ≤ ad ∧ ad ≤ 4611686018427387904) (hn : n ≤ 2147483648) (hx : 0 ≤ nx ∧ nx ≤ 4611686018427387904) :
    ∃ r1 r2, Told k (stP F (row0 F)) (0 :: 9 :: 2 :: (le8 ad ++ 2 :: (ubp n 0 ++ 0 :: 9 :: 2 :: (le8 nx ++ 1 :: [0, 1, 1])))) [r1, r2] ∧ r1.es = false ∧ r2.es = true ∧ r1.ix = 0 ∧ r1.ad = nx ∧ r2.ad = nx := by
  refine ⟨_, _, Told.cons (Nx.address (by omega) ha hb (by omega) (by show (2 : Nat) < _; decide) (Nx.adv (by show (2 : Nat) < _; decide) (by omega) (by omega) ⟨by show (0 : Int) ≤ 0; decide, by show (0 : Int) < 256; decide⟩ ⟨had.1, by show ad < _; omega⟩
      (Nx.address (by omega) ha hb (by omega) (by show (2 : Nat) < _; decide) (Nx.copy (by show (2 : Nat) < _; decide) (by omega))))) (Nx.final (by show (2 : Nat) < _; decide) (by omega)), rfl, rfl, ?_, rfl, rfl⟩
  show (0 + (n : Int)) % k.mo = 0; rw [hmo]; omega

theorem say_passed {k : K} {F : Fl} {ad op : Int} {b : List Int} (ho : k.ob = 13) (hop : 5 ≤ op) (ha : k.asz = 8) (hb : k.big = false) (had : 0 ≤ ad ∧ ad ≤ 4611686018427387904) :
    ∃ r1 r2, Told k (stP F (row0 F)) (0 :: 9 :: 2 :: (le8 ad ++ 0 :: (ubp (b.length + 1) 0 ++ op :: (b ++ 1 :: [0, 1, 1])))) [r1, r2] ∧ r1.es = false ∧ r2.es = true ∧ r1.ad = ad ∧ r1.li = 1 ∧ r1.co = 0 ∧ r1.di = 0 := by
  refine ⟨_, _, Told.cons (Nx.address (by omega) ha hb (by omega) (by show (2 : Nat) < _; decide) (Nx.other (bs := b) (by show (2 : Nat) < _; decide) (by omega) (uread_ubp _ _ _) (by omega) (by omega) (by omega) (by omega)
      (Nx.copy (by show (2 : Nat) < _; decide) (by omega)))) (Nx.final (by show (2 : Nat) < _; decide) (by omega)), rfl, rfl, rfl, rfl, rfl, rfl⟩

theorem Nx.lineBy {k : K} {s s' : St} {n : Int} {m : Nat} {l l' : List Int} {o : Option Row} (hn : s.n < 4294967295) (ho : 3 < k.ob) (hl : -4294967296 ≤ n ∧ n ≤ 4294967296) (hli : -1099511627776 ≤ s.r.li ∧ s.r.li ≤ 1099511627776) (H : Nx k { s with r := { s.r with li := s.r.li + n } } l o s' l') : Nx k s (3 :: (sbp n m ++ l)) o s' l' := by
  obtain ⟨v, h1, h2⟩ := uread_sbp n m l (by omega)
  exact Nx.line hn ho h1 (by rw [h2]; exact fitL_of hli ⟨by omega, by omega⟩) (by rw [h2]; exact H)
theorem say_numbers {k : K} {F : Fl} {co isa up down : Nat} (pad : Nat) (ho : k.ob = 13) (ha : k.asz = 8) (hb : k.big = false) (h1 : co ≤ 2147483648) (h2 : isa ≤ 2147483648) (h3 : down ≤ up) (h4 : up ≤ 2147483648) :
    ∃ r1 r2 r3, Told k (stP F (row0 F)) (0 :: 9 :: 2 :: (le8 0 ++ 5 :: (ubp co pad ++ 12 :: (ubp isa pad ++ 3 :: (sbp up pad ++ 1 :: 3 :: (sbp (-(down : Int)) pad ++ 1 :: [0, 1, 1])))))) [r1, r2, r3] ∧ r1.es = false ∧ r2.es = false ∧ r3.es = true ∧
      r1.co = co ∧ r1.isa = isa ∧ r1.li = 1 + up ∧ r2.li = 1 + up - down ∧ r2.co = co ∧ r2.isa = isa := by
  refine ⟨_, _, _, Told.cons (Nx.address (by omega) ha hb (by omega) (by show (2 : Nat) < _; decide) (Nx.column (by show (2 : Nat) < _; decide) (by omega) (unum_ubp _ _ _ (by omega)) (Nx.isa (by show (2 : Nat) < _; decide) (by omega) (unum_ubp _ _ _ (by omega)) (Nx.lineBy (by show (2 : Nat) < _; decide) (by omega) (by omega) ⟨?_, ?_⟩
      (Nx.copy (by show (2 : Nat) < _; decide) (by omega)))))) (Told.cons (Nx.lineBy (by show (2 : Nat) < _; decide) (by omega) (by omega) ⟨?_, ?_⟩ (Nx.copy (by show (2 : Nat) < _; decide) (by omega))) (Nx.final (by show (2 : Nat) < _; decide) (by omega))), rfl, rfl, rfl, rfl, rfl, rfl, rfl, rfl, rfl⟩
  · show _ ≤ (1 : Int); decide
  · show (1 : Int) ≤ _; decide
  · show _ ≤ (1 + up : Int); omega
  · show (1 + up : Int) ≤ _; omega
end Go.Proofs.YtnooghnbohjmlaaDoor.Line

/- Plain tables and numbers, as the printed functions tell them. -/
namespace Go.Proofs.YtnooghnbohjmlaaDoor.PPl
open Go.RowKit Go.Proofs.YtnooghnbohjmlaaDoorW.PrintWords Go.Proofs.YtnooghnbohjmlaaDoorW.PrintLast Go.Proofs.YtnooghnbohjmlaaDoorW.PrintMore Go.Proofs.YtnooghnbohjmlaaDoor.Leb Go.Proofs.YtnooghnbohjmlaaDoor.Line

theorem carried_l0 (rest : List Int) : ∀ (k : Nat) (done : List Int), rest ≠ [] → rest.length ≤ k → done.length + rest.length < 140737488355329 → spec_carried.l0 k (done ++ rest) (done.length : Int) = some (done ++ carr rest) := by
  induction rest with
  | nil => intro k done h; exact absurd rfl h
  | cons x xs ih =>
    intro k done _ hk hl
    simp only [List.length_cons] at hk hl
    obtain ⟨k, rfl⟩ : ∃ m, k = m + 1 := ⟨k - 1, by omega⟩
    simp only [spec_carried.l0]
    have hw : wrap64 ((done.length : Int) + 1) = (done.length : Int) + 1 := by unfold wrap64; omega
    rw [hw]
    cases xs with
    | nil => rw [if_neg (by simp)]; rfl
    | cons y ys =>
      rw [if_pos (by simp; omega), if_pos (by omega), if_pos (by simp; omega)]
      have e1 : rd (done ++ x :: y :: ys) (done.length : Int) = x := by simp [rd]
      have e2 : (done ++ x :: y :: ys).set ((done.length : Int)).toNat (Go.bits .or .u8 x 128) = (done ++ [Go.bits .or .u8 x 128]) ++ y :: ys := by simp
      rw [e1, e2, show (done.length : Int) + 1 = ((done ++ [Go.bits .or .u8 x 128]).length : Int) by simp, ih k _ (by simp) (by simpa using hk) (by simp at hl ⊢; omega)]
      simp [carr]

theorem unsigned_l1 (pad : Nat) : ∀ (k : Nat) (x5 : List Int), x5 ≠ [] → pad + x5.length + pad + 1 ≤ k → x5.length + pad < 140737488355328 → spec_Unsigned.l1 k (pad : Int) x5 = some (carr (x5 ++ List.replicate pad 0)) := by
  induction pad with
  | zero =>
    intro k x5 h hk hl
    obtain ⟨k, rfl⟩ : ∃ m, k = m + 1 := ⟨k - 1, by omega⟩
    simp only [spec_Unsigned.l1]
    rw [if_neg (by simp)]
    have := carried_l0 x5 k [] h (by omega) (by simp; omega)
    simp only [List.nil_append, List.length_nil] at this
    unfold spec_carried.f
    rw [show (0 : Int) = ((0 : Nat) : Int) from rfl, this]
    simp
  | succ pad ih =>
    intro k x5 h hk hl
    obtain ⟨k, rfl⟩ : ∃ m, k = m + 1 := ⟨k - 1, by omega⟩
    simp only [spec_Unsigned.l1]
    rw [if_pos (by omega), if_pos (by omega), show wrap64 (((pad + 1 : Nat) : Int) - 1) = (pad : Int) by unfold wrap64; omega, ih k _ (by simp) (by simp; omega) (by simp; omega), List.replicate_succ]
    simp

theorem unsigned_l0 (n : Nat) : ∀ (k : Nat) (x5 : List Int) (pad : Nat), x5 ≠ [] → (dgs n).length + pad + x5.length + (dgs n).length + pad + 2 ≤ k → n < 18446744073709551616 → x5.length + (dgs n).length + pad < 140737488355328 → spec_Unsigned.l0 k (n : Int) (pad : Int) x5 = some (carr (x5 ++ dgs n ++ List.replicate pad 0)) := by
  induction n using Nat.strongRecOn with
  | _ n ih =>
    intro k x5 pad h hk hn hl
    obtain ⟨k, rfl⟩ : ∃ m, k = m + 1 := ⟨k - 1, by omega⟩
    simp only [spec_Unsigned.l0]
    by_cases h0 : n = 0
    · subst h0
      rw [dgs_zero] at hk hl ⊢
      simp only [List.length_nil] at hk hl
      rw [if_neg (by simp), unsigned_l1 pad k x5 h (by omega) (by omega)]
      simp
    · rw [dgs_pos h0] at hk hl ⊢
      simp only [List.length_cons] at hk hl
      have e1 : IntKind.u64.wrap (Int.tdiv (n : Int) 128) = ((n / 128 : Nat) : Int) := by
        rw [IntKind.wrap_u64, Int.tdiv_eq_ediv_of_nonneg (by omega)]
        omega
      have e2 : (Int.tmod (n : Int) 128) % 256 = ((n % 128 : Nat) : Int) := by
        rw [Int.tmod_eq_emod_of_nonneg (by omega)]
        omega
      rw [if_pos (by omega), if_pos (by omega), e1, e2, ih (n / 128) (by omega) k _ pad (by simp) (by simp; omega) (by omega) (by simp; omega)]
      simp

theorem dgs_length_le (m : Nat) : ∀ n, n < 128 ^ m → (dgs n).length ≤ m := by
  induction m with
  | zero => intro n h; rw [show n = 0 by simpa using h, dgs_zero]; simp
  | succ m ih =>
    intro n h
    by_cases h0 : n = 0
    · rw [h0, dgs_zero]; simp
    · rw [dgs_pos h0, List.length_cons]
      have := ih (n / 128) (by rw [Nat.div_lt_iff_lt_mul (by decide)]; rw [Nat.pow_succ] at h; exact h)
      omega

theorem spec_Unsigned_f (n pad : Nat) (hn : n < 18446744073709551616) (hp : pad ≤ 3) : Ev (fun k => spec_Unsigned.f k (n : Int) (pad : Int)) (ubp n pad) := by
  refine ⟨40, fun k hk => ?_⟩
  have hd := dgs_length_le 10 (n / 128) (Nat.lt_of_le_of_lt (Nat.div_le_self _ _) (Nat.lt_of_lt_of_le hn (by decide)))
  have e1 : IntKind.u64.wrap (Int.tdiv (n : Int) 128) = ((n / 128 : Nat) : Int) := by
    rw [IntKind.wrap_u64, Int.tdiv_eq_ediv_of_nonneg (by omega)]
    omega
  have e2 : (Int.tmod (n : Int) 128) % 256 = ((n % 128 : Nat) : Int) := by
    rw [Int.tmod_eq_emod_of_nonneg (by omega)]
    omega
  show spec_Unsigned.f k (n : Int) (pad : Int) = _
  unfold spec_Unsigned.f
  rw [e1, e2, unsigned_l0 (n / 128) k _ pad (by simp) (by simp; omega) (by omega) (by simp; omega)]
  rfl
def inOrder (big : Bool) (l : List Int) : List Int := if big then l.reverse else l
theorem fixed4 (n : Int) (big : Bool) (k : Nat) : spec_Fixed.f (k + 9) n 4 big = some (inOrder big (le4 n)) := by
  cases big <;> simp [spec_Fixed.f, spec_Fixed.l0, wrap64, inOrder, le4, List.replicate, List.set]
theorem fixed8 (n : Int) (big : Bool) (k : Nat) : spec_Fixed.f (k + 9) n 8 big = some (inOrder big (le8 n)) := by
  cases big <;> simp [spec_Fixed.f, spec_Fixed.l0, wrap64, inOrder, le8, le4, List.replicate, List.set]
theorem fixed2 (n : Int) (big : Bool) (k : Nat) : spec_Fixed.f (k + 9) n 2 big = some (inOrder big [n % 256, n / 256 % 256]) := by
  cases big <;> simp [spec_Fixed.f, spec_Fixed.l0, wrap64, inOrder, List.replicate, List.set]
theorem ev9 {α : Type} {g : Nat → Option α} {r : α} (h : ∀ k, g (k + 9) = some r) : Ev g r := ⟨9, fun k hk => by
  obtain ⟨j, rfl⟩ : ∃ j, k = j + 9 := ⟨k - 9, by omega⟩
  exact h j⟩
theorem spec_Fixed8 (n : Int) (big : Bool) : Ev (fun k => spec_Fixed.f k n 8 big) (inOrder big (le8 n)) := ev9 (fixed8 n big)
theorem spec_Fixed2 (n : Int) (big : Bool) : Ev (fun k => spec_Fixed.f k n 2 big) (inOrder big [n % 256, n / 256 % 256]) := ev9 (fixed2 n big)

theorem named_step (d : Nat) : ∀ (j K : Nat) (x1 : Int) (x2 : List Int) (x3 : ByteArray) (x9 : List Int) (a b c e ob : Int), j + d = 12 → 1 ≤ ob → ob < 256 → x9.length < 100 + j →
    laws_named.l0 (d + K) x1 x2 x3 x9 [0, 1, 1, 1, 1, 0, 0, 0, 1, 0, 0, 1] 12 (j : Int) a b c e ob = laws_named.l0 K x1 x2 x3 (x9 ++ (twelve.take (ob.toNat - 1)).drop j) [0, 1, 1, 1, 1, 0, 0, 0, 1, 0, 0, 1] 12 12 a b c e ob := by
  induction d with
  | zero =>
    intro j K x1 x2 x3 x9 a b c e ob hj _ _ _
    obtain rfl : j = 12 := by omega
    rw [List.drop_of_length_le (by rw [List.length_take]; simp [twelve]; omega), List.append_nil, Nat.zero_add]
    rfl
  | succ d ih =>
    intro j K x1 x2 x3 x9 a b c e ob hj h1 h2 hl
    rw [show d + 1 + K = (d + K) + 1 by omega]
    have hw : wrap64 ((j : Int) + 1) = ((j + 1 : Nat) : Int) := by unfold wrap64; omega
    simp only [laws_named.l0]
    rw [if_pos (by omega), if_pos (by omega), if_pos (by simp; omega), hw]
    by_cases hc : ((j + 1 : Nat) : Int) < ob
    · rw [if_pos hc, if_pos (by omega), ih (j + 1) K _ _ _ _ _ _ _ _ _ (by omega) h1 h2 (by simp; omega)]
      have hd : (twelve.take (ob.toNat - 1)).drop j = rd [0, 1, 1, 1, 1, 0, 0, 0, 1, 0, 0, 1] (j : Int) :: (twelve.take (ob.toNat - 1)).drop (j + 1) := by
        have hlt : j < (twelve.take (ob.toNat - 1)).length := by rw [List.length_take]; simp [twelve]; omega
        rw [List.drop_eq_getElem_cons hlt, List.getElem_take]
        congr 1
        simp [rd, twelve]
        rw [List.getElem?_eq_getElem (by simp; omega)]
        rfl
      rw [hd]
      simp
    · rw [if_neg hc, ih (j + 1) K _ _ _ _ _ _ _ _ _ (by omega) h1 h2 (by omega)]
      rw [List.drop_of_length_le (l := twelve.take (ob.toNat - 1)) (i := j) (by rw [List.length_take]; omega), List.drop_of_length_le (l := twelve.take (ob.toNat - 1)) (i := j + 1) (by rw [List.length_take]; omega)]

theorem named_f {mi mo lb lr ob ad : Int} {prog : List Int} {nm : ByteArray} (h1 : 0 ≤ mi ∧ mi < 256) (h2 : 1 ≤ mo ∧ mo < 256) (h4 : 1 ≤ lr ∧ lr < 256) (h5 : 1 ≤ ob ∧ ob < 256) (hp : prog.length < 1000000000) (hn : nm.size < 1000000000) :
    Ev (fun k => laws_named.f k mi mo lb lr ob ad prog nm) (tableOf (headOf mi mo false lb lr ob (List.replicate (ob.toNat - 13) 0) (bytesOf nm)) (0 :: 9 :: 2 :: (le8 ad ++ (prog ++ [0, 1, 1])))) := by
  refine ⟨40, fun k hk => ?_⟩
  obtain ⟨K, rfl⟩ : ∃ K, k = 12 + (K + 10) := ⟨k - 22, by omega⟩
  unfold laws_named.f
  simp only [Option.bind_some]
  have hs := named_step 12 0 (K + 10) ad prog nm [mi % 256, mo % 256, 0, lb % 256, lr % 256, ob % 256] mi mo lb lr ob rfl h5.1 h5.2 (by simp)
  have e0 : (([0, 1, 1, 1, 1, 0, 0, 0, 1, 0, 0, 1] : List Int).length : Int) = 12 := rfl
  rw [e0]
  rw [show (0 : Int) = ((0 : Nat) : Int) from rfl] at hs ⊢
  rw [hs]
  have hmx : mx (wrap64 (ob - 13)) 0 = ((ob.toNat - 13 : Nat) : Int) := by
    have : wrap64 (ob - 13) = ob - 13 := by unfold wrap64; omega
    rw [this]
    unfold mx
    omega
  have hL := lensOf_length ob.toNat (List.replicate (ob.toNat - 13) 0) (by simp)
  unfold lensOf at hL
  rw [List.length_append, List.length_replicate] at hL
  have hbl := bytesOf_length nm
  have hle : (le4 0).length = 4 := rfl
  have l4 : ∀ n, (le4 n).length = 4 := fun _ => rfl
  have l8 : ∀ n, (le8 n).length = 8 := fun _ => rfl
  have hu : ∀ n : Nat, n < 18446744073709551616 → IntKind.u64.wrap (n : Int) = (n : Int) := fun n h => by rw [IntKind.wrap_u64]; omega
  simp only [laws_named.l0]
  rw [if_neg (by decide), hmx, if_pos (by omega), if_pos (by simp; omega)]
  simp only [Option.bind_some, List.drop_zero]
  rw [if_pos (by simp; omega), if_pos (by simp; omega), if_pos (by simp [hbl]; omega), hu _ (by simp [hbl]; omega), fixed4 _ false K]
  simp only [Option.bind_some]
  rw [if_pos (by simp [inOrder, l4]), if_pos (by simp [inOrder, l4, hbl]; omega), if_pos (by simp [inOrder, l4, hbl]; omega), fixed8 _ false K]
  simp only [Option.bind_some]
  rw [if_pos (by simp [inOrder, l4, l8, hbl]; omega), if_pos (by simp [inOrder, l4, l8, hbl]; omega), if_pos (by simp [inOrder, l4, l8, hbl]; omega), hu _ (by simp [inOrder, l4, l8, hbl]; omega), fixed4 _ false K]
  simp only [Option.bind_some]
  rw [if_pos (by simp [inOrder, l4, l8, hbl]; omega)]
  have m1 : mi % 256 = mi := by omega
  have m2 : mo % 256 = mo := by omega
  have m4 : lr % 256 = lr := by omega
  have m5 : ob % 256 = ob := by omega
  rw [m1, m2, m4, m5]
  simp [tableOf, bodyOf, headOf, lensOf, inOrder]

theorem nexts_f (n : Nat) (h : n < 1000) : laws_nexts.f (n : Int) = some (List.replicate n z67) := by
  unfold laws_nexts.f
  rw [if_pos (by omega), if_pos (by omega)]
  simp
end Go.Proofs.YtnooghnbohjmlaaDoor.PPl

/- laws.rowsOf on a plain table: the rows that the plain machine tells. -/
namespace Go.Proofs.YtnooghnbohjmlaaDoor.PPl
open Go.RowKit Go.Proofs.YtnooghnbohjmlaaDoorW.PrintWords Go.Proofs.YtnooghnbohjmlaaDoorW.PrintLast Go.Proofs.YtnooghnbohjmlaaDoorW.PrintMore Go.Proofs.YtnooghnbohjmlaaDoor.Leb Go.Proofs.YtnooghnbohjmlaaDoor.Line

theorem told_steps {k : K} : ∀ (rows : List Line.Row) (s : St) (l : List Int), Line.Told k s l rows → ∀ p, k.at p = l → Ev (fun m => stepsOf k m (s.on p) (List.replicate (rows.length + 1) z67)) (rows.map (fun r => ansS (some r)) ++ [ansS none])
  | [], s, l, h, p, hp => by
    obtain ⟨s', l', hx⟩ := h
    obtain ⟨p', _, d, hd⟩ := hx p hp
    refine ⟨d, fun m hm => ?_⟩
    show stepsOf k m (s.on p) [z67] = _
    unfold stepsOf
    rw [if_pos (show z67.f0 = 0 from rfl), hd m hm]
    simp [stepsOf]
  | r :: rows, s, l, h, p, hp => by
    obtain ⟨s', l', hx, ht⟩ := h
    obtain ⟨p', hp', d, hd⟩ := hx p hp
    obtain ⟨e, he⟩ := told_steps rows s' l' ht p' hp'
    refine ⟨d + e, fun m hm => ?_⟩
    have h1 := he m (by omega)
    have h2 := hd m (by omega)
    show stepsOf k m (s.on p) (List.replicate (rows.length + 1 + 1) z67) = _
    rw [List.replicate_succ]
    unfold stepsOf
    rw [if_pos (show z67.f0 = 0 from rfl), h2]
    simp only [Option.bind_some]
    have h1' : stepsOf k m (s'.on p') (List.replicate (rows.length + 1) z67) = some (rows.map (fun r => ansS (some r)) ++ [ansS none]) := h1
    rw [h1']
    simp
theorem good_of (rows : List Line.Row) (hes : ∀ i (h : i < rows.length), rows[i].es = decide (i + 1 = rows.length)) : goodRows (rows.map (fun r => ansS (some r)) ++ [ansS none]) 0 rows.length = true := by
  unfold goodRows
  simp only [Bool.and_eq_true, beq_iff_eq, List.all_eq_true, List.mem_range]
  refine ⟨trivial, by simp, ?_, fun i hi => ?_⟩
  · unfold rd_T41
    rw [Int.toNat_natCast, List.getD_eq_getElem?_getD, List.getElem?_append_right (by simp)]
    simp [ansS, codeOr]
  · have e : rd_T41 (rows.map (fun r => ansS (some r)) ++ [ansS none]) (i : Int) = ansS (some rows[i]) := by
      unfold rd_T41
      rw [Int.toNat_natCast, List.getD_eq_getElem?_getD, List.getElem?_append_left (by simpa using hi)]
      simp [hi]
    rw [e]
    refine ⟨rfl, ?_⟩
    rw [← hes i hi]
    rfl
/-- A row, as data. -/
def rowS (r : Line.Row) : S38 := (ansS (some r)).f0
/-- The program of a plain table. -/
def progOf (ad : Int) (prog : List Int) : List Int := 0 :: 9 :: 2 :: (le8 ad ++ (prog ++ [0, 1, 1]))
/-- The file /a. -/
def flA : Fl := ⟨strOf [47, 97], 0, 0⟩
theorem rowsOf_ev {mi mo lb lr ob ad : Int} {prog : List Int} {rows : List Line.Row} (h1 : 0 ≤ mi ∧ mi < 256) (h2 : 1 ≤ mo ∧ mo < 256) (h3 : -128 ≤ lb ∧ lb < 128) (h4 : 1 ≤ lr ∧ lr < 256) (h5 : 1 ≤ ob ∧ ob < 256) (hp : Bytes prog) (hl : prog.length < 1000000)
    (hT : Line.Told (constOf mi mo false lb lr ob (List.replicate (ob.toNat - 13) 0) [47, 97] (progOf ad prog)) (stP flA (row0 flA)) (progOf ad prog) rows) (hn : rows.length < 100) (hes : ∀ i (h : i < rows.length), rows[i].es = decide (i + 1 = rows.length)) :
    Ev (fun k => laws_rowsOf.f k mi mo lb lr ob ad prog (rows.length : Int)) (rows.map rowS, true) := by
  have hP : Bytes (progOf ad prog) := by
    unfold progOf
    exact cons_bytes (by omega) (cons_bytes (by omega) (cons_bytes (by omega) (app_bytes (le8_bytes _) (app_bytes hp (by intro b hb; simp at hb; omega)))))
  have hPl : (progOf ad prog).length = 14 + prog.length := by simp [progOf, le8, le4]; omega
  have hpl : Ev (fun k => laws_plain.f k mi mo lb lr ob ad prog) (tableOf (headOf mi mo false lb lr ob (List.replicate (ob.toNat - 13) 0) [47, 97]) (progOf ad prog)) := by
    have h := named_f (mi := mi) (mo := mo) (lb := lb) (lr := lr) (ob := ob) (ad := ad) (prog := prog) (nm := ⟨#[47, 97]⟩) h1 h2 h4 h5 (by omega) (by decide)
    have e : bytesOf ⟨#[47, 97]⟩ = [47, 97] := by rfl
    rw [e] at h
    exact Ev.bind h (Ev.now _)
  have hnx : laws_nexts.f (wrap64 ((rows.length : Int) + 1)) = some (List.replicate (rows.length + 1) z67) := by
    have e : wrap64 ((rows.length : Int) + 1) = ((rows.length + 1 : Nat) : Int) := by unfold wrap64; omega
    rw [e]
    exact nexts_f _ (by omega)
  have hst := told_steps rows _ _ hT (10 + (headOf mi mo false lb lr ob (List.replicate (ob.toNat - 13) 0) [47, 97]).length) (at_prog ..)
  have hh := hdr_of (mi := mi) (mo := mo) (ds := false) (lb := lb) (lr := lr) (ob := ob) (more := List.replicate (ob.toNat - 13) 0) (nm := [47, 97]) (prog := progOf ad prog) h1 h2 h3 h4 h5 (by simp) (by intro b hb; obtain ⟨_, rfl⟩ := List.mem_replicate.1 hb; omega) rfl (by intro x hx; simp at hx; omega) (by intro x hx; simp at hx; omega) hP (by simp; omega)
  have hls : Ev (fun k => impl_LineSteps.f k (tableOf (headOf mi mo false lb lr ob (List.replicate (ob.toNat - 13) 0) [47, 97]) (progOf ad prog)) ([] : List Int) 0 8 false (⟨#[]⟩ : ByteArray) (List.replicate (rows.length + 1) z67)) (rows.map (fun r => ansS (some r)) ++ [ansS none], 0) := by
    have hlen : (tableOf (headOf mi mo false lb lr ob (List.replicate (ob.toNat - 13) 0) [47, 97]) (progOf ad prog)).length < 140737488355328 := by
      rw [tableOf_length, headOf_length, lensOf_length _ _ (by simp), hPl]
      simp
      omega
    refine Ev.congr (f := fun k => (stepsOf (constOf mi mo false lb lr ob (List.replicate (ob.toNat - 13) 0) [47, 97] (progOf ad prog)) k ((stP flA (row0 flA)).on (10 + (headOf mi mo false lb lr ob (List.replicate (ob.toNat - 13) 0) [47, 97]).length)) (List.replicate (rows.length + 1) z67)).bind fun l => some (l, 0)) (fun k => ?_) (Ev.bind hst (Ev.now _))
    unfold impl_LineSteps.f
    rw [if_pos ⟨by omega, hlen, by simp, by decide, by simp; omega⟩]
    have e0 : (0 : Int).toNat = 0 := rfl
    have eb : (⟨#[]⟩ : ByteArray) = ByteArray.empty := rfl
    rw [e0, eb, hh]
    simp only [Option.bind_some]
    rw [reset_first]
    rfl
  have hg := good_of rows hes
  refine Ev.congr (f := fun k => (laws_plain.f k mi mo lb lr ob ad prog).bind fun t => (laws_nexts.f (wrap64 ((rows.length : Int) + 1))).bind fun st => (impl_LineSteps.f k t ([] : List Int) 0 8 false (⟨#[]⟩ : ByteArray) st).bind fun bt => if goodRows bt.1 bt.2 rows.length = true then some ((bt.1.take rows.length).map (·.f0), true) else none) (fun k => ?_) ?_
  · unfold laws_rowsOf.f
    rw [if_pos ⟨by omega, by omega⟩, Int.toNat_natCast]
  · refine Ev.bind hpl ?_
    refine Ev.congr (f := fun k => (impl_LineSteps.f k (tableOf (headOf mi mo false lb lr ob (List.replicate (ob.toNat - 13) 0) [47, 97]) (progOf ad prog)) ([] : List Int) 0 8 false (⟨#[]⟩ : ByteArray) (List.replicate (rows.length + 1) z67)).bind fun bt => if goodRows bt.1 bt.2 rows.length = true then some ((bt.1.take rows.length).map (·.f0), true) else none) (fun k => ?_) (Ev.bind hls ?_)
    · rw [hnx]
      rfl
    · refine Ev.congr (f := fun _ => some (rows.map rowS, true)) (fun k => ?_) (Ev.now _)
      simp only
      rw [if_pos hg]
      congr 2
      rw [List.take_left' (by simp), List.map_map]
      rfl
end Go.Proofs.YtnooghnbohjmlaaDoor.PPl

/- The package's variables that the rows list as laid, as the walks want them. -/
namespace Go.Proofs.YtnooghnbohjmlaaDoor.Laid
set_option maxRecDepth 100000
open Go.ChangeShapes Go.WideShapes Go.ChangeAt Go.WideMaps Go.WideElems Go.RowKit Go.Proofs.YtnooghnbohjmlaaDoor.PPl Go.Proofs.YtnooghnbohjmlaaDoor.Line

/-- What a reading of the map tells. -/
def told : DataW Unit → Option (Option Int)
  | .lit (.int .i64 n) => some (some n)
  | .nil => some none
  | _ => none
theorem told_known : ((List.range 256).all fun i => told ((Rows.laid_loop_example_pub_g03025_pub_dwarf_knownOpcodeLengths (H := Unit)).atKey (.int .i64 (i : Int)) .nil) == some (known i)) = true := by kernel_rfl
theorem row_ptr (u : TypeId) (h : Tryd.prog.typeName? 3 u = some "*errors.errorString") : u = 175 := by
  have star : "*" ++ "errors.errorString" = "*errors.errorString" := by decide
  exact typeName_ptr_named (nm := "errors.errorString") (by rw [star]; kernel_rfl) (by kernel_rfl) (by decide) u (by rw [star]; exact h)
theorem glob_of {W : World} (h : laidMetH Tryd.prog Rows.fnLineSetRow.laid W) : Glob W := by
  rw [MakeChecks.laidMetH_plain _ _ _ (by kernel_rfl)] at h
  have h1 := laidMet.tail h
  obtain ⟨ea, s, hv, _, _, _⟩ := laid_sentinel h1 (show Tryd.prog.globalNamed "io.EOF" = some 0 by kernel_rfl) (show (Tryd.prog.globals[0]?).map (·.type) = some 61 by kernel_rfl) Tryd.underlying61 row_ptr Tryd.underlying175 Tryd.underlying213 rfl rfl Tryd.underlying9 (by kernel_rfl) (by kernel_rfl)
  have hE : W.cell? ⟨0, 0, none⟩ = some (.iface 175 (.pointer (some ea))) := by
    have := World.var?_cell (show Tryd.prog.globalNamed "io.EOF" = some 0 by kernel_rfl) hv 0
    simpa using this
  have h4 := laidMet.tail (laidMet.tail (laidMet.tail h1))
  obtain ⟨ps, ⟨g0, t0, cs0, f0, p0, q0, hg0, ht0, hv0, hd0, _, _⟩, _, _⟩ := h4
  have gK : Tryd.prog.globalNamed "loop.example/pub-g03025/pub/dwarf.knownOpcodeLengths" = some 2 := by kernel_rfl
  have tK : (Tryd.prog.globals[2]?).map (·.type) = some 119 := by kernel_rfl
  obtain rfl := Option.some.inj (gK.symm.trans hg0)
  obtain rfl := Option.some.inj (tK.symm.trans ht0)
  rcases open_map Tryd.underlying119 hd0 with ⟨_, hx⟩ | ⟨bm, es, clock, m, rfl, hcs, hb, _, F, hx⟩
  · simp [Rows.laid_loop_example_pub_g03025_pub_dwarf_knownOpcodeLengths] at hx
  simp only [Prod.mk.injEq] at hx
  have hcell : W.cell? ⟨2, 0, none⟩ = some (.map (some bm)) := by
    have := World.var?_cell hg0 hv0 0
    rw [Array.eq_one_of_toList hcs] at this
    simpa using this
  refine ⟨bm, ea, ⟨hcell, (Array.getElem?_eq_some_iff.1 hb).1, fun w' hw i hi => ?_⟩, World.block_lt_of_cell? W _ hcell, hE⟩
  have zero : (zeroValue 3).run Tryd.prog w' = .ok (.int .i64 0) w' := by kernel_rfl
  have hk := List.all_eq_true.1 told_known i (List.mem_range.2 hi)
  rw [beq_iff_eq] at hk
  rcases Maps.fit_look (w := w') true (Maps.int_keyed Tryd.underlying3) Tryd.underlying119 zero (hw.trans hb) F (Maps.keyOf_int_mk (a := (i : Int)) Tryd.underlying3 (by simp [Lit.wf, IntKind.min, IntKind.max, IntKind.bits, IntKind.signed]; omega)) with ⟨hrun, _, hat⟩ | ⟨e0, y, _, _, hrun, hRv, hat, _⟩
  · have := hat .nil
    rw [← hx.1] at this
    rw [this] at hk
    have hn : known i = none := by
      have h2 : some (none : Option Int) = some (known i) := hk
      exact (Option.some.inj h2).symm
    rw [hn]
    exact hrun
  · obtain ⟨r, hr, rfl, _⟩ := elemAt_int Tryd.underlying3 hRv
    have := hat .nil
    rw [← hx.1] at this
    rw [this] at hk
    have hn : known i = some r := by
      have h2 : some (some r) = some (known i) := hk
      exact (Option.some.inj h2).symm
    rw [hn]
    rw [hr] at hrun
    exact hrun
end Go.Proofs.YtnooghnbohjmlaaDoor.Laid

/- A world in which the listed variables are laid. -/
namespace Go.Proofs.YtnooghnbohjmlaaDoor.Laid
set_option maxRecDepth 100000
open Go.ChangeShapes Go.WideShapes Go.ChangeAt Go.RowKit

/-- The map's block. -/
def mapObj : Obj := .map #[⟨.int .i64 1, .int .i64 0, 0⟩, ⟨.int .i64 2, .int .i64 1, 1⟩, ⟨.int .i64 3, .int .i64 1, 2⟩, ⟨.int .i64 4, .int .i64 1, 3⟩, ⟨.int .i64 6, .int .i64 0, 4⟩, ⟨.int .i64 7, .int .i64 0, 5⟩, ⟨.int .i64 8, .int .i64 0, 6⟩, ⟨.int .i64 10, .int .i64 0, 7⟩, ⟨.int .i64 11, .int .i64 0, 8⟩, ⟨.int .i64 12, .int .i64 1, 9⟩] 10
/-- How many blocks there are at first. -/
noncomputable def size0 : Nat := (begin Tryd.prog (fun _ _ => 0) default).world.heap.size
noncomputable def mapWorld (os : Os) : World := (World.holding Tryd.prog os ⟨#[mapObj], #[], []⟩).setCell ⟨2, 0, none⟩ (.map (some size0))
/-- The variables that are laid by the function. -/
def great : List String := ["unicode/utf8.acceptRanges", "io.EOF", "unicode.asciiFold", "unicode.caseOrbit", "loop.example/pub-g03025/pub/dwarf.ErrUnknownPC", "unicode.CaseRanges", "unicode/utf8.first"]
noncomputable def wit (os : Os) : World := (mapWorld os).layVars Tryd.prog (Rows.fnLineSetRow.laid.filter fun x => great.contains x.1)
theorem wit_os (os : Os) : (wit os).os = os := World.layVars_os _ _ _
theorem wit_met (os : Os) (args : Array Value) : laidMetH Tryd.prog Rows.fnLineSetRow.laid ((wit os).forCall (fun _ _ => 0) ⟨#[], args, []⟩).memory := by
  rw [MakeChecks.laidMetH_plain _ _ _ (by kernel_rfl)]
  have h : laidMet Tryd.prog Rows.fnLineSetRow.laid (wit os) := laidMet_layVars (w0 := mapWorld os) great [2, size0] rfl (by kernel_rfl) (by kernel_rfl) (LaidIn.of_run _ 8 (by kernel_rfl) (by kernel_rfl) (by kernel_rfl) (by kernel_rfl))
  exact h.of_heap (by simp [World.memory, World.forCall, Input.heap])
theorem wit_shaped (os : Os) (args : Array Value) : ((wit os).forCall (fun _ _ => 0) ⟨#[], args, []⟩).Shaped Tryd.prog := World.shaped_of_ZipB (by kernel_rfl) (by kernel_rfl)
end Go.Proofs.YtnooghnbohjmlaaDoor.Laid
