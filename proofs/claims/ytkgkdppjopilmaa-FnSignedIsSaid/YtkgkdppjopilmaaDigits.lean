import Derived.Test.YtkgkdppjopilmaaVread
/- Plain facts on digits to the base 128, and on the numbers that they tell; no Go in sight. -/
namespace Go.Proofs.Ytkgkdppjopilmaa.Leb
open Go

def Dig (l : List Int) : Prop := ∀ d ∈ l, 0 ≤ d ∧ d < 128
/-- The number that digits tell. -/
def dval : List Int → Nat
  | [] => 0
  | d :: r => d.toNat + 128 * dval r
/-- The signed number that digits tell. -/
def sd : List Int → Int
  | [] => 0
  | [d] => if 64 ≤ d then d - 128 else d
  | d :: e :: r => d + 128 * sd (e :: r)

theorem uread_carr : ∀ (ds rest : List Int), ds ≠ [] → Dig ds → uread (carr ds ++ rest) = some (dval ds, ds.length)
  | [], _, h, _ => absurd rfl h
  | [d], rest, _, hd => by
    have := hd d (by simp)
    simp only [carr, List.cons_append, List.nil_append, uread]
    rw [if_pos this.2]
    simp [dval]
  | d :: e :: r, rest, _, hd => by
    have h0 := hd d (by simp)
    have ih := uread_carr (e :: r) rest (by simp) (fun x hx => hd x (by simp [List.mem_cons] at hx ⊢; right; exact hx))
    rw [carr, or128_int d h0.1 h0.2, List.cons_append, uread, if_neg (by omega), ih]
    simp only [Option.map_some, dval, List.length_cons]
    congr 2
    omega

theorem dval_lt : ∀ (ds : List Int), Dig ds → dval ds < 128 ^ ds.length
  | [], _ => by simp [dval]
  | d :: r, hd => by
    have h := dval_lt r (fun x hx => hd x (by simp [hx]))
    have h0 := hd d (by simp)
    rw [dval, List.length_cons, Nat.pow_succ]
    omega

/-- The sign of digits: the last one has 64. -/
theorem dval_sign : ∀ (ds : List Int), ds ≠ [] → Dig ds → ∃ s : Nat, s < 2 ∧ dval ds / 2 ^ (7 * ds.length - 1) = s ∧ (dval ds : Int) = sd ds + (s * 128 ^ ds.length : Nat)
  | [], h, _ => absurd rfl h
  | [d], _, hd => by
    have h0 := hd d (by simp)
    by_cases h : 64 ≤ d
    · refine ⟨1, by decide, ?_, ?_⟩
      · simp [dval]; omega
      · simp [dval, sd, h]; omega
    · refine ⟨0, by decide, ?_, ?_⟩
      · simp [dval]; omega
      · simp [dval, sd, h]; omega
  | d :: e :: r, _, hd => by
    have h0 := hd d (by simp)
    obtain ⟨s, hs, h1, h2⟩ := dval_sign (e :: r) (by simp) (fun x hx => hd x (by simp [List.mem_cons] at hx ⊢; right; exact hx))
    refine ⟨s, hs, ?_, ?_⟩
    · rw [dval, show 7 * (d :: e :: r).length - 1 = 7 + (7 * (e :: r).length - 1) by simp [List.length_cons]; omega, Nat.pow_add, ← Nat.div_div_eq_div_mul]
      rw [show (d.toNat + 128 * dval (e :: r)) / 2 ^ 7 = dval (e :: r) by omega, h1]
    · rw [dval, sd, show (d :: e :: r).length = (e :: r).length + 1 from rfl, Nat.pow_succ, ← Nat.mul_assoc]
      generalize dval (e :: r) = D at *
      generalize s * 128 ^ (e :: r).length = E at *
      omega

theorem sd_range (ds : List Int) (h : ds ≠ []) (hd : Dig ds) (h9 : ds.length ≤ 9) : -9223372036854775808 ≤ sd ds ∧ sd ds < 9223372036854775808 := by
  obtain ⟨s, hs, h1, h2⟩ := dval_sign ds h hd
  have hl := dval_lt ds hd
  have hp : (128 : Nat) ^ ds.length ≤ 128 ^ 9 := Nat.pow_le_pow_right (by decide) h9
  have h9' : (128 : Nat) ^ 9 = 9223372036854775808 := rfl
  have hss : s = 0 ∨ s = 1 := by omega
  rcases hss with rfl | rfl
  · simp at h2
    omega
  · rw [Nat.one_mul] at h2
    omega

/-- The signed number is what the digits tell, in 64 bits. -/
theorem sval_dval (ds : List Int) (h : ds ≠ []) (hd : Dig ds) : sval (dval ds) ds.length = IntKind.i64.wrap (sd ds) := by
  obtain ⟨s, hs, h1, h2⟩ := dval_sign ds h hd
  unfold sval
  have e128 : (2 : Nat) ^ (7 * ds.length) = 128 ^ ds.length := by rw [Nat.pow_mul]
  by_cases h9 : ds.length ≤ 9
  · have hr := sd_range ds h hd h9
    have hw : IntKind.i64.wrap (sd ds) = sd ds := by rw [IntKind.wrap_i64]; omega
    rw [if_pos h9, h1, e128, hw]
    have hss : s = 0 ∨ s = 1 := by omega
    rcases hss with rfl | rfl
    · rw [if_neg (by decide)]; simpa using h2
    · rw [if_pos (by decide), h2, Nat.one_mul]; omega
  · rw [if_neg h9, h2]
    obtain ⟨m, hm⟩ : ∃ m, s * 128 ^ ds.length = 18446744073709551616 * m := by
      refine ⟨s * (64 * 128 ^ (ds.length - 10)), ?_⟩
      rw [show ds.length = 10 + (ds.length - 10) by omega, Nat.pow_add, show (128 : Nat) ^ 10 = 18446744073709551616 * 64 from rfl, show 10 + (ds.length - 10) - 10 = ds.length - 10 by omega]
      rw [Nat.mul_assoc, Nat.mul_left_comm]
    rw [hm, IntKind.wrap_i64, IntKind.wrap_i64]
    omega

theorem dgs_dig (n : Nat) : Dig (dgs n) := by
  induction n using Nat.strongRecOn with
  | _ n ih =>
    intro d hd
    by_cases h : n = 0
    · rw [h, dgs_zero] at hd; simp at hd
    · rw [dgs_pos h] at hd
      rcases List.mem_cons.1 hd with rfl | hd
      · omega
      · exact ih (n / 128) (by omega) d hd
theorem dval_zeros (m : Nat) : dval (List.replicate m 0) = 0 := by
  induction m with
  | zero => rfl
  | succ m ih => rw [List.replicate_succ, dval, ih]; rfl
theorem dval_dgs (n m : Nat) : dval (dgs n ++ List.replicate m 0) = n := by
  induction n using Nat.strongRecOn with
  | _ n ih =>
    by_cases h : n = 0
    · rw [h, dgs_zero, List.nil_append, dval_zeros]
    · rw [dgs_pos h, List.cons_append, dval, ih (n / 128) (by omega)]
      omega
/-- The digits of a number, with m noughts. -/
def udig (n m : Nat) : List Int := ((n % 128 : Nat) : Int) :: (dgs (n / 128) ++ List.replicate m 0)
theorem udig_dig (n m : Nat) : Dig (udig n m) := by
  intro d hd
  rcases List.mem_cons.1 hd with rfl | hd
  · omega
  · rcases List.mem_append.1 hd with hd | hd
    · exact dgs_dig _ d hd
    · obtain ⟨_, rfl⟩ := List.mem_replicate.1 hd
      omega
theorem dval_udig (n m : Nat) : dval (udig n m) = n := by
  rw [udig, dval, dval_dgs]
  omega

/-- What fills a signed number up. -/
def fill (n : Int) : Int := if n < 0 then 127 else 0
theorem sd_zeros (m : Nat) (d : Int) (h : d < 64) : sd (d :: List.replicate m 0) = d := by
  induction m generalizing d with
  | zero => simp [sd]; omega
  | succ m ih => rw [List.replicate_succ, sd, ih 0 (by decide)]; omega
theorem sd_ones (m : Nat) (d : Int) (h : 64 ≤ d) : sd (d :: List.replicate m 127) = d - 128 := by
  induction m generalizing d with
  | zero => simp [sd, h]
  | succ m ih => rw [List.replicate_succ, sd, ih 127 (by decide)]; omega
/-- The digits of a signed number, with m more than it needs. -/
def sdig (n : Int) (m : Nat) : List Int := n % 128 :: (sdg (n / 128) (n % 128) ++ List.replicate m (fill n))
theorem sd_sdg (k : Nat) : ∀ (n d : Int) (m : Nat), (sdg n d).length = k → 0 ≤ d ∧ d < 128 → sd (d :: (sdg n d ++ List.replicate m (fill n))) = d + 128 * n := by
  induction k with
  | zero =>
    intro n d m hk hd
    by_cases he : sEnd n d = true
    · rw [sdg_nil he, List.nil_append]
      rw [sEnd_iff] at he
      rcases he with ⟨rfl, h⟩ | ⟨rfl, h⟩
      · rw [show fill 0 = 0 from rfl, sd_zeros m d h]; omega
      · rw [show fill (-1) = 127 from rfl, sd_ones m d h]; omega
    · rw [sdg_cons he] at hk; simp at hk
  | succ k ih =>
    intro n d m hk hd
    by_cases he : sEnd n d = true
    · rw [sdg_nil he] at hk; simp at hk
    · rw [sdg_cons he, List.length_cons] at hk
      have e : fill n = fill (n / 128) := by unfold fill; by_cases h : n < 0 <;> simp [h] <;> omega
      rw [sdg_cons he, List.cons_append, sd, e, ih (n / 128) (n % 128) m (by omega) (by omega)]
      omega
theorem sd_sdig (n : Int) (m : Nat) : sd (sdig n m) = n := by
  have e : fill n = fill (n / 128) := by unfold fill; by_cases h : n < 0 <;> simp [h] <;> omega
  rw [sdig, e, sd_sdg _ (n / 128) (n % 128) m rfl (by omega)]
  omega
theorem sdg_dig (k : Nat) : ∀ (n d : Int), (sdg n d).length = k → Dig (sdg n d) := by
  induction k with
  | zero => intro n d hk x hx; rw [List.length_eq_zero_iff] at hk; rw [hk] at hx; simp at hx
  | succ k ih =>
    intro n d hk x hx
    by_cases he : sEnd n d = true
    · rw [sdg_nil he] at hk; simp at hk
    · rw [sdg_cons he] at hk hx
      rcases List.mem_cons.1 hx with rfl | hx
      · omega
      · exact ih (n / 128) (n % 128) (by simpa using hk) x hx
theorem sdig_dig (n : Int) (m : Nat) : Dig (sdig n m) := by
  intro d hd
  rcases List.mem_cons.1 hd with rfl | hd
  · omega
  · rcases List.mem_append.1 hd with hd | hd
    · exact sdg_dig _ _ _ rfl d hd
    · obtain ⟨_, rfl⟩ := List.mem_replicate.1 hd
      unfold fill
      split <;> omega
/-- Bytes of digits. -/
theorem carr_bytes : ∀ (ds : List Int), Dig ds → Bytes (carr ds)
  | [], _ => by intro b hb; simp [carr] at hb
  | [d], hd => by intro b hb; simp [carr] at hb; subst hb; have := hd b (by simp); omega
  | d :: e :: r, hd => by
    intro b hb
    have h0 := hd d (by simp)
    rw [carr, or128_int d h0.1 h0.2] at hb
    rcases List.mem_cons.1 hb with rfl | hb
    · omega
    · exact carr_bytes (e :: r) (fun x hx => hd x (by simp [List.mem_cons] at hx ⊢; right; exact hx)) b hb
theorem ub_carr (n : Nat) : ub n = carr (udig n 0) := by rw [udig, List.replicate_zero, List.append_nil, carr_dgs]
theorem sb_carr (n : Int) : sb n = carr (sdig n 0) := by rw [sdig, List.replicate_zero, List.append_nil, carr_sdg _ n rfl]
theorem uread_ub (n : Nat) (rest : List Int) : uread (ub n ++ rest) = some (n, (ub n).length) := by
  rw [ub_carr, uread_carr _ _ (by simp [udig]) (udig_dig n 0), dval_udig, carr_length]
theorem uread_sb (n : Int) (rest : List Int) : ∃ v, uread (sb n ++ rest) = some (v, (sb n).length) ∧ sval v (sb n).length = IntKind.i64.wrap n := by
  refine ⟨dval (sdig n 0), ?_, ?_⟩
  · rw [sb_carr, uread_carr _ _ (by simp [sdig]) (sdig_dig n 0), carr_length]
  · rw [sb_carr, carr_length, sval_dval _ (by simp [sdig]) (sdig_dig n 0), sd_sdig]
end Go.Proofs.Ytkgkdppjopilmaa.Leb
