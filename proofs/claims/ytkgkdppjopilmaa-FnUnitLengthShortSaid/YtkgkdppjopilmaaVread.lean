import Derived.Laws.BitsAllLaws
import Derived.Laws.Bits128
import Derived.WalkKit
import Derived.Test.YtkgkdppjopilmaaLeb
/- Plain facts on reading LEB128: the number that bytes tell, and how many of them; no Go in sight. -/
namespace Go.Proofs.Ytkgkdppjopilmaa.Leb
open Go

/-- The number that bytes tell, and how many they are: up to the first below 128. -/
def uread : List Int → Option (Nat × Nat)
  | [] => none
  | b :: r => if b < 128 then some (b.toNat, 1) else (uread r).map fun p => ((b - 128).toNat + 128 * p.1, p.2 + 1)

def Bytes (l : List Int) : Prop := ∀ b ∈ l, 0 ≤ b ∧ b < 256
theorem Bytes.drop {l : List Int} (h : Bytes l) (n : Nat) : Bytes (l.drop n) := fun b hb => h b (List.mem_of_mem_drop hb)
theorem Bytes.take {l : List Int} (h : Bytes l) (n : Nat) : Bytes (l.take n) := fun b hb => h b (List.mem_of_mem_take hb)

theorem uread_count : ∀ {l : List Int} {v n : Nat}, uread l = some (v, n) → 0 < n ∧ n ≤ l.length
  | [], _, _, h => by simp [uread] at h
  | b :: r, v, n, h => by
    unfold uread at h
    split at h
    · simp at h; simp; omega
    · cases hr : uread r with
      | none => rw [hr] at h; simp at h
      | some p =>
        rw [hr] at h
        have := uread_count (l := r) (v := p.1) (n := p.2) hr
        simp at h; simp; omega

/-- Low bits and a number above them: 'or' adds them up, and what is too high is lost. -/
theorem or_shl_u64 (c b s : Nat) (hc : c < 2 ^ s) :
    Go.bits .or .u64 ((c % 18446744073709551616 : Nat) : Int) ((b * 2 ^ s % 18446744073709551616 : Nat) : Int) = (((c + b * 2 ^ s) % 18446744073709551616 : Nat) : Int) := by
  rw [u64_or_nat _ _ (Nat.mod_lt _ (by decide)) (Nat.mod_lt _ (by decide))]
  congr 1
  rw [show (18446744073709551616 : Nat) = 2 ^ 64 from rfl]
  rcases Nat.lt_or_ge s 64 with h | h
  · have h1 : c < 2 ^ 64 := Nat.lt_trans hc (Nat.pow_lt_pow_right (by decide) h)
    have e64 : (2 : Nat) ^ 64 = 2 ^ s * 2 ^ (64 - s) := by rw [← Nat.pow_add]; congr 1; omega
    have e : b * 2 ^ s % 2 ^ 64 = 2 ^ s * (b % 2 ^ (64 - s)) := by rw [Nat.mul_comm b, e64, Nat.mul_mod_mul_left]
    have hx : b % 2 ^ (64 - s) < 2 ^ (64 - s) := Nat.mod_lt _ (Nat.pow_pos (by decide))
    have hsum : 2 ^ s * (b % 2 ^ (64 - s)) + c < 2 ^ 64 := by
      have : 2 ^ s * (b % 2 ^ (64 - s) + 1) ≤ 2 ^ s * 2 ^ (64 - s) := Nat.mul_le_mul_left _ hx
      rw [Nat.mul_add, Nat.mul_one, ← e64] at this
      omega
    rw [Nat.mod_eq_of_lt h1, e, Nat.or_comm, ← Nat.two_pow_add_eq_or_of_lt hc, ← Nat.mod_eq_of_lt hsum, ← e, Nat.add_comm]
    rw [Nat.add_mod, Nat.mod_mod, ← Nat.add_mod]
  · obtain ⟨d, rfl⟩ := Nat.exists_eq_add_of_le h
    have e : b * 2 ^ (64 + d) % 2 ^ 64 = 0 := by rw [Nat.pow_add, ← Nat.mul_assoc, Nat.mul_right_comm]; exact Nat.mul_mod_left _ _
    rw [e, Nat.or_zero, Nat.add_mod, e, Nat.add_zero, Nat.mod_mod]

theorem shl_u64 (x s : Nat) : IntKind.u64.wrap ((x : Int) * 2 ^ min s 64) = ((x * 2 ^ s % 18446744073709551616 : Nat) : Int) := by
  have e : x * 2 ^ min s 64 % 18446744073709551616 = x * 2 ^ s % 18446744073709551616 := by
    rcases Nat.le_total s 64 with h | h
    · rw [Nat.min_eq_left h]
    · rw [Nat.min_eq_right h]
      obtain ⟨d, rfl⟩ := Nat.exists_eq_add_of_le h
      rw [show (18446744073709551616 : Nat) = 2 ^ 64 from rfl, Nat.pow_add, ← Nat.mul_assoc, Nat.mul_right_comm]
      rw [Nat.mul_mod_left, Nat.mul_mod_left]
  rw [← e]
  have h : ((x : Int) * 2 ^ min s 64) = ((x * 2 ^ min s 64 : Nat) : Int) := by push_cast; rfl
  rw [h]
  simp [IntKind.wrap, IntKind.signed, IntKind.bits]

/-- What the bytes ahead of place i tell. -/
def low : List Int → Nat → Nat
  | _, 0 => 0
  | [], _ + 1 => 0
  | b :: r, n + 1 => (b % 128).toNat + 128 * low r n
theorem low_lt : ∀ (l : List Int) (n : Nat), low l n < 128 ^ n
  | _, 0 => by simp [low]
  | [], n + 1 => by simp only [low]; exact Nat.pow_pos (by decide)
  | b :: r, n + 1 => by
    have h := low_lt r n
    have : (b % 128).toNat < 128 := by omega
    simp only [low, Nat.pow_succ]
    omega
theorem low_step : ∀ (l : List Int) (n : Nat) (h : n < l.length), low l (n + 1) = low l n + (l[n] % 128).toNat * 128 ^ n
  | [], _, h => by simp at h
  | b :: r, 0, _ => by simp [low]
  | b :: r, n + 1, h => by
    have hlt : n < r.length := by simpa using h
    have hs := low_step r n hlt
    rw [low, hs]
    simp only [low, List.getElem_cons_succ, Nat.pow_succ]
    rw [Nat.mul_add, Nat.mul_comm (128 ^ n) 128, ← Nat.mul_assoc, ← Nat.mul_assoc, Nat.mul_comm 128 (r[n] % 128).toNat, Nat.add_assoc]
/-- The first byte below 128 stands at place n. -/
theorem uread_at : ∀ (l : List Int) (n : Nat) (h : n < l.length), Bytes l → (∀ j (hj : j < n), 128 ≤ l[j]) → l[n] < 128 → uread l = some (low l (n + 1), n + 1)
  | [], _, h, _, _, _ => by simp at h
  | b :: r, 0, _, hb, _, hn => by
    have := hb b (by simp)
    simp only [List.getElem_cons_zero] at hn
    rw [uread, if_pos hn]
    simp [low]; omega
  | b :: r, n + 1, h, hb, hj, hn => by
    have h0 := hj 0 (by omega)
    have hb0 := hb b (by simp)
    simp only [List.getElem_cons_zero] at h0
    have ih := uread_at r n (by simpa using h) (fun x hx => hb x (by simp [hx])) (fun j hj' => by have := hj (j + 1) (by omega); simpa using this) (by simpa using hn)
    rw [uread, if_neg (by omega), ih]
    simp [low]; omega
theorem uread_none : ∀ (l : List Int), (∀ j (hj : j < l.length), 128 ≤ l[j]) → uread l = none
  | [], _ => rfl
  | b :: r, h => by
    have h0 := h 0 (by simp)
    simp only [List.getElem_cons_zero] at h0
    rw [uread, if_neg (by omega), uread_none r (fun j hj => by have := h (j + 1) (by simpa using hj); simpa using this)]
    rfl

theorem uread_lt : ∀ {l : List Int} {v n : Nat}, Bytes l → uread l = some (v, n) → v < 128 ^ n
  | [], _, _, _, h => by simp [uread] at h
  | b :: r, v, n, hb, h => by
    unfold uread at h
    split at h
    · simp at h; have := hb b (by simp); obtain ⟨rfl, rfl⟩ := h; simp; omega
    · cases hr : uread r with
      | none => rw [hr] at h; simp at h
      | some p =>
        rw [hr] at h
        have h1 := uread_lt (l := r) (v := p.1) (n := p.2) (fun x hx => hb x (by simp [hx])) hr
        have h2 := hb b (by simp)
        simp at h
        obtain ⟨rfl, rfl⟩ := h
        rw [Nat.pow_succ]
        omega

theorem i64_pat (x : Int) : ((BitVec.ofInt 64 x).toNat : Int) = x % 18446744073709551616 := by
  rw [BitVec.toNat_ofInt, Int.toNat_of_nonneg (Int.emod_nonneg _ (by decide))]
  rfl
theorem i64_pat_nat (v : Nat) (h : v < 18446744073709551616) : (BitVec.ofInt 64 (v : Int)).toNat = v := by
  have := i64_pat (v : Int)
  omega
/-- Is bit s set? -/
theorem and_bit_i64 (v s : Nat) (hv : v < 9223372036854775808) (hs : s < 63) : Go.bits .and .i64 (v : Int) ((2 ^ s : Nat) : Int) = ((v / 2 ^ s % 2 * 2 ^ s : Nat) : Int) := by
  have hp : (2 : Nat) ^ s < 2 ^ 63 := Nat.pow_lt_pow_right (by decide) hs
  have hp' : (2 : Nat) ^ s < 9223372036854775808 := hp
  show IntKind.i64.wrap ((BitVec.ofInt 64 (v : Int) &&& BitVec.ofInt 64 ((2 ^ s : Nat) : Int)).toNat : Int) = _
  rw [BitVec.toNat_and, i64_pat_nat _ (by omega), i64_pat_nat (2 ^ s) (Nat.lt_trans hp' (by decide)), nat_bit s, IntKind.wrap_i64]
  have h4 : v / 2 ^ s % 2 = 0 ∨ v / 2 ^ s % 2 = 1 := by omega
  rcases h4 with h4 | h4 <;> rw [h4] <;> omega
/-- A sign is set above the bits. -/
theorem or_sign_i64 (v s : Nat) (hv : v < 2 ^ s) (hs : s ≤ 63) : Go.bits .or .i64 (v : Int) (-((2 ^ s : Nat) : Int)) = (v : Int) - ((2 ^ s : Nat) : Int) := by
  have hp : (2 : Nat) ^ s ≤ 2 ^ 63 := Nat.pow_le_pow_right (by decide) hs
  have hp' : (2 : Nat) ^ s ≤ 9223372036854775808 := hp
  have e64 : (18446744073709551616 : Nat) = 2 ^ s * 2 ^ (64 - s) := by rw [← Nat.pow_add, show s + (64 - s) = 64 by omega]
  have e1 : (BitVec.ofInt 64 (-((2 ^ s : Nat) : Int))).toNat = 2 ^ s * (2 ^ (64 - s) - 1) := by
    have h1 := i64_pat (-((2 ^ s : Nat) : Int))
    have h2 : 2 ^ s * (2 ^ (64 - s) - 1) = 18446744073709551616 - 2 ^ s := by rw [Nat.mul_sub, Nat.mul_one, ← e64]
    have hpos : 0 < 2 ^ s := Nat.pow_pos (by decide)
    rw [h2]
    omega
  show IntKind.i64.wrap ((BitVec.ofInt 64 (v : Int) ||| BitVec.ofInt 64 (-((2 ^ s : Nat) : Int))).toNat : Int) = _
  rw [BitVec.toNat_or, i64_pat_nat _ (by omega), e1, Nat.or_comm, ← Nat.two_pow_add_eq_or_of_lt hv, IntKind.wrap_i64, Nat.mul_sub, Nat.mul_one, ← e64]
  have hpos : 0 < 2 ^ s := Nat.pow_pos (by decide)
  omega
theorem and_zero_i64 (x : Int) : Go.bits .and .i64 x 0 = 0 := by
  show IntKind.i64.wrap ((BitVec.ofInt 64 x &&& BitVec.ofInt 64 0).toNat : Int) = _
  simp [IntKind.wrap_i64]
/-- A shift of one, and of minus one. -/
theorem shl_one_i64 (s : Nat) (hs : s < 63) : IntKind.i64.wrap ((1 : Int) * 2 ^ min s 64) = ((2 ^ s : Nat) : Int) := by
  have hp : (2 : Nat) ^ s < 2 ^ 63 := Nat.pow_lt_pow_right (by decide) hs
  have hp' : (2 : Nat) ^ s < 9223372036854775808 := hp
  rw [Nat.min_eq_left (by omega), IntKind.wrap_i64, Int.one_mul, show ((2 : Int) ^ s) = ((2 ^ s : Nat) : Int) by push_cast; rfl]
  clear hp
  generalize (2 : Nat) ^ s = P at *
  omega
theorem shl_mone_i64 (s : Nat) (hs : s ≤ 63) : IntKind.i64.wrap ((-1 : Int) * 2 ^ min s 64) = -((2 ^ s : Nat) : Int) := by
  have hp : (2 : Nat) ^ s ≤ 2 ^ 63 := Nat.pow_le_pow_right (by decide) hs
  have hp' : (2 : Nat) ^ s ≤ 9223372036854775808 := hp
  rw [Nat.min_eq_left (by omega), IntKind.wrap_i64, show ((2 : Int) ^ s) = ((2 ^ s : Nat) : Int) by push_cast; rfl]
  clear hp
  generalize (2 : Nat) ^ s = P at *
  omega
theorem shl_one_far (s : Nat) (hs : 64 ≤ s) : IntKind.i64.wrap ((1 : Int) * 2 ^ min s 64) = 0 := by
  rw [Nat.min_eq_right hs]; decide

/-- The signed number that n bytes tell. -/
def sval (v n : Nat) : Int := if n ≤ 9 then (if v / 2 ^ (7 * n - 1) % 2 = 1 then (v : Int) - ((2 ^ (7 * n) : Nat) : Int) else (v : Int)) else IntKind.i64.wrap (v : Int)
/-- dwarf.Signed: the number, how many bytes it has, whether there is one. -/
def signedOf (l : List Int) : Int × Int × Bool := match uread l with
  | none => (0, 0, false)
  | some (v, n) => (sval v n, (n : Int), true)
/-- dwarf.Unsigned: the number, how many bytes it has, whether there is one. -/
def unsignedOf (l : List Int) : Int × Int × Bool := match uread l with
  | none => (0, 0, false)
  | some (v, n) => (((v % 18446744073709551616 : Nat) : Int), (n : Int), true)

end Go.Proofs.Ytkgkdppjopilmaa.Leb
