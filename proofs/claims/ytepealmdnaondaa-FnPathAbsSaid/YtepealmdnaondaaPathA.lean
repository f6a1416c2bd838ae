/- What the printed functions on paths come to, told in lists of bytes. -/
import Derived.Test.YtepealmdnaondaaPAbsx2
import Derived.Test.YtepealmdnaondaaPAbsx3
import Derived.Test.YtepealmdnaondaaGiven4
import Derived.Lib.Bytes
namespace Go.Proofs.Ytepealmdnaondaa.Paths
open Go.RowKit Go.Proofs.Ytepealmdnaondaa.PAbs Go.Proofs.YtepealmdnaondaaW.PrintWords Go.Proofs.YtepealmdnaondaaW.PrintLast Go.Proofs.YtepealmdnaondaaW.PrintMore Go.Proofs.Ytepealmdnaondaa.Given

abbrev by_ (s : ByteArray) : List UInt8 := s.data.toList
theorem by_length (s : ByteArray) : (by_ s).length = s.size := by
  show s.data.toList.length = s.data.size
  rw [Array.length_toList]
theorem by_extract (s : ByteArray) (a b : Nat) : by_ (s.extract a b) = ((by_ s).take b).drop a := by
  show (s.extract a b).data.toList = _
  rw [ByteArray.data_extract, Array.toList_extract, List.extract_eq_take_drop, List.drop_take]
theorem by_ext {s t : ByteArray} (h : by_ s = by_ t) : s = t := ByteArray.ext (Array.ext' h)
theorem by_append (s t : ByteArray) : by_ (s ++ t) = by_ s ++ by_ t := by simp [by_, ByteArray.data_append]
theorem bt_of (s : ByteArray) (i : Nat) (h : i < s.size) : bt s (i : Int) = (((by_ s)[i]'(by rw [by_length]; exact h)).toNat : Int) := by
  unfold bt
  rw [dif_pos (by simpa using h)]
  simp [by_]
  rfl
theorem index_lt (c : UInt8) : ∀ l : List UInt8, Lib.indexByte l c < l.length
  | [] => by simp [Lib.indexByte]
  | b :: r => by
    have := index_lt c r
    rw [Lib.indexByte]
    split
    · simp; try omega
    · split
      · simp; try omega
      · simp; try omega
theorem index_at (c : UInt8) : ∀ (h r : List UInt8), (∀ b ∈ h, b ≠ c) → Lib.indexByte (h ++ c :: r) c = h.length
  | [], r, _ => by simp [Lib.indexByte]
  | b :: h, r, hb => by
    have ih := index_at c h r (fun x hx => hb x (by simp [hx]))
    have hne : (b == c) = false := beq_eq_false_iff_ne.2 (hb b (by simp))
    rw [List.cons_append, Lib.indexByte, hne, ih]
    have : ((h.length : Int) == -1) = false := by simp
    rw [this]
    simp
/-- Slashes turned. -/
def turned (l : List UInt8) : List UInt8 := l.map fun b => if b = 47 then 92 else b

theorem lit47 : (⟨#[47]⟩ : ByteArray).toList = [47] := by rw [Lib.toList_data]
/-- zzIndex of a byte: where it stands, or nowhere. -/
theorem zzIndex_f (s : ByteArray) (hs : s.size < 1000000000000) (d : Nat) : ∀ i, s.size - i = d → i ≤ s.size → (∀ j (hj : j < s.size), j < i → (by_ s)[j]'(by rw [by_length]; exact hj) ≠ 47) →
    (Ev (fun k => dwarf_zzIndex.l0 k s (⟨#[47]⟩ : ByteArray) (i : Int)) (-1) ∧ ∀ b ∈ by_ s, b ≠ 47) ∨ (∃ j : Nat, ∃ h : j < s.size, Ev (fun k => dwarf_zzIndex.l0 k s (⟨#[47]⟩ : ByteArray) (i : Int)) (j : Int) ∧ (by_ s)[j]'(by rw [by_length]; exact h) = 47 ∧ ∀ m (hm : m < s.size), m < j → (by_ s)[m]'(by rw [by_length]; exact hm) ≠ 47) := by
  induction d with
  | zero =>
    intro i hd hi hj
    left
    refine ⟨Ev.step (f := fun _ => some (-1)) (fun k => ?_) (Ev.now _), fun b hb => ?_⟩
    · simp only [dwarf_zzIndex.l0]
      have : wrap64 ((i : Int) + ((⟨#[47]⟩ : ByteArray).size : Int)) = (i : Int) + 1 := by show wrap64 ((i : Int) + 1) = _; unfold wrap64; omega
      rw [this, if_neg (by omega)]
    · obtain ⟨j, hj', rfl⟩ := List.mem_iff_getElem.1 hb
      rw [by_length] at hj'
      exact hj j hj' (by omega)
  | succ d ih =>
    intro i hd hi hj
    have hlt : i < s.size := by omega
    have hw : wrap64 ((i : Int) + ((⟨#[47]⟩ : ByteArray).size : Int)) = ((i + 1 : Nat) : Int) := by show wrap64 ((i : Int) + 1) = _; unfold wrap64; omega
    have hw2 : wrap64 ((i : Int) + 1) = ((i + 1 : Nat) : Int) := by unfold wrap64; omega
    have hex : (s.extract i (i + 1)).toList = [(by_ s)[i]'(by rw [by_length]; exact hlt)] := by
      rw [Lib.toList_data]
      show by_ _ = _
      have hL : i < (by_ s).length := by rw [by_length]; exact hlt
      rw [by_extract, List.drop_take, show i + 1 - i = 1 by omega, List.drop_eq_getElem_cons hL]
      rfl
    by_cases h0 : (by_ s)[i]'(by rw [by_length]; exact hlt) = 47
    · right
      refine ⟨i, hlt, Ev.step (f := fun _ => some (i : Int)) (fun k => ?_) (Ev.now _), h0, fun m hm hmi => hj m hm hmi⟩
      simp only [dwarf_zzIndex.l0]
      rw [hw, if_pos (by omega), if_pos (by omega), if_pos (by omega), Int.toNat_natCast, Int.toNat_natCast, hex, h0, if_pos lit47.symm]
    · have hne : ¬ (s.extract i (i + 1)).toList = (⟨#[47]⟩ : ByteArray).toList := by
        rw [hex, lit47]
        intro e
        injection e with e1 _
        exact h0 e1
      have hjj : ∀ j (hj : j < s.size), j < i + 1 → (by_ s)[j]'(by rw [by_length]; exact hj) ≠ 47 := fun j hj' hji => by
        by_cases hc : j = i
        · subst hc; exact h0
        · exact hj j hj' (by omega)
      have st : ∀ r, Ev (fun k => dwarf_zzIndex.l0 k s (⟨#[47]⟩ : ByteArray) ((i + 1 : Nat) : Int)) r → Ev (fun k => dwarf_zzIndex.l0 k s (⟨#[47]⟩ : ByteArray) (i : Int)) r := fun r hr => by
        refine Ev.step (fun k => ?_) hr
        simp only [dwarf_zzIndex.l0]
        rw [hw, if_pos (by omega), if_pos (by omega), if_pos (by omega), Int.toNat_natCast, Int.toNat_natCast, if_neg hne, hw2]
      rcases ih (i + 1) (by omega) (by omega) hjj with ⟨h1, h2⟩ | ⟨j, h, h1, h2⟩
      · exact .inl ⟨st _ h1, h2⟩
      · exact .inr ⟨j, h, st _ h1, h2⟩

theorem by_nums (xs : List Int) : by_ (strOfNums xs) = Lib.bytesOf xs := by
  show (strOfNums xs).data.toList = _
  rw [← Lib.toList_data, Lib.strOfNums_toList]
theorem by_app (xs ys : List Int) : by_ (strOfNums (xs ++ ys)) = by_ (strOfNums xs) ++ by_ (strOfNums ys) := by
  rw [by_nums, by_nums, by_nums, Lib.bytesOf, List.map_append]
  rfl
theorem by_bytesOf (s : ByteArray) : by_ (strOfNums (bytesOf s)) = by_ s := by
  rw [by_nums, Lib.bytesOf, bytesOf, List.map_map]
  conv => rhs; rw [← List.map_id (by_ s)]
  apply List.map_congr_left
  intro b _
  simp
theorem turned_self {l : List UInt8} (h : ∀ b ∈ l, b ≠ 47) : turned l = l := by
  unfold turned
  conv => rhs; rw [← List.map_id l]
  apply List.map_congr_left
  intro b hb
  rw [if_neg (h b hb)]
  rfl
theorem size_extract0 (s : ByteArray) (j : Nat) (h : j ≤ s.size) : (s.extract 0 j).size = j := by
  rw [← by_length, by_extract, List.drop_zero, List.length_take, by_length]; omega
theorem size_extractE (s : ByteArray) (j : Nat) (h : j ≤ s.size) : (s.extract j s.size).size = s.size - j := by
  rw [← by_length, by_extract, List.length_drop, List.length_take, by_length]; omega

/-- zzReplaceAll of slashes by backslashes. -/
theorem zzReplaceAll_f (n : Nat) : ∀ (s : ByteArray) (out : List Int), s.size = n → s.size + out.length < 1000000000000 →
    ∃ t, Ev (fun k => dwarf_zzReplaceAll.l0 k s (⟨#[47]⟩ : ByteArray) (⟨#[92]⟩ : ByteArray) out) t ∧ by_ t = by_ (strOfNums out) ++ turned (by_ s) := by
  induction n using Nat.strongRecOn with
  | _ n ih =>
    intro s out hn hs
    have step : ∀ k, dwarf_zzReplaceAll.l0 (k + 1) s (⟨#[47]⟩ : ByteArray) (⟨#[92]⟩ : ByteArray) out = (dwarf_zzIndex.f k s (⟨#[47]⟩ : ByteArray)).bind fun t101 => (if t101 < 0 then (if out.length + s.size < 140737488355328 then (some (strOfNums (out ++ bytesOf s))) else (none)) else (if 0 ≤ t101 then (if t101 ≤ (s.size : Int) then (if out.length + (s.extract 0 (t101 : Int).toNat).size < 140737488355328 then ((some (out ++ bytesOf (s.extract 0 (t101 : Int).toNat) : List Int)).bind fun y105 => (if y105.length + (⟨#[92]⟩ : ByteArray).size < 140737488355328 then (if 0 ≤ (wrap64 (t101 + ((⟨#[47]⟩ : ByteArray).size : Int))) then (if (wrap64 (t101 + ((⟨#[47]⟩ : ByteArray).size : Int))) ≤ (s.size : Int) then (dwarf_zzReplaceAll.l0 k (s.extract ((wrap64 (t101 + ((⟨#[47]⟩ : ByteArray).size : Int))) : Int).toNat s.size) (⟨#[47]⟩ : ByteArray) (⟨#[92]⟩ : ByteArray) (y105 ++ bytesOf (⟨#[92]⟩ : ByteArray))) else (none)) else (none)) else (none))) else (none)) else (none)) else (none))) := fun k => by simp only [dwarf_zzReplaceAll.l0]
    rcases zzIndex_f s (by omega) _ 0 rfl (by omega) (fun j _ h => by omega) with ⟨h1, h2⟩ | ⟨j, hj, h1, h2, h3⟩
    · have h1' : Ev (fun k => dwarf_zzIndex.f k s (⟨#[47]⟩ : ByteArray)) (-1) := by unfold dwarf_zzIndex.f; exact h1
      refine ⟨strOfNums (out ++ bytesOf s), Ev.step step (Ev.bind h1' ?_), ?_⟩
      · refine Ev.congr (f := fun _ => some (strOfNums (out ++ bytesOf s))) (fun n => ?_) (Ev.now _)
        rw [if_pos (by decide), if_pos (by omega)]
      · rw [by_app, by_bytesOf, turned_self h2]
    · have h1' : Ev (fun k => dwarf_zzIndex.f k s (⟨#[47]⟩ : ByteArray)) (j : Int) := by unfold dwarf_zzIndex.f; exact h1
      have hw : wrap64 ((j : Int) + ((⟨#[47]⟩ : ByteArray).size : Int)) = ((j + 1 : Nat) : Int) := by show wrap64 ((j : Int) + 1) = _; unfold wrap64; omega
      have hsz := size_extract0 s j (by omega)
      have hse := size_extractE s (j + 1) (by omega)
      obtain ⟨t, ht1, ht2⟩ := ih (s.size - (j + 1)) (by omega) (s.extract (j + 1) s.size) ((out ++ bytesOf (s.extract 0 j)) ++ bytesOf (⟨#[92]⟩ : ByteArray)) hse (by
        rw [hse, List.length_append, List.length_append, bytesOf_length, bytesOf_length, hsz]
        show s.size - (j + 1) + (out.length + j + 1) < _
        omega)
      refine ⟨t, Ev.step step (Ev.bind h1' ?_), ?_⟩
      · refine Ev.congr (fun n => ?_) ht1
        simp only [hw, Int.toNat_natCast, Option.bind_some]
        rw [if_neg (by omega), if_pos (by omega), if_pos (by omega), if_pos (by rw [hsz]; omega)]
        rw [if_pos (by rw [List.length_append, bytesOf_length, hsz]; show out.length + j + 1 < _; omega), if_pos (by omega), if_pos (by omega)]
      · have hjl : j < (by_ s).length := by rw [by_length]; exact hj
        have hsplit : by_ s = (by_ s).take j ++ 47 :: (by_ s).drop (j + 1) := by
          conv => lhs; rw [← List.take_append_drop j (by_ s), List.drop_eq_getElem_cons hjl, h2]
        have hpre : turned ((by_ s).take j) = (by_ s).take j := turned_self (fun b hb => by
          obtain ⟨m, hm, rfl⟩ := List.mem_iff_getElem.1 hb
          rw [List.length_take] at hm
          rw [List.getElem_take]
          exact h3 m (by omega) (by omega))
        have e1 : by_ (s.extract 0 j) = (by_ s).take j := by rw [by_extract, List.drop_zero]
        have e2 : by_ (s.extract (j + 1) s.size) = (by_ s).drop (j + 1) := by rw [by_extract, ← by_length, List.take_length]
        have e3 : turned (by_ s) = (by_ s).take j ++ 92 :: turned ((by_ s).drop (j + 1)) := by
          conv => lhs; rw [hsplit]
          unfold turned at hpre ⊢
          rw [List.map_append, hpre, List.map_cons, if_pos rfl]
        rw [ht2, by_app, by_app, by_bytesOf, by_bytesOf, e1, e2, e3]
        simp [by_]

/-- The two parts of a path. -/
def Cut (s : ByteArray) (n : Nat) (r : ByteArray × ByteArray) : Prop := n ≤ s.size ∧ by_ r.1 = (by_ s).take n ∧ by_ r.2 = (by_ s).drop n
theorem cut_mk (s : ByteArray) (n : Nat) (h : n ≤ s.size) : Cut s n (s.extract 0 n, s.extract n s.size) := by
  refine ⟨h, ?_, ?_⟩
  · show by_ (s.extract 0 n) = _
    rw [by_extract, List.drop_zero]
  · show by_ (s.extract n s.size) = _
    rw [by_extract, ← by_length, List.take_length]
theorem cut_none (s : ByteArray) : Cut s 0 ((⟨#[]⟩ : ByteArray), s) := ⟨Nat.zero_le _, by simp [by_], by simp⟩

def j2b (x0 t111 : ByteArray) : Option (ByteArray × ByteArray) := (if 2 ≤ (t111.size : Int) then ((strings_IndexByte.f (t111.extract 2 t111.size) 92).bind fun t112 => (if (wrap64 (t112 + 2)) > 2 then (if 0 ≤ (wrap64 ((wrap64 (t112 + 2)) + 1)) then (if (wrap64 ((wrap64 (t112 + 2)) + 1)) ≤ (t111.size : Int) then ((strings_IndexByte.f (t111.extract ((wrap64 ((wrap64 (t112 + 2)) + 1)) : Int).toNat t111.size) 92).bind fun t113 => (if (wrap64 ((wrap64 (t113 + (wrap64 (t112 + 2)))) + 1)) > (wrap64 (t112 + 2)) then (if 0 ≤ (wrap64 ((wrap64 (t113 + (wrap64 (t112 + 2)))) + 1)) then (if (wrap64 ((wrap64 (t113 + (wrap64 (t112 + 2)))) + 1)) ≤ (x0.size : Int) then (some (x0.extract 0 ((wrap64 ((wrap64 (t113 + (wrap64 (t112 + 2)))) + 1)) : Int).toNat, x0.extract ((wrap64 ((wrap64 (t113 + (wrap64 (t112 + 2)))) + 1)) : Int).toNat x0.size)) else (none)) else (none)) else (some ((⟨#[]⟩ : ByteArray), x0)))) else (none)) else (none)) else (some ((⟨#[]⟩ : ByteArray), x0)))) else (none))
theorem j2_step (s : ByteArray) (k : Nat) : dwarf_splitDrive.j2 (k + 1) s true = (dwarf_zzReplaceAll.f k s (⟨#[47]⟩ : ByteArray) (⟨#[92]⟩ : ByteArray)).bind fun t => j2b s t := by
  simp only [dwarf_splitDrive.j2, j2b]
  rw [if_pos trivial]

/-- Nothing is cut off, or a slash stands there. -/
def Sl (s : ByteArray) (n : Nat) : Prop := n = 0 ∨ (turned (by_ s))[n]? = some 92
theorem index_hit (c : UInt8) : ∀ l : List UInt8, 0 ≤ Lib.indexByte l c → l[(Lib.indexByte l c).toNat]? = some c
  | [], h => by simp [Lib.indexByte] at h
  | x :: r, h => by
    rw [Lib.indexByte] at h ⊢
    split
    · rename_i hx
      simp at hx
      simp [hx]
    · rename_i hx
      rw [if_neg hx] at h
      split
      · rename_i hr
        rw [if_pos hr] at h
        omega
      · rename_i hr
        have h1 := Lib.indexByte_ge r c
        have hr2 : Lib.indexByte r c ≠ -1 := by simpa using hr
        have h2 : 0 ≤ Lib.indexByte r c := by omega
        have h3 := index_hit c r h2
        have h4 : (Lib.indexByte r c + 1).toNat = (Lib.indexByte r c).toNat + 1 := by omega
        rw [h4, List.getElem?_cons_succ]
        exact h3
/-- Behind two slashes: where the share ends. -/
theorem j2_true (s : ByteArray) (hs : s.size < 2147483648) (h3 : 3 < s.size) : ∃ n r, Cut s n r ∧ Ev (fun k => dwarf_splitDrive.j2 k s true) r ∧
    (∀ H S R : List UInt8, turned (by_ s) = 92 :: 92 :: (H ++ 92 :: (S ++ 92 :: R)) → H ≠ [] → (∀ b ∈ H, b ≠ 92) → (∀ b ∈ S, b ≠ 92) → n = H.length + S.length + 3) ∧ Sl s n := by
  obtain ⟨t, ht1, ht2⟩ := zzReplaceAll_f _ s [] rfl (by simpa using (by omega : s.size < 1000000000000))
  have ht : by_ t = turned (by_ s) := by rw [ht2]; rfl
  have hsz : t.size = s.size := by rw [← by_length, ht, turned, List.length_map, by_length]
  have ht1' : Ev (fun k => dwarf_zzReplaceAll.f k s (⟨#[47]⟩ : ByteArray) (⟨#[92]⟩ : ByteArray)) t := by unfold dwarf_zzReplaceAll.f; exact ht1
  obtain ⟨a, ha⟩ : ∃ a, Lib.indexByte (by_ (t.extract 2 t.size)) 92 = a := ⟨_, rfl⟩
  have ha1 := Lib.indexByte_ge (by_ (t.extract 2 t.size)) 92
  have ha2 := index_lt 92 (by_ (t.extract 2 t.size))
  rw [ha, by_length, size_extractE t 2 (by omega), hsz] at ha2
  rw [ha] at ha1
  have fa : strings_IndexByte.f (t.extract 2 t.size) 92 = some a := by unfold strings_IndexByte.f; rw [← ha]; rfl
  have hw : wrap64 (a + 2) = a + 2 := by unfold wrap64; omega
  by_cases hc : a + 2 > 2
  · have hw2 : wrap64 (a + 2 + 1) = ((a.toNat + 3 : Nat) : Int) := by unfold wrap64; omega
    obtain ⟨b, hb⟩ : ∃ b, Lib.indexByte (by_ (t.extract (a.toNat + 3) t.size)) 92 = b := ⟨_, rfl⟩
    have hb1 := Lib.indexByte_ge (by_ (t.extract (a.toNat + 3) t.size)) 92
    have hb2 := index_lt 92 (by_ (t.extract (a.toNat + 3) t.size))
    rw [hb, by_length, size_extractE t (a.toNat + 3) (by omega), hsz] at hb2
    rw [hb] at hb1
    have fb : strings_IndexByte.f (t.extract (a.toNat + 3) t.size) 92 = some b := by unfold strings_IndexByte.f; rw [← hb]; rfl
    have hw3 : wrap64 (b + (a + 2)) = b + (a + 2) := by unfold wrap64; omega
    have hw4 : wrap64 (b + (a + 2) + 1) = b + (a + 2) + 1 := by unfold wrap64; omega
    have share : ∀ H S R : List UInt8, turned (by_ s) = 92 :: 92 :: (H ++ 92 :: (S ++ 92 :: R)) → (∀ b ∈ H, b ≠ 92) → (∀ b ∈ S, b ≠ 92) → a = H.length ∧ b = S.length := by
      intro H S R hT hH hS
      have e1 : by_ (t.extract 2 t.size) = H ++ 92 :: (S ++ 92 :: R) := by rw [by_extract, ← by_length, List.take_length, ht, hT]; rfl
      have ea : a = H.length := by rw [← ha, e1, index_at 92 H _ hH]
      have e2 : by_ (t.extract (a.toNat + 3) t.size) = S ++ 92 :: R := by
        rw [by_extract, ← by_length, List.take_length, ht, hT, ea, Int.toNat_natCast]
        show (H ++ 92 :: (S ++ 92 :: R)).drop (H.length + 1) = _
        rw [List.drop_append]
        simp
      exact ⟨ea, by rw [← hb, e2, index_at 92 S _ hS]⟩
    by_cases hd : b + (a + 2) + 1 > a + 2
    · obtain ⟨n, hn⟩ : ∃ n : Nat, b + (a + 2) + 1 = (n : Int) := ⟨(b + (a + 2) + 1).toNat, by omega⟩
      have e : j2b s t = some (s.extract 0 n, s.extract n s.size) := by
        unfold j2b
        rw [if_pos (by omega), fa]
        simp only [Option.bind_some, hw, hw2, Int.toNat_natCast]
        rw [if_pos hc, if_pos (by omega), if_pos (by omega), fb]
        simp only [Option.bind_some, hw3, hw4]
        have g2 : (0 : Int) ≤ b + (a + 2) + 1 := by omega
        have g3 : b + (a + 2) + 1 ≤ (s.size : Int) := by omega
        rw [if_pos hd, if_pos g2, if_pos g3, hn, Int.toNat_natCast]
      refine ⟨n, _, cut_mk s n (by omega), Ev.step (j2_step s) (Ev.bind ht1' (Ev.congr (f := fun _ => some (s.extract 0 n, s.extract n s.size)) (fun _ => e) (Ev.now _))), ?_, ?_⟩
      rotate_left
      · right
        have h1 := index_hit 92 (by_ (t.extract (a.toNat + 3) t.size)) (by rw [hb]; omega)
        rw [hb, by_extract, ← by_length, List.take_length, ht, List.getElem?_drop] at h1
        rw [← h1]
        congr 1
        omega
      intro H S R hT _ hH hS
      obtain ⟨h1, h2⟩ := share H S R hT hH hS
      omega
    · have e : j2b s t = some ((⟨#[]⟩ : ByteArray), s) := by
        unfold j2b
        rw [if_pos (by omega), fa]
        simp only [Option.bind_some, hw, hw2, Int.toNat_natCast]
        rw [if_pos hc, if_pos (by omega), if_pos (by omega), fb]
        simp only [Option.bind_some, hw3, hw4]
        rw [if_neg (by omega)]
      refine ⟨0, _, cut_none s, Ev.step (j2_step s) (Ev.bind ht1' (Ev.congr (f := fun _ => some ((⟨#[]⟩ : ByteArray), s)) (fun _ => e) (Ev.now _))), ?_, .inl rfl⟩
      intro H S R hT _ hH hS
      obtain ⟨h1, h2⟩ := share H S R hT hH hS
      omega
  · have e : j2b s t = some ((⟨#[]⟩ : ByteArray), s) := by
      unfold j2b
      rw [if_pos (by omega), fa]
      simp only [Option.bind_some, hw]
      rw [if_neg (by omega)]
    refine ⟨0, _, cut_none s, Ev.step (j2_step s) (Ev.bind ht1' (Ev.congr (f := fun _ => some ((⟨#[]⟩ : ByteArray), s)) (fun _ => e) (Ev.now _))), ?_, .inl rfl⟩
    intro H S R hT hne hH hS
    have e1 : by_ (t.extract 2 t.size) = H ++ 92 :: (S ++ 92 :: R) := by rw [by_extract, ← by_length, List.take_length, ht, hT]; rfl
    have ea : a = H.length := by rw [← ha, e1, index_at 92 H _ hH]
    have : 0 < H.length := List.length_pos_iff.2 hne
    omega

/-- Without two slashes there is no share. -/
theorem j2_false (s : ByteArray) : Ev (fun k => dwarf_splitDrive.j2 k s false) ((⟨#[]⟩ : ByteArray), s) := by
  refine Ev.step (f := fun _ => some ((⟨#[]⟩ : ByteArray), s)) (fun k => ?_) (Ev.now _)
  simp only [dwarf_splitDrive.j2]
  rw [if_neg (by decide)]

theorem j2_any (s : ByteArray) (hs : s.size < 2147483648) (h3 : 3 < s.size) (b : Bool) : ∃ n r, Cut s n r ∧ Sl s n ∧ Ev (fun k => dwarf_splitDrive.j2 k s b) r := by
  cases b with
  | false => exact ⟨0, _, cut_none s, .inl rfl, j2_false s⟩
  | true => obtain ⟨n, r, h1, h2, _, h4⟩ := j2_true s hs h3; exact ⟨n, r, h1, h4, h2⟩

theorem j1_any (s : ByteArray) (hs : s.size < 2147483648) : ∃ n r, Cut s n r ∧ Sl s n ∧ Ev (fun k => dwarf_splitDrive.j1 k s) r := by
  by_cases c : (s.size : Int) > 3
  · have pick : ∀ b, (∀ k, dwarf_splitDrive.j1 (k + 1) s = dwarf_splitDrive.j2 k s b) → ∃ n r, Cut s n r ∧ Sl s n ∧ Ev (fun k => dwarf_splitDrive.j1 k s) r := fun b hb => by
      obtain ⟨n, r, h1, h4, h2⟩ := j2_any s hs (by omega) b
      exact ⟨n, r, h1, h4, Ev.step hb h2⟩
    by_cases c1 : bt s 0 = 92
    · by_cases c2 : bt s 1 = 92
      · exact pick true (fun k => by simp only [dwarf_splitDrive.j1]; rw [if_pos c, if_pos (by omega), if_pos c1, if_pos (by omega), if_pos c2])
      · exact pick (bt s 1 == 47) (fun k => by simp only [dwarf_splitDrive.j1]; rw [if_pos c, if_pos (by omega), if_pos c1, if_pos (by omega), if_neg c2])
    · by_cases c3 : bt s 0 = 47
      · by_cases c2 : bt s 1 = 92
        · exact pick true (fun k => by simp only [dwarf_splitDrive.j1]; rw [if_pos c, if_pos (by omega), if_neg c1, if_pos c3, if_pos (by omega), if_pos c2])
        · exact pick (bt s 1 == 47) (fun k => by simp only [dwarf_splitDrive.j1]; rw [if_pos c, if_pos (by omega), if_neg c1, if_pos c3, if_pos (by omega), if_neg c2])
      · exact pick false (fun k => by simp only [dwarf_splitDrive.j1]; rw [if_pos c, if_pos (by omega), if_neg c1, if_neg c3])
  · exact ⟨0, _, cut_none s, .inl rfl, Ev.step (fun k => by simp only [dwarf_splitDrive.j1]; rw [if_neg c]) (j2_false s)⟩

/-- A letter. -/
def Letter (c : Int) : Prop := (97 ≤ c ∧ c ≤ 122) ∨ (65 ≤ c ∧ c ≤ 90)
theorem j0_letter (s : ByteArray) (h2 : 2 ≤ s.size) (hl : Letter (bt s 0)) : Ev (fun k => dwarf_splitDrive.j0 k s true) (s.extract 0 2, s.extract 2 s.size) := by
  refine Ev.step (f := fun _ => some (s.extract 0 2, s.extract 2 s.size)) (fun k => ?_) (Ev.now _)
  simp only [dwarf_splitDrive.j0]
  rw [if_pos trivial, if_pos (by omega)]
  unfold Letter at hl
  by_cases c1 : 97 ≤ bt s 0
  · rw [if_pos c1]
    by_cases c2 : bt s 0 ≤ 122
    · rw [if_pos c2, if_pos (by decide), if_pos (by omega)]
    · omega
  · rw [if_neg c1, if_pos (by omega), if_pos (by omega), if_pos (by decide), if_pos (by omega)]
theorem j0_other (s : ByteArray) (h2 : 2 ≤ s.size) (hl : ¬ Letter (bt s 0)) (k : Nat) : dwarf_splitDrive.j0 (k + 1) s true = dwarf_splitDrive.j1 k s := by
  simp only [dwarf_splitDrive.j0]
  rw [if_pos trivial, if_pos (by omega)]
  unfold Letter at hl
  by_cases c1 : 97 ≤ bt s 0
  · rw [if_pos c1, if_neg (by omega)]
    rw [if_pos (by omega), if_neg (by omega)]
  · rw [if_neg c1]
    by_cases c2 : 65 ≤ bt s 0
    · rw [if_pos c2, if_neg (by omega)]
    · rw [if_neg c2]
theorem j0_false (s : ByteArray) (k : Nat) : dwarf_splitDrive.j0 (k + 1) s false = dwarf_splitDrive.j1 k s := by
  simp only [dwarf_splitDrive.j0]
  rw [if_neg (by decide)]

theorem sd_slash (s : ByteArray) (hs : s.size < 2147483648) (h0 : bt s 0 = 47) : ∃ n r, Cut s n r ∧ Sl s n ∧ Ev (fun k => dwarf_splitDrive.f k s) r := by
  obtain ⟨n, r, h1, h4, h2⟩ := j1_any s hs
  refine ⟨n, r, h1, h4, ?_⟩
  unfold dwarf_splitDrive.f
  have hl : ¬ Letter (bt s 0) := by unfold Letter; omega
  by_cases c : (s.size : Int) ≥ 2
  · by_cases c1 : (bt s 1 == 58) = true
    · refine Ev.congr (f := fun k => dwarf_splitDrive.j0 k s true) (fun k => ?_) (Ev.step (j0_other s (by omega) hl) h2)
      rw [if_pos c, if_pos (by omega), c1]
    · rw [Bool.not_eq_true] at c1
      refine Ev.congr (f := fun k => dwarf_splitDrive.j0 k s false) (fun k => ?_) (Ev.step (j0_false s) h2)
      rw [if_pos c, if_pos (by omega), c1]
  · refine Ev.congr (f := fun k => dwarf_splitDrive.j0 k s false) (fun k => ?_) (Ev.step (j0_false s) h2)
    rw [if_neg c]
/-- A path with a slash ahead is absolute. -/
theorem abs_slash (s : ByteArray) (hs : s.size < 2147483648) (h0 : (by_ s).head? = some 47) : Ev (fun k => dwarf_pathIsAbs.f k s) true := by
  have hpos : 0 < s.size := by
    rw [← by_length]
    cases hb : by_ s with
    | nil => rw [hb] at h0; cases h0
    | cons x r => simp
  have hb0 : bt s 0 = 47 := by
    have h := bt_of s 0 hpos
    have h1 : (by_ s)[0]'(by rw [by_length]; exact hpos) = 47 := by
      rw [List.head?_eq_getElem?, List.getElem?_eq_getElem (by rw [by_length]; exact hpos)] at h0
      exact Option.some.inj h0
    rw [h1] at h
    exact h
  obtain ⟨n, ⟨d, r⟩, ⟨c1, c2, c3⟩, h4, h2⟩ := sd_slash s hs hb0
  simp only at c2 c3
  have hn : ∃ x, (by_ s)[n]? = some x ∧ (x = 47 ∨ x = 92) := by
    rcases h4 with rfl | h4
    · exact ⟨47, by rw [← List.head?_eq_getElem?]; exact h0, .inl rfl⟩
    · unfold turned at h4
      rw [List.getElem?_map] at h4
      obtain ⟨x, hx, he⟩ := Option.map_eq_some_iff.1 h4
      refine ⟨x, hx, ?_⟩
      by_cases hx47 : x = 47
      · exact .inl hx47
      · rw [if_neg hx47] at he
        exact .inr he
  obtain ⟨x, hx, hx2⟩ := hn
  have hr0 : (by_ r)[0]? = some x := by rw [c3, List.getElem?_drop]; exact hx
  have hrp : 0 < r.size := by
    rw [← by_length]
    cases hb : by_ r with
    | nil => rw [hb] at hr0; cases hr0
    | cons x r => simp
  have hbr : bt r 0 = (x.toNat : Int) := by
    have h := bt_of r 0 hrp
    have h1 : (by_ r)[0]'(by rw [by_length]; exact hrp) = x := by
      rw [List.getElem?_eq_getElem (by rw [by_length]; exact hrp)] at hr0
      exact Option.some.inj hr0
    rw [h1] at h
    exact h
  unfold dwarf_pathIsAbs.f
  refine Ev.bind h2 (Ev.congr (f := fun _ => some true) (fun k => ?_) (Ev.now _))
  simp only
  rw [if_pos (by omega), if_pos (by omega), hbr]
  rcases hx2 with rfl | rfl
  · rfl
  · rfl
theorem sd_colon (s : ByteArray) (h2 : 2 ≤ s.size) (hl : Letter (bt s 0)) (hc : bt s 1 = 58) : Ev (fun k => dwarf_splitDrive.f k s) (s.extract 0 2, s.extract 2 s.size) := by
  unfold dwarf_splitDrive.f
  refine Ev.congr (f := fun k => dwarf_splitDrive.j0 k s true) (fun k => ?_) (j0_letter s h2 hl)
  rw [if_pos (by omega), if_pos (by omega), hc]
  rfl
theorem sd_no (s : ByteArray) (h2 : 2 ≤ s.size) (hc : bt s 1 ≠ 58) (h0 : bt s 0 ≠ 92 ∧ bt s 0 ≠ 47) : Ev (fun k => dwarf_splitDrive.f k s) ((⟨#[]⟩ : ByteArray), s) := by
  unfold dwarf_splitDrive.f
  have hj : Ev (fun k => dwarf_splitDrive.j1 k s) ((⟨#[]⟩ : ByteArray), s) := by
    refine Ev.step (fun k => ?_) (j2_false s)
    simp only [dwarf_splitDrive.j1]
    by_cases c : (s.size : Int) > 3
    · rw [if_pos c, if_pos (by omega), if_neg h0.1, if_neg h0.2]
    · rw [if_neg c]
  refine Ev.congr (f := fun k => dwarf_splitDrive.j0 k s false) (fun k => ?_) (Ev.step (j0_false s) hj)
  rw [if_pos (by omega), if_pos (by omega), beq_eq_false_iff_ne.2 hc]
end Go.Proofs.Ytepealmdnaondaa.Paths
