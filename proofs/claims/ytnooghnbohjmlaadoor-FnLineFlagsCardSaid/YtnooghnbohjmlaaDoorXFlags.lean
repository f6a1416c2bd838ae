/- More of the plain machine, for one law. -/
import Derived.Test.YtnooghnbohjmlaaDoorMd
set_option linter.unusedVariables false
namespace Go.Proofs.YtnooghnbohjmlaaDoor.Line
open Go Go.Proofs.YtnooghnbohjmlaaDoor.Leb
theorem step_stmt {k : K} {s : St} {l : List Int} (h : k.at s.p = 6 :: l) (ho : 6 < k.ob) : k.step s = some (none, { s with p := s.p + 1, r := { s.r with st := !s.r.st } }) := by
  unfold K.step; rw [h]; simp only; rw [if_neg (by omega)]; rfl
theorem step_prologue {k : K} {s : St} {l : List Int} (h : k.at s.p = 10 :: l) (ho : 10 < k.ob) : k.step s = some (none, { s with p := s.p + 1, r := { s.r with pe := true } }) := by
  unfold K.step; rw [h]; simp only; rw [if_neg (by omega)]; rfl
theorem step_epilogue {k : K} {s : St} {l : List Int} (h : k.at s.p = 11 :: l) (ho : 11 < k.ob) : k.step s = some (none, { s with p := s.p + 1, r := { s.r with eb := true } }) := by
  unfold K.step; rw [h]; simp only; rw [if_neg (by omega)]; rfl
theorem ext_disc {k : K} {s : St} {p q : Nat} {v n : Nat} (h : unum (k.at (p + 1)) = some (v, n)) (hq : p + 1 + n ≤ q) : k.ext s p q 4 = some (none, { s with p := q, r := { s.r with di := v } }) := by
  unfold K.ext; rw [if_neg (by decide), if_neg (by decide), if_neg (by decide), if_pos rfl, h]; simp only [Option.bind_some]; rw [if_pos hq]
theorem Nx.stmt {k : K} {s s' : St} {l l' : List Int} {o : Option Row} (hn : s.n < 4294967295) (ho : 6 < k.ob) (H : Nx k { s with r := { s.r with st := !s.r.st } } l o s' l') : Nx k s (6 :: l) o s' l' :=
  Nx.skip (bs := [6]) (by simp) hn (fun p hp => by exact step_stmt (s := s.on p) hp ho) H
theorem Nx.prologue {k : K} {s s' : St} {l l' : List Int} {o : Option Row} (hn : s.n < 4294967295) (ho : 10 < k.ob) (H : Nx k { s with r := { s.r with pe := true } } l o s' l') : Nx k s (10 :: l) o s' l' :=
  Nx.skip (bs := [10]) (by simp) hn (fun p hp => by exact step_prologue (s := s.on p) hp ho) H
theorem Nx.epilogue {k : K} {s s' : St} {l l' : List Int} {o : Option Row} (hn : s.n < 4294967295) (ho : 11 < k.ob) (H : Nx k { s with r := { s.r with eb := true } } l o s' l') : Nx k s (11 :: l) o s' l' :=
  Nx.skip (bs := [11]) (by simp) hn (fun p hp => by exact step_epilogue (s := s.on p) hp ho) H
theorem Nx.disc {k : K} {s s' : St} {ls bs l l' : List Int} {o : Option Row} {v : Nat} (hn : s.n < 4294967295) (ho : 0 < k.ob) (hu : uread (ls ++ (4 :: bs ++ l)) = some (bs.length + 1, ls.length)) (hv : unum (bs ++ l) = some (v, bs.length)) (H : Nx k { s with r := { s.r with di := v } } l o s' l') :
    Nx k s (0 :: (ls ++ 4 :: (bs ++ l))) o s' l' := by
  have e : 0 :: (ls ++ 4 :: (bs ++ l)) = (0 :: (ls ++ 4 :: bs)) ++ l := by simp
  rw [e]
  refine Nx.skip (bs := 0 :: (ls ++ 4 :: bs)) (by simp) hn (fun p hp => ?_) H
  obtain ⟨h1, h2⟩ := ext_at (s := s) (bs := bs) (l := l) ho hu (by rw [hp]; simp)
  rw [h1, ext_disc (by rw [h2]; exact hv) (by simp; omega)]
  rfl
/-- Marks. -/
theorem Nx.mark_block {k : K} {s s' : St} {l l' : List Int} {o : Option Row} (b : Bool) (hn : s.n < 4294967295) (ho : 12 < k.ob) (H : Nx k { s with r := { s.r with bb := b || s.r.bb } } l o s' l') : Nx k s ((if b then [7] else []) ++ l) o s' l' := by
  cases b
  · exact H
  · exact Nx.block hn (by omega) H
theorem Nx.mark_prologue {k : K} {s s' : St} {l l' : List Int} {o : Option Row} (b : Bool) (hn : s.n < 4294967295) (ho : 12 < k.ob) (H : Nx k { s with r := { s.r with pe := b || s.r.pe } } l o s' l') : Nx k s ((if b then [10] else []) ++ l) o s' l' := by
  cases b
  · exact H
  · exact Nx.prologue hn (by omega) H
theorem Nx.mark_epilogue {k : K} {s s' : St} {l l' : List Int} {o : Option Row} (b : Bool) (hn : s.n < 4294967295) (ho : 12 < k.ob) (H : Nx k { s with r := { s.r with eb := b || s.r.eb } } l o s' l') : Nx k s ((if b then [11] else []) ++ l) o s' l' := by
  cases b
  · exact H
  · exact Nx.epilogue hn (by omega) H
theorem Nx.mark_stmt {k : K} {s s' : St} {l l' : List Int} {o : Option Row} (b : Bool) (hn : s.n < 4294967295) (ho : 12 < k.ob) (hs : s.r.st = false) (H : Nx k { s with r := { s.r with st := b } } l o s' l') : Nx k s ((if b then [6] else []) ++ l) o s' l' := by
  cases b
  · have : s = { s with r := { s.r with st := false } } := by rw [← hs]
    rw [this]
    exact H
  · refine Nx.stmt hn (by omega) ?_
    rw [hs]
    exact H
theorem say_flags {k : K} {F : Fl} {n : Nat} (b p e t : Bool) (ho : k.ob = 13) (ha : k.asz = 8) (hb : k.big = false) (hn : n ≤ 2147483648) :
    ∃ r1 r2 r3, Told k (stP F (row0 F)) (0 :: 9 :: 2 :: (le8 0 ++ ((if b then [(7 : Int)] else []) ++ ((if p then [10] else []) ++ ((if e then [11] else []) ++ ((if t then [6] else []) ++ 0 :: (((ubp n 0).length + 1 : Nat) : Int) :: 4 :: (ubp n 0 ++ 1 :: 1 :: [0, 1, 1]))))))) [r1, r2, r3] ∧ r1.es = false ∧ r2.es = false ∧ r3.es = true ∧
      r1.bb = b ∧ r1.pe = p ∧ r1.eb = e ∧ r1.st = t ∧ r1.di = n ∧ r2.bb = false ∧ r2.pe = false ∧ r2.eb = false ∧ r2.st = t ∧ r2.di = 0 := by
  have hl : (ubp n 0).length ≤ 10 := by rw [ubp_length]; exact ub_length_10 n (by omega)
  refine ⟨_, _, _, Told.cons (Nx.address (by omega) ha hb (by omega) (by show (2 : Nat) < _; decide) (Nx.mark_block b (by show (2 : Nat) < _; decide) (by omega) (Nx.mark_prologue p (by show (2 : Nat) < _; decide) (by omega) (Nx.mark_epilogue e (by show (2 : Nat) < _; decide) (by omega) (Nx.mark_stmt t (by show (2 : Nat) < _; decide) (by omega) rfl
      (Nx.disc (ls := [(((ubp n 0).length + 1 : Nat) : Int)]) (bs := ubp n 0) (l := 1 :: 1 :: [0, 1, 1]) (v := n) (by show (2 : Nat) < _; decide) (by omega) (by simp only [List.cons_append, List.nil_append, uread]; rw [if_pos (by omega)]; simp) (unum_ubp _ _ _ (by omega))
        (Nx.copy (by show (2 : Nat) < _; decide) (by omega)))))))) (Told.cons (Nx.copy (by show (2 : Nat) < _; decide) (by omega)) (Nx.final (by show (2 : Nat) < _; decide) (by omega))), rfl, rfl, rfl, ?_, ?_, ?_, rfl, rfl, rfl, rfl, rfl, rfl, rfl⟩
  · exact Bool.or_false b
  · exact Bool.or_false p
  · exact Bool.or_false e
end Go.Proofs.YtnooghnbohjmlaaDoor.Line
