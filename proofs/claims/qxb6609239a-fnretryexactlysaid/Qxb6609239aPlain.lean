import Derived.Test.Qxb6609239aRetry
namespace Go.Proofs.Qxb6609239a.R
def isin (A : List ByteArray) (f : ByteArray) : Bool := A.any fun a => decide (a = f)
theorem isin_iff {A : List ByteArray} {f : ByteArray} : isin A f = true ↔ f ∈ A := by
  unfold isin
  rw [List.any_eq_true]
  exact ⟨fun ⟨x, h1, h2⟩ => by rw [decide_eq_true_iff] at h2; exact h2 ▸ h1, fun h => ⟨f, h, decide_eq_true rfl⟩⟩
theorem isin_true {A : List ByteArray} {f : ByteArray} (h : f ∈ A) : isin A f = true := isin_iff.2 h
theorem isin_false {A : List ByteArray} {f : ByteArray} (h : f ∉ A) : isin A f = false := Bool.eq_false_iff.2 fun e => h (isin_iff.1 e)
/-- what the attempts asked for -/
def asks (ts : List TR) : List ByteArray := (ts.filter fun t => t.pd.isSome).map fun t => fold t.dn
theorem asks_snoc (ts : List TR) (t : TR) : asks (ts ++ [t]) = if t.pd.isSome then asks ts ++ [fold t.dn] else asks ts := by
  unfold asks
  rw [List.filter_append]
  cases h : t.pd.isSome <;> simp [h]
theorem asks_any (ts : List TR) (d : ByteArray) : ts.any (fun t => askD t d) = isin (asks ts) (fold d) := by
  rw [Bool.eq_iff_iff, List.any_eq_true, isin_iff]
  unfold asks askD
  simp only [List.mem_map, List.mem_filter, Bool.and_eq_true, decide_eq_true_iff]
  exact ⟨fun ⟨x, h1, h2, h3⟩ => ⟨x, ⟨h1, h2⟩, h3⟩, fun ⟨x, ⟨h1, h2⟩, h3⟩ => ⟨x, h1, h2, h3⟩⟩
def fd (ds : List ByteArray) (e : Nat) : ByteArray := fold (ds.getD e ⟨#[]⟩)
theorem fd_of {ds : List ByteArray} {e : Nat} {d : ByteArray} (h : ds[e]? = some d) : fd ds e = fold d := by unfold fd; simp [List.getD, h]
def FD (ds A : List ByteArray) (E : List Nat) (s : Nat) : List ByteArray := A ++ (E.take s).map (fd ds)
/-- the route's names walked once, as far as i -/
structure Exp (ds A : List ByteArray) (i : Nat) (E : List Nat) : Prop where
  at_ : ∀ (s e : Nat), E[s]? = some e → e < i ∧ fd ds e ∉ FD ds A E s ∧ ∀ j, j < e → fd ds j ∈ FD ds A E s
  all : ∀ j, j < i → fd ds j ∈ FD ds A E E.length
  len : E.length ≤ i
theorem Exp.start (ds A : List ByteArray) : Exp ds A 0 [] := ⟨fun s e h => by simp at h, fun j h => by omega, Nat.le_refl _⟩
theorem FD_full (ds A : List ByteArray) (E : List Nat) : FD ds A E E.length = A ++ E.map (fd ds) := by unfold FD; rw [List.take_length]
theorem FD_snoc {ds A : List ByteArray} {E : List Nat} {i s : Nat} (h : s ≤ E.length) : FD ds A (E ++ [i]) s = FD ds A E s := by
  unfold FD; rw [List.take_append_of_le_length h]
theorem FD_succ {ds A : List ByteArray} {E : List Nat} {s e : Nat} (h : E[s]? = some e) : FD ds A E (s + 1) = FD ds A E s ++ [fd ds e] := by
  unfold FD
  rw [List.take_add_one, h]
  simp
theorem Exp.skip {ds A : List ByteArray} {i : Nat} {E : List Nat} (h : Exp ds A i E) (hi : fd ds i ∈ A ++ E.map (fd ds)) : Exp ds A (i + 1) E := by
  have hl := h.len
  refine ⟨fun s e he => ⟨by have := (h.at_ s e he).1; omega, (h.at_ s e he).2⟩, fun j hj => ?_, by omega⟩
  rcases Nat.lt_succ_iff_lt_or_eq.1 hj with h1 | rfl
  · exact h.all j h1
  · rw [FD_full]; exact hi
theorem Exp.push {ds A : List ByteArray} {i : Nat} {E : List Nat} (h : Exp ds A i E) (hi : fd ds i ∉ A ++ E.map (fd ds)) : Exp ds A (i + 1) (E ++ [i]) := by
  have hl := h.len
  refine ⟨fun s e he => ?_, fun j hj => ?_, by simp; omega⟩
  · rcases get_snoc he with h1 | ⟨h1, h2⟩
    · have := (List.getElem?_eq_some_iff.1 h1).1
      rw [FD_snoc (by omega)]
      exact ⟨by have := (h.at_ s e h1).1; omega, (h.at_ s e h1).2⟩
    · subst h1 h2
      rw [FD_snoc (Nat.le_refl _), FD_full]
      exact ⟨by omega, hi, fun j hj => by have := h.all j hj; rw [FD_full] at this; exact this⟩
  · rw [FD_full]
    rcases Nat.lt_succ_iff_lt_or_eq.1 hj with h1 | rfl
    · have := h.all j h1; rw [FD_full] at this
      simp only [List.map_append, List.mem_append] at this ⊢
      rcases this with h2 | h2
      · exact .inl h2
      · exact .inr (.inl h2)
    · simp
theorem Exp.found {ds A : List ByteArray} {E : List Nat} (h : Exp ds A ds.length E) {q : ByteArray → Bool} {s e : Nat} (he : E[s]? = some e) (hq : ∀ d, q d = !isin (FD ds A E s) (fold d)) : idx q ds = e := by
  obtain ⟨h1, h2, h3⟩ := h.at_ s e he
  refine idx_some (x := ds[e]) (List.getElem?_eq_getElem h1) ?_ ?_
  · rw [hq, ← fd_of (List.getElem?_eq_getElem h1), isin_false h2]; rfl
  · intro j y hj hy
    rw [hq, ← fd_of hy, isin_true (h3 j hj)]; rfl
theorem Exp.none {ds A : List ByteArray} {E : List Nat} (h : Exp ds A ds.length E) {q : ByteArray → Bool} (hq : ∀ d, q d = !isin (FD ds A E E.length) (fold d)) : idx q ds = -1 := by
  refine idx_none fun j y hy => ?_
  rw [hq, ← fd_of hy, isin_true (h.all j (List.getElem?_eq_some_iff.1 hy).1)]; rfl
end Go.Proofs.Qxb6609239a.R
