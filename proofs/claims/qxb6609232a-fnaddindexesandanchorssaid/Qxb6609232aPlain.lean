import Derived.Maps.Views
/-
  The plain law of the anchors: each key holds the last place at which it was put; as many keys as last places. No Go text in sight.
-/
namespace Go.Proofs.Qxb6609232a.T
open Go.Maps
/-- the map after k steps -/
def Dm (ks : List (List UInt8)) : Nat → DataW Unit
  | 0 => .map []
  | k + 1 => if ks.getD k [] = [] then Dm ks k else (Dm ks k).put (.string (ks.getD k [])) (.lit (.int .u32 k))
theorem Dm_tidy (ks : List (List UInt8)) : ∀ k, Tidy (Dm ks k)
  | 0 => tidy_empty
  | k + 1 => by
    unfold Dm; split
    · exact Dm_tidy ks k
    · exact (Dm_tidy ks k).put (by trivial) _
theorem Dm_has (ks : List (List UInt8)) (κ : List UInt8) : ∀ k, Maps.has (Dm ks k) (.string κ) = true ↔ κ ≠ [] ∧ ∃ i, i < k ∧ ks.getD i [] = κ
  | 0 => by
    constructor
    · intro h; cases h
    · rintro ⟨_, i, hi, _⟩; omega
  | k + 1 => by
    have ih := Dm_has ks κ k
    unfold Dm
    split
    · rename_i he
      rw [ih]
      constructor
      · rintro ⟨h1, i, hi, e⟩; exact ⟨h1, i, by omega, e⟩
      · rintro ⟨h1, i, hi, e⟩
        refine ⟨h1, i, ?_, e⟩
        rcases Nat.lt_succ_iff_lt_or_eq.1 hi with h | rfl
        · exact h
        · exact absurd (e.symm.trans he) h1
    · rename_i he
      by_cases hk : ks.getD k [] = κ
      · subst hk
        rw [has_put_same (Dm_tidy ks k).isMap (by trivial)]
        exact ⟨fun _ => ⟨he, k, by omega, rfl⟩, fun _ => rfl⟩
      · rw [has_put_other (fun e => hk (by simpa using e.symm)), ih]
        constructor
        · rintro ⟨h1, i, hi, e⟩; exact ⟨h1, i, by omega, e⟩
        · rintro ⟨h1, i, hi, e⟩
          refine ⟨h1, i, ?_, e⟩
          rcases Nat.lt_succ_iff_lt_or_eq.1 hi with h | rfl
          · exact h
          · exact absurd e hk
/-- what a key holds: the last place at which it stands -/
theorem Dm_at (ks : List (List UInt8)) (κ : List UInt8) (hκ : κ ≠ []) : ∀ k, (∃ i, i < k ∧ ks.getD i [] = κ) → ∃ j, j < k ∧ ks.getD j [] = κ ∧ (∀ i, j < i → i < k → ks.getD i [] ≠ κ) ∧ ∀ z, (Dm ks k).atKey (.string κ) z = .lit (.int .u32 j)
  | 0 => by rintro ⟨i, hi, _⟩; omega
  | k + 1 => by
    rintro ⟨i, hi, e⟩
    by_cases hk : ks.getD k [] = κ
    · refine ⟨k, by omega, hk, fun i h1 h2 => by omega, fun z => ?_⟩
      unfold Dm
      rw [if_neg (by rw [hk]; exact hκ), hk]
      exact atKey_put_same (Dm_tidy ks k).isMap (by trivial) _ z
    · have hi' : i < k := by
        rcases Nat.lt_succ_iff_lt_or_eq.1 hi with h | rfl
        · exact h
        · exact absurd e hk
      obtain ⟨j, h1, h2, h3, h4⟩ := Dm_at ks κ hκ k ⟨i, hi', e⟩
      refine ⟨j, by omega, h2, fun i' a b => ?_, fun z => ?_⟩
      · rcases Nat.lt_succ_iff_lt_or_eq.1 b with h | rfl
        · exact h3 i' a h
        · exact hk
      · unfold Dm
        split
        · exact h4 z
        · rw [atKey_put_other (fun e => hk (by simpa using e.symm))]; exact h4 z
/-- k is the last place of its key among the first n -/
def lastB (ks : List (List UInt8)) (n k : Nat) : Bool := decide (ks.getD k [] ≠ [] ∧ ∀ i, i < n → k < i → ks.getD i [] ≠ ks.getD k [])
def cnt (ks : List (List UInt8)) (n m : Nat) : Nat := ((List.range m).filter (lastB ks n)).length
theorem cnt_succ (ks : List (List UInt8)) (n m : Nat) : cnt ks n (m + 1) = cnt ks n m + if lastB ks n m then 1 else 0 := by
  unfold cnt
  rw [List.range_succ, List.filter_append, List.length_append]
  congr 1
  cases h : lastB ks n m <;> simp [h]
theorem cnt_le (ks : List (List UInt8)) (n m : Nat) : cnt ks n m ≤ m := by
  unfold cnt
  have := List.length_filter_le (lastB ks n) (List.range m)
  simpa using this
theorem filter_drop_one {p q : Nat → Bool} {k0 : Nat} : ∀ (l : List Nat), l.Nodup → k0 ∈ l → p k0 = true → (∀ k ∈ l, q k = (p k && decide (k ≠ k0))) → (l.filter q).length + 1 = (l.filter p).length
  | [], _, h, _, _ => by cases h
  | x :: l, hn, h, hp, hq => by
    obtain ⟨hx, hn'⟩ := List.nodup_cons.1 hn
    have hqx := hq x (by simp)
    by_cases e : x = k0
    · subst e
      have : l.filter q = l.filter p := List.filter_congr fun k hk => by
        rw [hq k (by simp [hk]), decide_eq_true (p := k ≠ x) (fun (e : k = x) => hx (by rw [← e]; exact hk)), Bool.and_true]
      rw [List.filter_cons, List.filter_cons, hqx, hp, this]; simp
    · have hin : k0 ∈ l := by
        rcases List.mem_cons.1 h with h | h
        · exact absurd h.symm e
        · exact h
      have ih := filter_drop_one l hn' hin hp (fun k hk => hq k (by simp [hk]))
      rw [List.filter_cons, List.filter_cons, hqx, decide_eq_true (p := x ≠ k0) e, Bool.and_true]
      split
      · rw [List.length_cons, List.length_cons]; omega
      · exact ih
theorem Dm_size (ks : List (List UInt8)) : ∀ n, Maps.size (Dm ks n) = cnt ks n n
  | 0 => rfl
  | n + 1 => by
    have ih := Dm_size ks n
    rw [cnt_succ]
    by_cases he : ks.getD n [] = []
    · have e1 : lastB ks (n + 1) n = false := decide_eq_false (fun h => h.1 he)
      have e2 : cnt ks (n + 1) n = cnt ks n n := by
        unfold cnt
        congr 1
        refine List.filter_congr fun k hk => ?_
        have hkn := List.mem_range.1 hk
        unfold lastB
        rw [Bool.eq_iff_iff, decide_eq_true_iff, decide_eq_true_iff]
        constructor
        · rintro ⟨a, b⟩; exact ⟨a, fun i h1 h2 => b i (by omega) h2⟩
        · rintro ⟨a, b⟩
          refine ⟨a, fun i h1 h2 => ?_⟩
          rcases Nat.lt_succ_iff_lt_or_eq.1 h1 with h | rfl
          · exact b i h h2
          · rw [he]; exact fun x => a x.symm
      rw [e1, e2, ← ih, show Dm ks (n + 1) = Dm ks n from by rw [Dm, if_pos he]]; rfl
    · have e1 : lastB ks (n + 1) n = true := decide_eq_true ⟨he, fun i h1 h2 => by omega⟩
      have hq : ∀ k, k < n → lastB ks (n + 1) k = (lastB ks n k && decide (ks.getD n [] ≠ ks.getD k [])) := by
        intro k hkn
        unfold lastB
        rw [Bool.eq_iff_iff, Bool.and_eq_true, decide_eq_true_iff, decide_eq_true_iff, decide_eq_true_iff]
        constructor
        · rintro ⟨a, b⟩; exact ⟨⟨a, fun i h1 h2 => b i (by omega) h2⟩, b n (by omega) hkn⟩
        · rintro ⟨⟨a, b⟩, c⟩
          refine ⟨a, fun i h1 h2 => ?_⟩
          rcases Nat.lt_succ_iff_lt_or_eq.1 h1 with h | rfl
          · exact b i h h2
          · exact c
      rw [e1]
      simp only [if_true]
      have es : Dm ks (n + 1) = (Dm ks n).put (.string (ks.getD n [])) (.lit (.int .u32 n)) := by
        rw [Dm, if_neg he]
      rw [es, size_put (Dm_tidy ks n)]
      have hh := Dm_has ks (ks.getD n []) n
      by_cases hc : ∃ i, i < n ∧ ks.getD i [] = ks.getD n []
      · rw [if_pos (hh.2 ⟨he, hc⟩), ih]
        obtain ⟨j, h1, h2, h3, _⟩ := Dm_at ks (ks.getD n []) he n hc
        have pj : lastB ks n j = true := decide_eq_true ⟨by rw [h2]; exact he, fun i a b => by rw [h2]; exact h3 i b a⟩
        have := filter_drop_one (p := lastB ks n) (q := lastB ks (n + 1)) (k0 := j) (List.range n) List.nodup_range (List.mem_range.2 h1) pj (fun k hk => by
          have hkn := List.mem_range.1 hk
          rw [hq k hkn]
          cases hl : lastB ks n k
          · rfl
          · simp only [Bool.true_and]
            have hlk := of_decide_eq_true hl
            by_cases hkj : k = j
            · subst hkj; rw [decide_eq_false (by rw [h2]; simp), decide_eq_false (by simp)]
            · rw [decide_eq_true hkj, decide_eq_true]
              intro x
              rcases Nat.lt_or_gt_of_ne hkj with a | a
              · exact hlk.2 j h1 a (h2.trans x)
              · exact h3 k a hkn x.symm)
        unfold cnt; omega
      · rw [if_neg (fun x => hc (hh.1 x).2), ih]
        congr 1
        unfold cnt
        congr 1
        refine List.filter_congr fun k hk => ?_
        have hkn := List.mem_range.1 hk
        rw [hq k hkn, decide_eq_true (p := ks.getD n [] ≠ ks.getD k []) (fun x => hc ⟨k, hkn, x.symm⟩), Bool.and_true]
/-- where a key stands: what the map answers of it at the end -/
theorem Dm_end (ks : List (List UInt8)) (n k : Nat) (hk : k < n) (he : ks.getD k [] ≠ []) : ∃ j, k ≤ j ∧ j < n ∧ ks.getD j [] = ks.getD k [] ∧ Maps.has (Dm ks n) (.string (ks.getD k [])) = true ∧ (∀ z, (Dm ks n).atKey (.string (ks.getD k [])) z = .lit (.int .u32 j)) ∧ lastB ks n k = decide (j = k) := by
  obtain ⟨j, h1, h2, h3, h4⟩ := Dm_at ks (ks.getD k []) he n ⟨k, hk, rfl⟩
  have hkj : k ≤ j := by
    apply Nat.le_of_not_lt; intro h; exact h3 k h hk rfl
  refine ⟨j, hkj, h1, h2, (Dm_has ks _ n).2 ⟨he, k, hk, rfl⟩, h4, ?_⟩
  unfold lastB
  by_cases e : j = k
  · subst e; rw [decide_eq_true (p := j = j) rfl, decide_eq_true]; exact ⟨he, fun i a b => h3 i b a⟩
  · rw [decide_eq_false e, decide_eq_false]; rintro ⟨_, b⟩; exact b j h1 (by omega) h2
theorem Dm_none (ks : List (List UInt8)) (n : Nat) : Maps.has (Dm ks n) (.string []) = false := by
  cases h : Maps.has (Dm ks n) (.string [])
  · rfl
  · exact absurd rfl ((Dm_has ks [] n).1 h).1
theorem lastB_empty (ks : List (List UInt8)) (n k : Nat) (he : ks.getD k [] = []) : lastB ks n k = false := decide_eq_false (fun h => h.1 he)
end Go.Proofs.Qxb6609232a.T
