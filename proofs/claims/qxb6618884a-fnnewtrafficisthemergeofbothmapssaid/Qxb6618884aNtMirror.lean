/-
  THE UNION BOTH WAYS ROUND: plain laws.
-/
import Derived.Test.Qxb6618884aNtUnion
namespace Go.Proofs.Qxb6618884a.Nt

theorem pairwise_of_asc {ds : List Dv} (h : Asc ds) : (ds.map nk).Pairwise fun x y => lt x y = true := by
  rw [List.pairwise_iff_getElem]
  intro i j hi hj hij
  rw [List.length_map] at hi hj
  simp only [List.getElem_map]
  exact h i j ds[i] ds[j] hij (by simp) (by simp)

theorem eq_of_mem : ∀ (l m : List (List UInt8)), l.Pairwise (fun x y => lt x y = true) → m.Pairwise (fun x y => lt x y = true) → (∀ n, n ∈ l ↔ n ∈ m) → l = m
  | [], [], _, _, _ => rfl
  | [], b :: m, _, _, h => absurd ((h b).2 (by simp)) (by simp)
  | a :: l, [], _, _, h => absurd ((h a).1 (by simp)) (by simp)
  | a :: l, b :: m, h1, h2, h => by
    rw [List.pairwise_cons] at h1 h2
    have hab : a = b := by
      have ha := (h a).1 (by simp)
      have hb := (h b).2 (by simp)
      rw [List.mem_cons] at ha hb
      rcases ha with ha | ha
      · exact ha
      · rcases hb with hb | hb
        · exact hb.symm
        · have := lt_asymm (h1.1 b hb)
          rw [h2.1 a ha] at this; cases this
    subst hab
    congr 1
    refine eq_of_mem l m h1.2 h2.2 fun n => ⟨fun hn => ?_, fun hn => ?_⟩
    · have := (h n).1 (List.mem_cons_of_mem _ hn)
      rcases List.mem_cons.1 this with rfl | h3
      · have := h1.1 n hn; rw [lt_irrefl] at this; cases this
      · exact h3
    · have := (h n).2 (List.mem_cons_of_mem _ hn)
      rcases List.mem_cons.1 this with rfl | h3
      · have := h2.1 n hn; rw [lt_irrefl] at this; cases this
      · exact h3

theorem ix_nonneg {ds : List Dv} {n : List UInt8} : 0 ≤ ix ds n ↔ n ∈ ds.map nk := by
  rcases ix_cases ds n with ⟨i, d, h1, h2, h3⟩ | ⟨h1, h2⟩
  · constructor
    · intro _; exact List.mem_map.2 ⟨d, List.mem_of_getElem? h1, h2⟩
    · intro _; omega
  · constructor
    · intro h; omega
    · intro h
      obtain ⟨d, hd, hn⟩ := List.mem_map.1 h
      exact absurd hn (h1 d hd)

theorem mem_union {xs ys U : List Dv} (h : IsUnion xs ys U) (n : List UInt8) : n ∈ U.map nk ↔ n ∈ xs.map nk ∨ n ∈ ys.map nk := by
  rw [(h.2.map nk).mem_iff, List.map_append, List.mem_append]
  constructor
  · rintro (h1 | h1)
    · exact .inl h1
    · obtain ⟨d, hd, hn⟩ := List.mem_map.1 h1
      exact .inr (List.mem_map.2 ⟨d, (List.mem_filter.1 hd).1, hn⟩)
  · rintro (h1 | h1)
    · exact .inl h1
    · by_cases hx : 0 ≤ ix xs n
      · exact .inl (ix_nonneg.1 hx)
      · obtain ⟨d, hd, rfl⟩ := List.mem_map.1 h1
        exact .inr (List.mem_map.2 ⟨d, List.mem_filter.2 ⟨hd, by simp; omega⟩, rfl⟩)

theorem names_eq {xs ys U V : List Dv} (h : IsUnion xs ys U) (k : IsUnion ys xs V) : U.map nk = V.map nk :=
  eq_of_mem _ _ (pairwise_of_asc h.1) (pairwise_of_asc k.1) fun n => by
    rw [mem_union h, mem_union k]; exact Or.comm

theorem ix_names (ds : List Dv) (n : List UInt8) : ix ds n = match (ds.map nk).findIdx? (fun m => m == n) with
    | some i => (i : Int)
    | none => -1 := by
  unfold ix
  rw [List.findIdx?_map]
  rfl
theorem ix_congr {U V : List Dv} (h : U.map nk = V.map nk) (n : List UInt8) : ix U n = ix V n := by rw [ix_names, ix_names, h]

/-- How many of the first k of A bear a name of B's. -/
def commTo (A B : List Dv) (k : Nat) : Nat := ((A.take k).filter fun d => decide (0 ≤ ix B (nk d))).length
def comm (A B : List Dv) : Nat := (A.filter fun d => decide (0 ≤ ix B (nk d))).length
theorem comm_zero (A B : List Dv) : commTo A B 0 = 0 := rfl
theorem comm_all (A B : List Dv) : commTo A B A.length = comm A B := by simp [commTo, comm]
theorem commTo_le (A B : List Dv) (k : Nat) : commTo A B k ≤ k := Nat.le_trans (List.length_filter_le _ _) (by simp; omega)
theorem comm_le (A B : List Dv) : comm A B ≤ A.length := List.length_filter_le _ _
theorem comm_yes {A B : List Dv} {k : Nat} {d : Dv} (hd : A[k]? = some d) (h : 0 ≤ ix B (nk d)) : commTo A B (k + 1) = commTo A B k + 1 := by
  have hk := (List.getElem?_eq_some_iff.1 hd).1
  have he := (List.getElem?_eq_some_iff.1 hd).2
  unfold commTo
  rw [List.take_succ_eq_append_getElem hk, List.filter_append, he]
  simp [h]
theorem comm_no {A B : List Dv} {k : Nat} {d : Dv} (hd : A[k]? = some d) (h : ¬ 0 ≤ ix B (nk d)) : commTo A B (k + 1) = commTo A B k := by
  have hk := (List.getElem?_eq_some_iff.1 hd).1
  have he := (List.getElem?_eq_some_iff.1 hd).2
  unfold commTo
  rw [List.take_succ_eq_append_getElem hk, List.filter_append, he]
  simp only [List.filter_cons, List.filter_nil, List.length_append]
  rw [if_neg (by simpa using h)]
  rfl

theorem split_len {α : Type} (p q : α → Bool) (h : ∀ x, q x = !p x) : ∀ l : List α, (l.filter p).length + (l.filter q).length = l.length
  | [] => rfl
  | a :: l => by
    have ih := split_len p q h l
    rw [List.filter_cons, List.filter_cons, h a]
    cases p a <;> simp <;> omega

theorem len_union {xs ys U : List Dv} (h : IsUnion xs ys U) : U.length + comm ys xs = xs.length + ys.length := by
  have h1 := h.2.length_eq
  rw [List.length_append] at h1
  have h2 : (extra xs ys).length + comm ys xs = ys.length := split_len _ _ (fun d => by simp only [← decide_not]; congr 1; simp only [eq_iff_iff]; omega) ys
  omega

theorem comm_symm {xs ys U V : List Dv} (h : IsUnion xs ys U) (k : IsUnion ys xs V) : comm xs ys = comm ys xs := by
  have h1 := len_union h
  have h2 := len_union k
  have h3 : U.length = V.length := by simpa using congrArg List.length (names_eq h k)
  have h4 := comm_le xs ys
  have h5 := comm_le ys xs
  omega

theorem mem_drop {A : List Dv} {i : Nat} {x : Dv} (h : x ∈ A.drop i) : ∃ p, i ≤ p ∧ A[p]? = some x := by
  obtain ⟨q, hq⟩ := List.getElem?_of_mem h
  rw [List.getElem?_drop] at hq
  exact ⟨i + q, by omega, hq⟩
theorem drop_of {A : List Dv} {i : Nat} {d : Dv} (h : A[i]? = some d) : A.drop i = d :: A.drop (i + 1) := by
  obtain ⟨hi, he⟩ := List.getElem?_eq_some_iff.1 h
  rw [List.drop_eq_getElem_cons hi, he]
theorem drop_end {A : List Dv} {i : Nat} (h : ¬ i < A.length) : A.drop i = [] := List.drop_eq_nil_of_le (by omega)

/-- What is left to count from places i, j on. -/
def left (A B : List Dv) (i j : Nat) : Nat := ((A.drop i).filter fun d => decide (nk d ∈ (B.drop j).map nk)).length
theorem left_eq {A B : List Dv} {i j : Nat} {d e : Dv} (hA : Asc A) (h : A[i]? = some d) (k : B[j]? = some e) (hn : nk d = nk e) : left A B i j = left A B (i + 1) (j + 1) + 1 := by
  unfold left
  rw [drop_of h, drop_of k, List.filter_cons, if_pos (by simp [hn]), List.length_cons]
  congr 2
  refine List.filter_congr fun x hx => ?_
  obtain ⟨p, hp, hpx⟩ := mem_drop hx
  have h1 : nk x ≠ nk e := fun e1 => lt_ne (hA i p d x (by omega) h hpx) (hn.trans e1.symm)
  rw [List.map_cons]
  simp only [List.mem_cons, h1, false_or]
theorem left_lt {A B : List Dv} {i j : Nat} {d e : Dv} (hB : Asc B) (h : A[i]? = some d) (k : B[j]? = some e) (hn : lt (nk d) (nk e) = true) : left A B i j = left A B (i + 1) j := by
  unfold left
  rw [drop_of h, List.filter_cons, if_neg]
  intro hm
  rw [decide_eq_true_eq] at hm
  obtain ⟨x, hx, hxn⟩ := List.mem_map.1 hm
  obtain ⟨p, hp, hpx⟩ := mem_drop hx
  rcases Nat.lt_or_ge j p with h1 | h1
  · exact lt_ne (lt_trans _ _ _ hn (hB j p e x h1 k hpx)) hxn.symm
  · obtain rfl : p = j := by omega
    rw [k] at hpx; cases hpx
    exact lt_ne hn hxn.symm
theorem left_gt {A B : List Dv} {i j : Nat} {d e : Dv} (hA : Asc A) (h : A[i]? = some d) (k : B[j]? = some e) (hne : nk d ≠ nk e) (hn : lt (nk d) (nk e) = false) : left A B i j = left A B i (j + 1) := by
  have hed : lt (nk e) (nk d) = true := by
    rcases lt_tri (nk d) (nk e) with h1 | h1 | h1
    · rw [hn] at h1; cases h1
    · exact absurd h1 hne
    · exact h1
  unfold left
  rw [drop_of k]
  congr 1
  refine List.filter_congr fun x hx => ?_
  obtain ⟨p, hp, hpx⟩ := mem_drop hx
  have h1 : nk x ≠ nk e := by
    rcases Nat.lt_or_ge i p with h2 | h2
    · exact fun e1 => lt_ne (lt_trans _ _ _ hed (hA i p d x h2 h hpx)) e1.symm
    · obtain rfl : p = i := by omega
      rw [h] at hpx; cases hpx
      exact hne
  rw [List.map_cons]
  simp only [List.mem_cons, h1, false_or]
theorem left_end {A B : List Dv} {i j : Nat} (h : ¬ (i < A.length ∧ j < B.length)) : left A B i j = 0 := by
  unfold left
  rcases Nat.lt_or_ge i A.length with h1 | h1
  · rw [drop_end (A := B) (by omega), List.length_eq_zero_iff, List.filter_eq_nil_iff]
    intro x _
    simp
  · rw [drop_end (A := A) (by omega)]
    rfl
theorem left_all (A B : List Dv) : left A B 0 0 = comm A B := by
  unfold left comm
  congr 1
  rw [List.drop_zero, List.drop_zero]
  refine List.filter_congr fun d _ => ?_
  congr 1
  exact propext ix_nonneg.symm

/-- A member's row. -/
theorem ix_mem {U : List Dv} {n : List UInt8} (h : n ∈ U.map nk) : ∃ (p : Nat) (e : Dv), U[p]? = some e ∧ nk e = n ∧ ix U n = (p : Int) := by
  rcases ix_cases U n with h1 | ⟨h1, h2⟩
  · exact h1
  · obtain ⟨d, hd, hn⟩ := List.mem_map.1 h
    exact absurd hn (h1 d hd)
theorem mem_of_at {A : List Dv} {i : Nat} {d : Dv} (h : A[i]? = some d) : nk d ∈ A.map nk := List.mem_map.2 ⟨d, List.mem_of_getElem? h, rfl⟩
theorem same_name {U V : List Dv} (h : U.map nk = V.map nk) {k : Nat} {d e : Dv} (hd : U[k]? = some d) (he : V[k]? = some e) : nk d = nk e := by
  have h1 : (U.map nk)[k]? = some (nk d) := by simp [hd]
  have h2 : (V.map nk)[k]? = some (nk e) := by simp [he]
  rw [h, h2] at h1
  simpa using h1.symm
end Go.Proofs.Qxb6618884a.Nt
