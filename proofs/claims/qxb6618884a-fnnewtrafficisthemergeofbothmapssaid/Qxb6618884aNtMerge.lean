/-
  THE UNION IS THE MERGE: plain laws.
-/
import Derived.Test.Qxb6618884aNtMirror
import Derived.Test.Qxb6618884aNtMatch
namespace Go.Proofs.Qxb6618884a.Nt

/-- The names rise: pairwise. -/
def Up (ds : List Dv) : Prop := ds.Pairwise fun d e => lt (nk d) (nk e) = true
theorem up_of_asc {ds : List Dv} (h : Asc ds) : Up ds := by
  unfold Up
  rw [List.pairwise_iff_getElem]
  intro i j hi hj hij
  exact h i j ds[i] ds[j] hij (by simp) (by simp)

theorem eq_of_up : ∀ (l m : List Dv), Up l → Up m → (∀ d, d ∈ l ↔ d ∈ m) → l = m
  | [], [], _, _, _ => rfl
  | [], b :: m, _, _, h => absurd ((h b).2 (by simp)) (by simp)
  | a :: l, [], _, _, h => absurd ((h a).1 (by simp)) (by simp)
  | a :: l, b :: m, h1, h2, h => by
    unfold Up at h1 h2
    rw [List.pairwise_cons] at h1 h2
    have hab : a = b := by
      have ha := (h a).1 (by simp)
      have hb := (h b).2 (by simp)
      rw [List.mem_cons] at ha hb
      rcases ha with ha | ha
      · exact ha
      · rcases hb with hb | hb
        · exact hb.symm
        · have := lt_asymm (h1.1 b hb)
          rw [h2.1 a ha] at this; cases this
    subst hab
    congr 1
    refine eq_of_up l m h1.2 h2.2 fun n => ⟨fun hn => ?_, fun hn => ?_⟩
    · have := (h n).1 (List.mem_cons_of_mem _ hn)
      rcases List.mem_cons.1 this with rfl | h3
      · have := h1.1 n hn; rw [lt_irrefl] at this; cases this
      · exact h3
    · have := (h n).2 (List.mem_cons_of_mem _ hn)
      rcases List.mem_cons.1 this with rfl | h3
      · have := h2.1 n hn; rw [lt_irrefl] at this; cases this
      · exact h3

/-- The merge by name, a device of both as the second list has it. (n: fuel.) -/
def mg : Nat → List Dv → List Dv → List Dv
  | 0, _, _ => []
  | n + 1, f :: fs, t :: ts => if nk t = nk f then t :: mg n fs ts else if lt (nk t) (nk f) then t :: mg n (f :: fs) ts else f :: mg n fs (t :: ts)
  | _ + 1, [], ts => ts
  | _ + 1, f :: fs, [] => f :: fs
theorem mg_nil_left (n : Nat) (ts : List Dv) (h : ts.length ≤ n) : mg n [] ts = ts := by
  cases n with
  | zero => cases ts with
    | nil => rfl
    | cons t ts => simp at h
  | succ n => cases ts <;> rfl
theorem mg_nil_right (n : Nat) (fs : List Dv) (h : fs.length ≤ n) : mg n fs [] = fs := by
  cases n with
  | zero => cases fs with
    | nil => rfl
    | cons t ts => simp at h
  | succ n => cases fs <;> rfl

theorem mg_mem (n : Nat) : ∀ (fs ts : List Dv), fs.length + ts.length ≤ n → Up fs → Up ts → ∀ d, d ∈ mg n fs ts ↔ d ∈ ts ∨ (d ∈ fs ∧ ∀ e ∈ ts, nk e ≠ nk d) := by
  induction n with
  | zero =>
    intro fs ts hl _ _ d
    have h1 : fs = [] := List.eq_nil_of_length_eq_zero (by omega)
    have h2 : ts = [] := List.eq_nil_of_length_eq_zero (by omega)
    subst h1 h2
    simp [mg]
  | succ n ih =>
    intro fs ts hl h1 h2 d
    cases fs with
    | nil => rw [mg_nil_left _ _ (by simpa using hl)]; simp
    | cons f fs => cases ts with
      | nil => rw [mg_nil_right _ _ (by simpa using hl)]; simp
      | cons t ts =>
        have h1' := List.pairwise_cons.1 h1
        have h2' := List.pairwise_cons.1 h2
        simp only [List.length_cons] at hl
        rw [mg]
        by_cases hn : nk t = nk f
        · rw [if_pos hn, List.mem_cons, ih fs ts (by omega) h1'.2 h2'.2, List.mem_cons, List.mem_cons]
          constructor
          · rintro (rfl | h | ⟨h, h3⟩)
            · exact .inl (.inl rfl)
            · exact .inl (.inr h)
            · refine .inr ⟨.inr h, fun e he => ?_⟩
              rcases List.mem_cons.1 he with rfl | he
              · rw [hn]; exact lt_ne (h1'.1 d h)
              · exact h3 e he
          · rintro ((rfl | h) | ⟨rfl | h, h3⟩)
            · exact .inl rfl
            · exact .inr (.inl h)
            · exact absurd hn (h3 t (by simp))
            · exact .inr (.inr ⟨h, fun e he => h3 e (List.mem_cons_of_mem _ he)⟩)
        · by_cases hl2 : lt (nk t) (nk f) = true
          · rw [if_neg hn, if_pos hl2, List.mem_cons, ih (f :: fs) ts (by simp only [List.length_cons]; omega) h1 h2'.2, List.mem_cons (b := t)]
            constructor
            · rintro (rfl | h | ⟨h, h3⟩)
              · exact .inl (.inl rfl)
              · exact .inl (.inr h)
              · refine .inr ⟨h, fun e he => ?_⟩
                rcases List.mem_cons.1 he with rfl | he
                · rcases List.mem_cons.1 h with rfl | h
                  · exact hn
                  · exact lt_ne (lt_trans _ _ _ hl2 (h1'.1 d h))
                · exact h3 e he
            · rintro ((rfl | h) | ⟨h, h3⟩)
              · exact .inl rfl
              · exact .inr (.inl h)
              · exact .inr (.inr ⟨h, fun e he => h3 e (List.mem_cons_of_mem _ he)⟩)
          · have hft : lt (nk f) (nk t) = true := by rcases lt_tri (nk t) (nk f) with h | h | h; exact absurd h hl2; exact absurd h hn; exact h
            rw [if_neg hn, if_neg hl2, List.mem_cons, ih fs (t :: ts) (by simp only [List.length_cons]; omega) h1'.2 h2, List.mem_cons (b := f)]
            constructor
            · rintro (rfl | h | ⟨h, h3⟩)
              · refine .inr ⟨.inl rfl, fun e he => ?_⟩
                rcases List.mem_cons.1 he with rfl | he
                · exact hn
                · exact (lt_ne (lt_trans _ _ _ hft (h2'.1 e he))).symm
              · exact .inl h
              · exact .inr ⟨.inr h, h3⟩
            · rintro (h | ⟨rfl | h, h3⟩)
              · exact .inr (.inl h)
              · exact .inl rfl
              · exact .inr (.inr ⟨h, h3⟩)

theorem mg_up (n : Nat) : ∀ (fs ts : List Dv), fs.length + ts.length ≤ n → Up fs → Up ts → Up (mg n fs ts) := by
  induction n with
  | zero => intro fs ts _ _ _; exact List.Pairwise.nil
  | succ n ih =>
    intro fs ts hl h1 h2
    cases fs with
    | nil => rw [mg_nil_left _ _ (by simpa using hl)]; exact h2
    | cons f fs => cases ts with
      | nil => rw [mg_nil_right _ _ (by simpa using hl)]; exact h1
      | cons t ts =>
        have h1' := List.pairwise_cons.1 h1
        have h2' := List.pairwise_cons.1 h2
        simp only [List.length_cons] at hl
        rw [mg]
        by_cases hn : nk t = nk f
        · rw [if_pos hn]
          refine List.pairwise_cons.2 ⟨fun d hd => ?_, ih fs ts (by omega) h1'.2 h2'.2⟩
          rcases (mg_mem n fs ts (by omega) h1'.2 h2'.2 d).1 hd with h | ⟨h, _⟩
          · exact h2'.1 d h
          · rw [hn]; exact h1'.1 d h
        · by_cases hl2 : lt (nk t) (nk f) = true
          · rw [if_neg hn, if_pos hl2]
            have hle : (f :: fs).length + ts.length ≤ n := by simp only [List.length_cons]; omega
            refine List.pairwise_cons.2 ⟨fun d hd => ?_, ih (f :: fs) ts hle h1 h2'.2⟩
            rcases (mg_mem n (f :: fs) ts hle h1 h2'.2 d).1 hd with h | ⟨h, _⟩
            · exact h2'.1 d h
            · rcases List.mem_cons.1 h with rfl | h
              · exact hl2
              · exact lt_trans _ _ _ hl2 (h1'.1 d h)
          · have hft : lt (nk f) (nk t) = true := by rcases lt_tri (nk t) (nk f) with h | h | h; exact absurd h hl2; exact absurd h hn; exact h
            rw [if_neg hn, if_neg hl2]
            have hle : fs.length + (t :: ts).length ≤ n := by simp only [List.length_cons]; omega
            refine List.pairwise_cons.2 ⟨fun d hd => ?_, ih fs (t :: ts) hle h1'.2 h2⟩
            rcases (mg_mem n fs (t :: ts) hle h1'.2 h2 d).1 hd with h | ⟨h, _⟩
            · rcases List.mem_cons.1 h with rfl | h
              · exact hft
              · exact lt_trans _ _ _ hft (h2'.1 d h)
            · exact h1'.1 d h

theorem union_mg {fs ts U : List Dv} (h1 : Asc fs) (h2 : Asc ts) (h : IsUnion ts fs U) : U = mg (fs.length + ts.length) fs ts :=
  eq_of_up _ _ (up_of_asc h.1) (mg_up _ fs ts (Nat.le_refl _) (up_of_asc h1) (up_of_asc h2)) fun d => by
    rw [mg_mem _ fs ts (Nat.le_refl _) (up_of_asc h1) (up_of_asc h2) d, h.2.mem_iff, List.mem_append]
    unfold extra
    rw [List.mem_filter]
    have : (decide (ix ts (nk d) < 0) = true) ↔ ∀ e ∈ ts, nk e ≠ nk d := by
      rw [decide_eq_true_eq]
      constructor
      · exact fun h => ix_neg h
      · intro h; rw [ix_no h]; omega
    rw [this]

/-- Where the merge stands: i of fs, j of ts, k of U are done. -/
def At (fs ts U : List Dv) (i j k : Nat) : Prop :=
  (∃ n, (fs.drop i).length + (ts.drop j).length ≤ n ∧ U.drop k = mg n (fs.drop i) (ts.drop j)) ∧ ∀ (p : Nat) (d e : Dv), p < j → ts[p]? = some d → fs[i]? = some e → lt (nk d) (nk e) = true

theorem of_drop {A l : List Dv} {i : Nat} {d : Dv} (h : A.drop i = d :: l) : A[i]? = some d ∧ A.drop (i + 1) = l ∧ i < A.length := by
  have hi : i < A.length := by
    rcases Nat.lt_or_ge i A.length with h1 | h1
    · exact h1
    · rw [List.drop_eq_nil_of_le h1] at h; cases h
  rw [List.drop_eq_getElem_cons hi] at h
  cases h
  exact ⟨by simp, rfl, hi⟩
theorem At.start {fs ts U : List Dv} (h1 : Asc fs) (h2 : Asc ts) (h : IsUnion ts fs U) : At fs ts U 0 0 0 :=
  ⟨⟨fs.length + ts.length, by simp, by simpa using union_mg h1 h2 h⟩, fun p d e hp => by omega⟩

/-- Both lists hold the name. -/
theorem At.both {fs ts U : List Dv} {i j k : Nat} {f t : Dv} (h : At fs ts U i j k) (h1 : Asc fs) (h2 : Asc ts) (hU : Asc U) (hf : fs[i]? = some f) (ht : ts[j]? = some t) (hn : nk t = nk f) :
    At fs ts U (i + 1) (j + 1) (k + 1) ∧ U[k]? = some t ∧ k < U.length ∧ (k : Int) = ix U (nk f) ∧ (j : Int) = ix ts (nk f) ∧ (k : Int) = ix U (nk t) := by
  obtain ⟨⟨n, hle, h3⟩, hp⟩ := h
  rw [drop_of hf, drop_of ht] at hle h3
  simp only [List.length_cons] at hle
  obtain ⟨m, rfl⟩ : ∃ m, n = m + 1 := ⟨n - 1, by omega⟩
  rw [mg, if_pos hn] at h3
  obtain ⟨k1, k2, k3⟩ := of_drop h3
  refine ⟨⟨⟨m, by omega, k2⟩, fun p d e hpj hd he => ?_⟩, k1, k3, (ix_at hU k1 hn).symm, (ix_at h2 ht hn).symm, (ix_at hU k1 rfl).symm⟩
  have hfe := h1 i (i + 1) f e (by omega) hf he
  rcases Nat.lt_or_ge p j with h4 | h4
  · exact lt_trans _ _ _ (hp p d f h4 hd hf) hfe
  · obtain rfl : p = j := by omega
    rw [ht] at hd; cases hd
    rw [hn]; exact hfe

/-- The second list's device comes first. -/
theorem At.right {fs ts U : List Dv} {i j k : Nat} {t : Dv} (h : At fs ts U i j k) (hU : Asc U) (ht : ts[j]? = some t) (hl : ∀ f, fs[i]? = some f → lt (nk t) (nk f) = true) :
    At fs ts U i (j + 1) (k + 1) ∧ U[k]? = some t ∧ k < U.length ∧ (k : Int) = ix U (nk t) := by
  obtain ⟨⟨n, hle, h3⟩, hp⟩ := h
  have hle2 := hle
  rw [drop_of ht] at hle h3
  simp only [List.length_cons] at hle
  obtain ⟨m, rfl⟩ : ∃ m, n = m + 1 := ⟨n - 1, by omega⟩
  have h4 : mg (m + 1) (fs.drop i) (t :: ts.drop (j + 1)) = t :: mg m (fs.drop i) (ts.drop (j + 1)) := by
    rcases Nat.lt_or_ge i fs.length with h5 | h5
    · obtain ⟨f, hf⟩ := at_of h5
      rw [drop_of hf, mg, if_neg (lt_ne (hl f hf)), if_pos (hl f hf)]
    · rw [drop_end (A := fs) (by omega), mg_nil_left _ _ (by simp only [List.length_cons]; omega), mg_nil_left _ _ (by omega)]
  rw [h4] at h3
  obtain ⟨k1, k2, k3⟩ := of_drop h3
  refine ⟨⟨⟨m, by omega, k2⟩, fun p d e hpj hd he => ?_⟩, k1, k3, (ix_at hU k1 rfl).symm⟩
  rcases Nat.lt_or_ge p j with h5 | h5
  · exact hp p d e h5 hd he
  · obtain rfl : p = j := by omega
    rw [ht] at hd; cases hd
    exact hl e he

/-- The first list's device comes first. -/
theorem At.left {fs ts U : List Dv} {i j k : Nat} {f : Dv} (h : At fs ts U i j k) (h1 : Asc fs) (h2 : Asc ts) (hU : Asc U) (hf : fs[i]? = some f) (hl : ∀ t, ts[j]? = some t → lt (nk f) (nk t) = true) :
    At fs ts U (i + 1) j (k + 1) ∧ U[k]? = some f ∧ k < U.length ∧ (k : Int) = ix U (nk f) ∧ (-1 : Int) = ix ts (nk f) := by
  obtain ⟨⟨n, hle, h3⟩, hp⟩ := h
  rw [drop_of hf] at hle h3
  simp only [List.length_cons] at hle
  obtain ⟨m, rfl⟩ : ∃ m, n = m + 1 := ⟨n - 1, by omega⟩
  have h4 : mg (m + 1) (f :: fs.drop (i + 1)) (ts.drop j) = f :: mg m (fs.drop (i + 1)) (ts.drop j) := by
    rcases Nat.lt_or_ge j ts.length with h5 | h5
    · obtain ⟨t, ht⟩ := at_of h5
      have hft := hl t ht
      rw [drop_of ht, mg, if_neg (fun e => lt_ne hft e.symm), if_neg (by simp [lt_asymm hft])]
    · rw [drop_end (A := ts) (by omega), mg_nil_right _ _ (by simp only [List.length_cons]; omega), mg_nil_right _ _ (by omega)]
  rw [h4] at h3
  obtain ⟨k1, k2, k3⟩ := of_drop h3
  refine ⟨⟨⟨m, by omega, k2⟩, fun p d e hpj hd he => ?_⟩, k1, k3, (ix_at hU k1 rfl).symm, (ix_no fun d hd hn => ?_).symm⟩
  · exact lt_trans _ _ _ (hp p d f hpj hd hf) (h1 i (i + 1) f e (by omega) hf he)
  · obtain ⟨p, hpd⟩ := List.getElem?_of_mem hd
    rcases Nat.lt_or_ge p j with h5 | h5
    · exact lt_ne (hp p d f h5 hpd hf) hn
    · obtain ⟨t, ht⟩ := at_of (show j < ts.length by have := (List.getElem?_eq_some_iff.1 hpd).1; omega)
      have hft := hl t ht
      rcases Nat.lt_or_ge j p with h6 | h6
      · exact lt_ne (lt_trans _ _ _ hft (h2 j p t d h6 ht hpd)) hn.symm
      · obtain rfl : p = j := by omega
        rw [ht] at hpd; cases hpd
        exact lt_ne hft hn.symm

theorem At.done {fs ts U : List Dv} {i j k : Nat} (h : At fs ts U i j k) (hi : ¬ i < fs.length) (hj : ¬ j < ts.length) : U.length ≤ k := by
  obtain ⟨⟨n, _, h3⟩, _⟩ := h
  rw [drop_end hi, drop_end hj, mg_nil_left _ _ (by simp)] at h3
  exact List.drop_eq_nil_iff.1 h3
end Go.Proofs.Qxb6618884a.Nt
