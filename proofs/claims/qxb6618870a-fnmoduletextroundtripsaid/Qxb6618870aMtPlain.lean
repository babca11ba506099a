/-
  THE PLAIN LAWS OF ModuleText: no Go in sight. A source 's', offsets 'O i', prefixes 'P i', modules 'M i' (lists of bytes), n uses.
-/
namespace Go.Proofs.Qxb6618870a.Mt

/-- Where the i-th piece of the source begins: behind the prefix before it. -/
def E (O : Nat → Nat) (P : Nat → List UInt8) : Nat → Nat
  | 0 => 0
  | k + 1 => O k + (P k).length

theorem E_succ (O : Nat → Nat) (P : Nat → List UInt8) (k : Nat) : E O P (k + 1) = O k + (P k).length := rfl

/-- What stands in the builder behind k uses. -/
def tx (s : List UInt8) (O : Nat → Nat) (P M : Nat → List UInt8) : Nat → List UInt8
  | 0 => []
  | k + 1 => tx s O P M k ++ (s.drop (E O P k)).take (O k - E O P k) ++ M k

/-- ModuleText's answer. -/
def mt (s : List UInt8) (O : Nat → Nat) (P M : Nat → List UInt8) (n : Nat) : List UInt8 :=
  tx s O P M n ++ s.drop (E O P n)

/-- The first k prefixes stand in the source at their offsets, in order, without overlap. -/
def Stand (s : List UInt8) (O : Nat → Nat) (P : Nat → List UInt8) (k : Nat) : Prop :=
  ∀ i, i < k → E O P i ≤ O i ∧ O i + (P i).length ≤ s.length ∧ (s.drop (O i)).take (P i).length = P i

/-- The lengths of the first k, added up. -/
def tot (M : Nat → List UInt8) : Nat → Nat
  | 0 => 0
  | k + 1 => tot M k + (M k).length

theorem Stand.mono {s : List UInt8} {O : Nat → Nat} {P : Nat → List UInt8} {k j : Nat} (h : Stand s O P k) (hj : j ≤ k) : Stand s O P j :=
  fun i hi => h i (by omega)

theorem Stand.E_le {s : List UInt8} {O : Nat → Nat} {P : Nat → List UInt8} {k : Nat} (h : Stand s O P k) : E O P k ≤ s.length := by
  cases k with
  | zero => simp [E]
  | succ k => exact (h k (by omega)).2.1

theorem tx_le {s : List UInt8} {O : Nat → Nat} {P M : Nat → List UInt8} : ∀ {k : Nat}, Stand s O P k → (tx s O P M k).length ≤ E O P k + tot M k
  | 0, _ => by simp [tx]
  | k + 1, h => by
    have h1 := tx_le (M := M) (h.mono (Nat.le_succ k))
    have h2 := h k (by omega)
    simp only [tx, List.length_append, List.length_take, List.length_drop, tot, E_succ]
    omega

theorem mt_le {s : List UInt8} {O : Nat → Nat} {P M : Nat → List UInt8} {n : Nat} (h : Stand s O P n) : (mt s O P M n).length ≤ s.length + tot M n := by
  have h1 := tx_le (M := M) h
  have h2 := h.E_le
  simp only [mt, List.length_append, List.length_drop]
  omega

/-- Each prefix stands for itself: what is written is the source so far. -/
theorem tx_self {s : List UInt8} {O : Nat → Nat} {P : Nat → List UInt8} : ∀ {k : Nat}, Stand s O P k → tx s O P P k = s.take (E O P k)
  | 0, _ => by simp [tx, E]
  | k + 1, h => by
    have h2 := h k (by omega)
    rw [tx, tx_self (h.mono (Nat.le_succ k)), E]
    have e1 : s.take (E O P k) ++ (s.drop (E O P k)).take (O k - E O P k) = s.take (O k) := by
      rw [← List.take_add, Nat.add_sub_cancel' h2.1]
    rw [e1]
    have e2 : s.take (O k + (P k).length) = s.take (O k) ++ (s.drop (O k)).take (P k).length := List.take_add
    rw [e2, h2.2.2]

theorem mt_self {s : List UInt8} {O : Nat → Nat} {P : Nat → List UInt8} {n : Nat} (h : Stand s O P n) : mt s O P P n = s := by
  rw [mt, tx_self h, List.take_append_drop]

/-! ### The way back -/
/-- The shift behind k uses. -/
def sh (P M : Nat → List UInt8) : Nat → Int
  | 0 => 0
  | k + 1 => sh P M k + ((M k).length - (P k).length)

/-- The i-th module's place in the answer. -/
def nO (O : Nat → Nat) (P M : Nat → List UInt8) (i : Nat) : Nat := ((O i : Int) + sh P M i).toNat

theorem tx_len {s : List UInt8} {O : Nat → Nat} {P M : Nat → List UInt8} : ∀ {k : Nat}, Stand s O P k → ((tx s O P M k).length : Int) = E O P k + sh P M k
  | 0, _ => by simp [tx, E, sh]
  | k + 1, h => by
    have h1 := tx_len (M := M) (h.mono (Nat.le_succ k))
    have h2 := h k (by omega)
    have h3 := (h.mono (Nat.le_succ k)).E_le
    simp only [tx, List.length_append, List.length_take, List.length_drop, sh, E_succ]
    omega

theorem nO_eq {s : List UInt8} {O : Nat → Nat} {P M : Nat → List UInt8} {k : Nat} (h : Stand s O P (k + 1)) : (nO O P M k : Int) = O k + sh P M k ∧ nO O P M k = (tx s O P M k).length + (O k - E O P k) := by
  have h1 := tx_len (M := M) (h.mono (Nat.le_succ k))
  have h2 := h k (by omega)
  unfold nO
  omega

theorem E_nO {s : List UInt8} {O : Nat → Nat} {P M : Nat → List UInt8} : ∀ {k : Nat}, Stand s O P k → E (nO O P M) M k = (tx s O P M k).length
  | 0, _ => by simp [tx, E]
  | k + 1, h => by
    have h1 := (nO_eq (M := M) h).2
    have h2 := h k (by omega)
    have h3 := (h.mono (Nat.le_succ k)).E_le
    simp only [tx, List.length_append, List.length_take, List.length_drop, E_succ]
    omega

theorem tx_isPrefix {s : List UInt8} {O : Nat → Nat} {P M : Nat → List UInt8} {k : Nat} : ∀ {n : Nat}, k ≤ n → ∃ r, tx s O P M n = tx s O P M k ++ r
  | 0, h => ⟨[], by rw [show k = 0 from by omega]; simp⟩
  | n + 1, h => by
    rcases Nat.lt_or_ge k (n + 1) with h1 | h1
    · obtain ⟨r, hr⟩ := tx_isPrefix (s := s) (O := O) (P := P) (M := M) (show k ≤ n from by omega)
      exact ⟨r ++ ((s.drop (E O P n)).take (O n - E O P n) ++ M n), by rw [tx, hr]; simp⟩
    · exact ⟨[], by rw [show k = n + 1 from by omega]; simp⟩

/-- The answer around the k-th use. -/
theorem mt_at {s : List UInt8} {O : Nat → Nat} {P M : Nat → List UInt8} {n k : Nat} (hk : k < n) :
    ∃ r, mt s O P M n = tx s O P M k ++ ((s.drop (E O P k)).take (O k - E O P k) ++ (M k ++ r)) := by
  obtain ⟨r, hr⟩ := tx_isPrefix (s := s) (O := O) (P := P) (M := M) (show k + 1 ≤ n from hk)
  exact ⟨r ++ s.drop (E O P n), by rw [mt, hr, tx]; simp⟩

theorem mt_len {s : List UInt8} {O : Nat → Nat} {P M : Nat → List UInt8} {n : Nat} (h : Stand s O P n) : ((mt s O P M n).length : Int) = s.length + sh P M n := by
  have h1 := tx_len (M := M) h
  have h2 := h.E_le
  simp only [mt, List.length_append, List.length_drop]
  omega

theorem drop_app {l r : List UInt8} {k : Nat} (h : k = l.length) : (l ++ r).drop k = r := by subst h; simp
theorem take_app {l r : List UInt8} {k : Nat} (h : k = l.length) : (l ++ r).take k = l := by subst h; simp

/-- The modules stand in the answer. -/
theorem stand_back {s : List UInt8} {O : Nat → Nat} {P M : Nat → List UInt8} {n : Nat} (h : Stand s O P n) : Stand (mt s O P M n) (nO O P M) M n := by
  intro i hi
  have hs := h.mono (show i + 1 ≤ n from hi)
  have h1 := (nO_eq (M := M) hs).2
  have h2 := E_nO (M := M) (h.mono (show i ≤ n from by omega))
  have h4 := h i hi
  have h5 := (h.mono (show i ≤ n from by omega)).E_le
  obtain ⟨r, hr⟩ := mt_at (s := s) (O := O) (P := P) (M := M) hi
  have hl : ((s.drop (E O P i)).take (O i - E O P i)).length = O i - E O P i := by simp only [List.length_take, List.length_drop]; omega
  refine ⟨by omega, ?_, ?_⟩
  · rw [hr]; simp only [List.length_append, hl]; omega
  · rw [hr, ← List.append_assoc, drop_app (by simp only [List.length_append, hl]; omega), take_app rfl]

theorem tx_back {s : List UInt8} {O : Nat → Nat} {P M : Nat → List UInt8} {n : Nat} (h : Stand s O P n) : ∀ {k : Nat}, k ≤ n → tx (mt s O P M n) (nO O P M) M P k = s.take (E O P k)
  | 0, _ => by simp [tx, E]
  | k + 1, hk => by
    have hs := h.mono hk
    have h1 := (nO_eq (M := M) hs).2
    have h2 := E_nO (M := M) (h.mono (show k ≤ n from by omega))
    have h4 := h k (by omega)
    have h5 := (h.mono (show k ≤ n from by omega)).E_le
    obtain ⟨r, hr⟩ := mt_at (s := s) (O := O) (P := P) (M := M) (show k < n from hk)
    have hl : ((s.drop (E O P k)).take (O k - E O P k)).length = O k - E O P k := by simp only [List.length_take, List.length_drop]; omega
    rw [tx, tx_back h (show k ≤ n from by omega), h2]
    have e1 : (mt s O P M n).drop (tx s O P M k).length = (s.drop (E O P k)).take (O k - E O P k) ++ (M k ++ r) := by rw [hr, drop_app rfl]
    rw [e1, take_app (by rw [hl]; omega), E]
    have e3 : s.take (E O P k) ++ (s.drop (E O P k)).take (O k - E O P k) = s.take (O k) := by
      rw [← List.take_add, Nat.add_sub_cancel' h4.1]
    rw [e3]
    have e2 : s.take (O k + (P k).length) = s.take (O k) ++ (s.drop (O k)).take (P k).length := List.take_add
    rw [e2, h4.2.2]

/-- THE WAY BACK gives the source. -/
theorem mt_back {s : List UInt8} {O : Nat → Nat} {P M : Nat → List UInt8} {n : Nat} (h : Stand s O P n) : mt (mt s O P M n) (nO O P M) M P n = s := by
  rw [mt, tx_back h (Nat.le_refl n), E_nO h]
  rw [show (mt s O P M n).drop (tx s O P M n).length = s.drop (E O P n) from by rw [mt, drop_app rfl], List.take_append_drop]
end Go.Proofs.Qxb6618870a.Mt
