/-
  THE ORDER OF NAMES (bytewise), AND WHERE A NAME STANDS IN A LIST OF DEVICES WHOSE NAMES RISE: plain laws.
-/
import Derived.Test.Qxb6618884aNtReads
import Derived.Lib.Bytealg
namespace Go.Proofs.Qxb6618884a.Nt

def lt (x y : List UInt8) : Bool := Op.bytesLess x y
theorem lt_irrefl : ∀ x, lt x x = false
  | [] => rfl
  | a :: x => by simp only [lt, Op.bytesLess]; have := lt_irrefl x; simp only [lt] at this; simp [this]
theorem lt_trans : ∀ x y z, lt x y = true → lt y z = true → lt x z = true
  | x, y, [], _, h => by cases y <;> simp [lt, Op.bytesLess] at h
  | [], y, c :: z, _, _ => by simp [lt, Op.bytesLess]
  | a :: x, [], _, h, _ => by simp [lt, Op.bytesLess] at h
  | a :: x, b :: y, c :: z, h1, h2 => by
    have ih := lt_trans x y z
    simp only [lt, Op.bytesLess, Bool.or_eq_true, decide_eq_true_eq, Bool.and_eq_true, beq_iff_eq, UInt8.lt_iff_toNat_lt, ← UInt8.toNat_inj] at *
    rcases h1 with h1 | ⟨h1, h3⟩ <;> rcases h2 with h2 | ⟨h2, h4⟩
    · left; omega
    · left; omega
    · left; omega
    · right; exact ⟨by omega, ih h3 h4⟩
theorem lt_tri : ∀ x y, lt x y = true ∨ x = y ∨ lt y x = true
  | [], [] => by simp
  | [], _ :: _ => by simp [lt, Op.bytesLess]
  | _ :: _, [] => by simp [lt, Op.bytesLess]
  | a :: x, b :: y => by
    have ih := lt_tri x y
    simp only [lt, Op.bytesLess, Bool.or_eq_true, decide_eq_true_eq, Bool.and_eq_true, beq_iff_eq, UInt8.lt_iff_toNat_lt, ← UInt8.toNat_inj, List.cons.injEq] at *
    rcases Nat.lt_trichotomy a.toNat b.toNat with h | h | h
    · left; left; exact h
    · rcases ih with h1 | h1 | h1
      · left; right; exact ⟨h, h1⟩
      · right; left; exact ⟨h, h1⟩
      · right; right; right; exact ⟨h.symm, h1⟩
    · right; right; left; exact h
theorem lt_ne {x y : List UInt8} (h : lt x y = true) : x ≠ y := fun e => by rw [e, lt_irrefl] at h; cases h
theorem lt_asymm {x y : List UInt8} (h : lt x y = true) : lt y x = false := by
  cases h2 : lt y x
  · rfl
  · have := lt_trans _ _ _ h h2; rw [lt_irrefl] at this; cases this

theorem cmp_cases : ∀ x y, (Lib.compareBytes x y < 0 ↔ lt x y = true) ∧ (Lib.compareBytes x y = 0 ↔ x = y)
  | [], [] => by simp [Lib.compareBytes, lt, Op.bytesLess]
  | [], _ :: _ => by simp [Lib.compareBytes, lt, Op.bytesLess]
  | _ :: _, [] => by simp [Lib.compareBytes, lt, Op.bytesLess]
  | a :: x, b :: y => by
    have ih := cmp_cases x y
    simp only [Lib.compareBytes, lt, Op.bytesLess, Bool.or_eq_true, decide_eq_true_eq, Bool.and_eq_true, beq_iff_eq, List.cons.injEq] at *
    by_cases h1 : a < b
    · have h2 : a ≠ b := fun e => by subst e; simp at h1
      simp [h1, h2]
    · by_cases h2 : b < a
      · have h3 : a ≠ b := fun e => by subst e; simp at h2
        simp [h1, h2, h3]
      · have h3 : a = b := by rw [← UInt8.toNat_inj]; rw [UInt8.lt_iff_toNat_lt] at h1 h2; omega
        simp [h3, ih.1, ih.2]

/-- A device's name, as bytes. -/
def nk (d : Dv) : List UInt8 := d.nm.data.toList
theorem nk_toList (d : Dv) : d.nm.toList = nk d := Lib.toList_data _

/-- The names rise strictly. -/
def Asc (ds : List Dv) : Prop := ∀ (i j : Nat) (d e : Dv), i < j → ds[i]? = some d → ds[j]? = some e → lt (nk d) (nk e) = true

theorem Asc.of {ds : List Dv} (h : AscTo ds ds.length) : Asc ds := fun i j d e hij hd he => by
  induction j generalizing e with
  | zero => omega
  | succ j ih =>
    have hj : j + 1 < ds.length := (List.getElem?_eq_some_iff.1 he).1
    have hm : ds[j]? = some ds[j] := by simp
    have h1 : lt (nk ds[j]) (nk e) = true := by
      have := h j _ e hj hm he
      rw [nk_toList, nk_toList] at this
      exact this
    rcases Nat.lt_or_ge i j with h2 | h2
    · exact lt_trans _ _ _ (ih _ h2 hm) h1
    · obtain rfl : i = j := by omega
      rw [hm] at hd; cases hd; exact h1

theorem Asc.inj {ds : List Dv} (h : Asc ds) {i j : Nat} {d e : Dv} (hd : ds[i]? = some d) (he : ds[j]? = some e) (hn : nk d = nk e) : i = j := by
  rcases Nat.lt_trichotomy i j with h1 | h1 | h1
  · exact absurd hn (lt_ne (h i j d e h1 hd he))
  · exact h1
  · exact absurd hn.symm (lt_ne (h j i e d h1 he hd))

/-- Where the name n stands in ds; -1: nowhere. -/
def ix (ds : List Dv) (n : List UInt8) : Int := match ds.findIdx? (fun d => nk d == n) with
  | some i => i
  | none => -1

theorem ix_cases (ds : List Dv) (n : List UInt8) : (∃ (i : Nat) (d : Dv), ds[i]? = some d ∧ nk d = n ∧ ix ds n = (i : Int)) ∨ ((∀ d ∈ ds, nk d ≠ n) ∧ ix ds n = -1) := by
  cases h : ds.findIdx? (fun d => nk d == n) with
  | some i =>
    left
    obtain ⟨hi, h1, _⟩ := List.findIdx?_eq_some_iff_getElem.1 h
    exact ⟨i, ds[i], by simp, by simpa using h1, by simp [ix, h]⟩
  | none =>
    right
    refine ⟨fun d hd => ?_, by simp [ix, h]⟩
    have := List.findIdx?_eq_none_iff.1 h d hd
    simpa using this

theorem ix_at {ds : List Dv} (h : Asc ds) {i : Nat} {d : Dv} {n : List UInt8} (hd : ds[i]? = some d) (hn : nk d = n) : ix ds n = (i : Int) := by
  rcases ix_cases ds n with ⟨j, e, h1, h2, h3⟩ | ⟨h1, _⟩
  · rw [h3, h.inj h1 hd (h2.trans hn.symm)]
  · exact absurd hn (h1 d (List.mem_of_getElem? hd))
theorem ix_no {ds : List Dv} {n : List UInt8} (h : ∀ d ∈ ds, nk d ≠ n) : ix ds n = -1 := by
  rcases ix_cases ds n with ⟨j, e, h1, h2, h3⟩ | ⟨_, h1⟩
  · exact absurd h2 (h e (List.mem_of_getElem? h1))
  · exact h1
end Go.Proofs.Qxb6618884a.Nt
