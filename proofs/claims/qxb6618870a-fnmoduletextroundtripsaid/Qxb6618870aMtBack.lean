/-
  MORE PLAIN LAWS OF ModuleText: the numbers that the round trip reckons.
-/
import Derived.Test.Qxb6618870aMtSelf
namespace Go.Proofs.Qxb6618870a.Mt

theorem sh_bd (P M : Nat → List UInt8) : ∀ k, -(tot P k : Int) ≤ sh P M k ∧ sh P M k ≤ tot M k
  | 0 => by simp [sh, tot]
  | k + 1 => by
    have := sh_bd P M k
    simp only [sh, tot]
    omega

theorem E_congr {O O' : Nat → Nat} {P : Nat → List UInt8} {n : Nat} (h : ∀ j, j < n → O j = O' j) : ∀ k, k ≤ n → E O P k = E O' P k
  | 0, _ => rfl
  | k + 1, hk => by rw [E_succ, E_succ, h k (by omega)]

theorem tx_congr {s : List UInt8} {O O' : Nat → Nat} {P M : Nat → List UInt8} {n : Nat} (h : ∀ j, j < n → O j = O' j) : ∀ k, k ≤ n → tx s O P M k = tx s O' P M k
  | 0, _ => rfl
  | k + 1, hk => by rw [tx, tx, tx_congr h k (by omega), E_congr h k (by omega), h k (by omega)]

theorem mt_congr {s : List UInt8} {O O' : Nat → Nat} {P M : Nat → List UInt8} {n : Nat} (h : ∀ j, j < n → O j = O' j) : mt s O P M n = mt s O' P M n := by
  rw [mt, mt, tx_congr h n (Nat.le_refl _), E_congr h n (Nat.le_refl _)]

theorem stand_congr {s : List UInt8} {O O' : Nat → Nat} {P : Nat → List UInt8} {n : Nat} (h : ∀ j, j < n → O j = O' j) (hs : Stand s O P n) : Stand s O' P n := fun i hi => by
  have := hs i hi
  rw [E_congr h i (by omega), h i hi] at this
  exact this

/-- The new offsets, as a list. -/
def newZ (O : Nat → Nat) (P M : Nat → List UInt8) (n : Nat) : List Int := (List.range n).map fun j => (nO O P M j : Int)
theorem newZ_len (O : Nat → Nat) (P M : Nat → List UInt8) (n : Nat) : (newZ O P M n).length = n := by simp [newZ]
theorem newZ_at (O : Nat → Nat) (P M : Nat → List UInt8) {n j : Nat} (h : j < n) : (newZ O P M n)[j]? = some (nO O P M j : Int) := by simp [newZ, h]
theorem newZ_Oz (O : Nat → Nat) (P M : Nat → List UInt8) {n : Nat} : ∀ j, j < n → nO O P M j = Oz (newZ O P M n) j := fun _ hj => (Oz_of (newZ_at O P M hj)).symm

/-- The way back, over the list of the new offsets. -/
theorem stands_back {src T : ByteArray} {zs : List Int} {ps ms : List ByteArray} {n : Nat} (h : Stands src zs ps n) (hT : T = ⟨(mt src.data.toList (Oz zs) (Pb ps) (Pb ms) n).toArray⟩) :
    Stands T (newZ (Oz zs) (Pb ps) (Pb ms) n) ms n ∧ mt T.data.toList (Oz (newZ (Oz zs) (Pb ps) (Pb ms) n)) (Pb ms) (Pb ps) n = src.data.toList := by
  have e : T.data.toList = mt src.data.toList (Oz zs) (Pb ps) (Pb ms) n := by rw [hT]
  refine ⟨⟨?_, fun j hj => ?_⟩, ?_⟩
  · rw [e]; exact stand_congr (newZ_Oz _ _ _) (stand_back h.1)
  · simp [newZ_at _ _ _ hj]
  · rw [e, ← mt_congr (newZ_Oz _ _ _)]; exact mt_back h.1

theorem T_size {src T : ByteArray} {zs : List Int} {ps ms : List ByteArray} {n : Nat} (h : Stands src zs ps n) (hT : T = ⟨(mt src.data.toList (Oz zs) (Pb ps) (Pb ms) n).toArray⟩) :
    (T.size : Int) = src.size + sh (Pb ps) (Pb ms) n ∧ T.size ≤ src.size + tot (Pb ms) n := by
  have h1 := mt_len (M := Pb ms) h.1
  have h2 := mt_le (M := Pb ms) h.1
  have e : T.size = (mt src.data.toList (Oz zs) (Pb ps) (Pb ms) n).length := by rw [hT]; rfl
  simp at h1 h2
  omega
end Go.Proofs.Qxb6618870a.Mt
