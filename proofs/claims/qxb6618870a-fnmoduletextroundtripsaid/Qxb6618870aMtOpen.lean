/-
  FROM THE READING OF A SLICE THAT CAME IN to what the walks are told of it.
-/
import Derived.Test.Qxb6618870aMtReads
import Derived.ProofKit
import Derived.OpenShut
import Derived.SliceStrings
namespace Go.Proofs.Qxb6618870a.Mt
open Go.ChangeShapes Go.WideShapes Go.ChangeAt Go.RowKit

theorem spot_lt {W : World} {a : Addr} {v : Value} (h : W.cell? a = some v) : a.spot = none ∧ a.block < W.heap.size := by
  refine ⟨World.cell?_spot h, ?_⟩
  rcases Nat.lt_or_ge a.block W.heap.size with h1 | h1
  · exact h1
  · simp [World.cell?, Array.getElem?_eq_none h1] at h

theorem intsIn_of {W : World} {a : Addr} {len : Nat} {zs : List Int} (hl : len ≤ zs.length) (hcell : ∀ i, i < zs.length → W.cell? (a.add i) = some (.int .i64 (zs.getD i 0))) : IntsIn W (some a) len (zs.take len) := fun j hj => by
  obtain ⟨h1, h2⟩ := spot_lt (hcell 0 (by omega))
  have h := hcell j (by omega)
  obtain ⟨b, off, spot⟩ := a
  simp [Addr.add] at h1 h2
  subst h1
  rw [add_plain] at h
  refine ⟨b, off, zs[j]'(by omega), rfl, h2, ?_, ?_⟩
  · rw [h]; simp [show j < zs.length by omega]
  · simp [hj, show j < zs.length by omega]

theorem strsIn_of {W : World} {a : Addr} {len : Nat} {zs : List ByteArray} (hl : len ≤ zs.length) (hcell : ∀ i, i < zs.length → W.cell? (a.add i) = some (.string (zs.getD i ByteArray.empty))) : StrsIn W (some a) len (zs.take len) := fun j hj => by
  obtain ⟨h1, h2⟩ := spot_lt (hcell 0 (by omega))
  have h := hcell j (by omega)
  obtain ⟨b, off, spot⟩ := a
  simp [Addr.add] at h1 h2
  subst h1
  rw [add_plain] at h
  refine ⟨b, off, zs[j]'(by omega), rfl, h2, ?_, ?_⟩
  · rw [h]; simp [show j < zs.length by omega]
  · simp [hj, show j < zs.length by omega]

/-- What the walks are told of a []int that came in. -/
def RowZ (W : World) (ao : Option Addr) (n : Nat) (zs : List Int) : Prop := IntsIn W ao n zs ∧ zs.length = n ∧ n ≤ maxLen ∧ (ao = none → n = 0)
/-- .. of a []string. -/
def RowS (W : World) (ao : Option Addr) (n : Nat) (zs : List ByteArray) : Prop := StrsIn W ao n zs ∧ zs.length = n ∧ n ≤ maxLen ∧ (ao = none → n = 0) ∧ ∀ s ∈ zs, s.size ≤ maxLen

theorem rowZ_of {H : Type} {enc : TypeId × Value → H} {W : World} {a0 : Option Addr} {len0 cap0 : Nat} {d : DataW H} {p : List MemPlace} (h : DataW.Trod enc Try.prog W 0 (fun _ => true) true 27 (.slice a0 len0 cap0) d p) : ∃ zs, RowZ W a0 len0 zs := by
  obtain ⟨fuel, hf⟩ := h
  rcases open_ints Try.underlying27 Try.underlying3 (by kernel_rfl) hf with ⟨hcs, _⟩ | ⟨x, l, c, zs, hcs, _, hl, hm, hz, _, hcell, hwz⟩
  · simp [Value.cells] at hcs
    obtain ⟨rfl, rfl, rfl⟩ := hcs
    exact ⟨[], fun j hj => by omega, rfl, by omega, fun _ => rfl⟩
  · simp [Value.cells] at hcs
    obtain ⟨rfl, rfl, rfl⟩ := hcs
    simp at hz
    exact ⟨zs.take len0, intsIn_of (by omega) hcell, by simp; omega, by omega, fun h => by cases h⟩

theorem rowS_of {H : Type} {enc : TypeId × Value → H} {W : World} {a0 : Option Addr} {len0 cap0 : Nat} {d : DataW H} {p : List MemPlace} (h : DataW.Trod enc Try.prog W 0 (fun _ => true) true 28 (.slice a0 len0 cap0) d p) : ∃ zs, RowS W a0 len0 zs := by
  obtain ⟨fuel, hf⟩ := h
  rcases open_strings Try.underlying28 Try.underlying9 (by kernel_rfl) hf with ⟨hcs, _⟩ | ⟨x, l, c, zs, hcs, _, hl, hm, hz, _, hcell, hwz⟩
  · simp [Value.cells] at hcs
    obtain ⟨rfl, rfl, rfl⟩ := hcs
    exact ⟨[], fun j hj => by omega, rfl, by omega, fun _ => rfl, by simp⟩
  · simp [Value.cells] at hcs
    obtain ⟨rfl, rfl, rfl⟩ := hcs
    simp at hz
    exact ⟨zs.take len0, strsIn_of (by omega) hcell, by simp; omega, by omega, (fun h => by cases h), fun s hs => hwz s (List.mem_of_mem_take hs)⟩
end Go.Proofs.Qxb6618870a.Mt
