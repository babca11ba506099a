/-
  FROM THE READING OF A []Dev THAT CAME IN to what the walks are told of it.
-/
import Derived.Test.Qxb6618884aNtReads
import Derived.ProofKit
import Derived.OpenShut
import Derived.Deep.Slices
namespace Go.Proofs.Qxb6618884a.Nt
open Go.ChangeShapes Go.WideShapes Go.ChangeAt Go.RowKit

section
variable {H : Type} {enc : TypeId × Value → H} {P : Program} {w : World} {base : Nat} {spare : Nat → Bool} {held : Bool} {fuel : Nat} {t : TypeId} {cs : List Value} {x : DataW H × List MemPlace}
theorem trod_float {k : FloatKind} (ht : P.underlying t = some (.float k)) (h : DataW.trod enc P w base spare held fuel t cs = some x) : ∃ s, cs = [.float k s] := by
  cases fuel with
  | zero => simp [DataW.trod] at h
  | succ n =>
    unfold DataW.trod at h
    rw [ht] at h
    split at h <;> simp_all
end

theorem cells40 : Try.prog.cellsOf 40 = 3 := by kernel_rfl
theorem cells9 : Try.prog.cellsOf 9 = 1 := by kernel_rfl
theorem cells38 : Try.prog.cellsOf 38 = 1 := by kernel_rfl

set_option maxRecDepth 100000 in
theorem dev_of {H : Type} {enc : TypeId × Value → H} {W : World} {base : Nat} {spare : Nat → Bool} {held : Bool} {n : Nat} {cs : List Value} {x : DataW H × List MemPlace} (h : DataW.trod enc Try.prog W base spare held n 40 cs = some x) :
    ∃ d : Dv, cs = [.string d.nm, .float .f64 d.wt, .string d.dm] ∧ d.nm.size ≤ maxLen ∧ d.dm.size ≤ maxLen := by
  obtain ⟨xs, m, _, _, hl, hxl, hf⟩ := DataW.trod_struct Try.underlying40 h
  rw [cells40] at hl
  match cs, hl, xs, hxl with
  | [c0, c1, c2], _, [y0, y1, y2], _ =>
    have h0 : DataW.trod enc Try.prog W base spare held m 9 (([c0, c1, c2].drop 0).take (Try.prog.cellsOf 9)) = some y0 := hf 0 _ rfl
    have h1 : DataW.trod enc Try.prog W base spare held m 38 (([c0, c1, c2].drop 1).take (Try.prog.cellsOf 38)) = some y1 := hf 1 _ rfl
    have h2 : DataW.trod enc Try.prog W base spare held m 9 (([c0, c1, c2].drop 2).take (Try.prog.cellsOf 9)) = some y2 := hf 2 _ rfl
    rw [cells9] at h0 h2
    rw [cells38] at h1
    obtain ⟨s, hs, _, hz⟩ := DataW.trod_string Try.underlying9 h0
    obtain ⟨q, hq⟩ := trod_float Try.underlying38 h1
    obtain ⟨s2, hs2, _, hz2⟩ := DataW.trod_string Try.underlying9 h2
    simp at hs hq hs2
    subst hs hq hs2
    exact ⟨⟨s, q, s2⟩, rfl, hz, hz2⟩

theorem devs_of {H : Type} {enc : TypeId × Value → H} {W : World} {a0 : Option Addr} {len0 cap0 : Nat} {d : DataW H} {p : List MemPlace} (h : DataW.Trod enc Try.prog W 0 (fun _ => true) true 27 (.slice a0 len0 cap0) d p) :
    ∃ A : List Dv, A.length = len0 ∧ DevsIn W a0 A ∧ Fair A ∧ (a0 = none → A = []) := by
  obtain ⟨fuel, hf⟩ := h
  rcases Go.Deep.open_slice Try.underlying27 hf with ⟨hcs, _⟩ | ⟨a, l, c, m, n, D, Pl, hcs, _, hl, hm, hmm, _, hx⟩
  · simp [Value.cells] at hcs
    obtain ⟨rfl, rfl, rfl⟩ := hcs
    exact ⟨[], rfl, fun j d h => by simp at h, ⟨by simp, by simp⟩, fun _ => rfl⟩
  · simp [Value.cells] at hcs
    obtain ⟨rfl, rfl, rfl⟩ := hcs
    simp at hmm
    subst hmm
    have key : ∀ i, i < len0 → ∃ d : Dv, (W.cell? (a.add (i * 3)) = some (.string d.nm) ∧ W.cell? ((a.add (i * 3)).add 1) = some (.float .f64 d.wt) ∧ W.cell? ((a.add (i * 3)).add 2) = some (.string d.dm)) ∧ d.nm.size ≤ maxLen ∧ d.dm.size ≤ maxLen := fun i hi => by
      obtain ⟨cs', h1, h2⟩ := hx i (by omega)
      rw [cells40] at h1
      obtain ⟨d, rfl, hz⟩ := dev_of h2
      obtain ⟨_, _, h3⟩ := World.cells?_some h1
      have g0 := h3 0 (by omega)
      have g1 := h3 1 (by omega)
      have g2 := h3 2 (by omega)
      rw [Go.Deep.add_add, Nat.add_zero] at g0
      exact ⟨d, ⟨by simpa using g0, by simpa using g1, by simpa using g2⟩, hz⟩
    have : Inhabited Dv := ⟨⟨ByteArray.empty, 0, ByteArray.empty⟩⟩
    obtain ⟨f, hf⟩ := Go.Deep.choose_lt key
    refine ⟨(List.range len0).map f, by simp, fun j d hj => ?_, ⟨by simp; omega, fun d hd => ?_⟩, fun h => by cases h⟩
    · rw [List.getElem?_map, Option.map_eq_some_iff] at hj
      obtain ⟨j', hj', rfl⟩ := hj
      obtain ⟨hlt, rfl⟩ := List.getElem?_eq_some_iff.1 hj'
      simp at hlt
      simp only [List.getElem_range]
      obtain ⟨⟨k0, k1, k2⟩, _⟩ := hf j hlt
      obtain ⟨b, off, spot⟩ := a
      have hs0 := World.cell?_spot (hf 0 (by omega)).1.1
      have hb : b < W.heap.size := by
        have h0 := (hf 0 (by omega)).1.1
        rcases Nat.lt_or_ge b W.heap.size with h1 | h1
        · exact h1
        · simp [World.cell?, Addr.add, Array.getElem?_eq_none h1] at h0
      simp [Addr.add] at hs0
      subst hs0
      rw [Go.Deep.add_add, add_plain] at k1 k2
      rw [add_plain] at k0
      exact ⟨b, off, rfl, hb, k0, by rw [Nat.add_assoc]; exact k1, by rw [Nat.add_assoc]; exact k2⟩
    · obtain ⟨i, hi, rfl⟩ := List.mem_map.1 hd
      exact (hf i (by simpa using hi)).2
end Go.Proofs.Qxb6618884a.Nt
