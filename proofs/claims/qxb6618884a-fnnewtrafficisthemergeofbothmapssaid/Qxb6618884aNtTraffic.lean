/-
  NewChange, NewTraffic: WALKED.
-/
import Derived.Test.Qxb6618884aNtMake
import Derived.Test.Qxb6618884aNtUnionWalk
namespace Go.Proofs.Qxb6618884a.Nt
open Go.RowKit

/-- The one method of Placer, at *Map: function 73. (Its name is taken off the interface's own description.) -/
theorem method_pl (s : String) (t : TypeId) (h : Try.prog.underlying 68 = some (.interface #[(s, t)])) (a : Addr) (w : World) : (method 223 31 (.pointer (some a)) s).run Try.prog w = .ok (73, .pointer (some a)) w := by
  rw [Try.underlying68] at h
  simp only [Option.some.injEq, TypeDesc.interface.injEq, Array.mk.injEq, List.cons.injEq, Prod.mk.injEq, and_true] at h
  obtain ⟨rfl, rfl⟩ := h
  kernel_rfl

/-- A Change between the maps at fm and tm, its matches made. -/
def ChangeAt (w : World) (cb fm tm : Nat) (fs ts : List Dv) : Prop :=
  ∃ p1 p2 g, w.heap[cb]? = some (.cells #[.pointer (some ⟨p1, 0, none⟩), .pointer (some ⟨p2, 0, none⟩), .slice (some ⟨g, 0, none⟩) fs.length fs.length] 62 (0, 0)) ∧ PlaceAt w p1 fm ∧ PlaceAt w p2 tm ∧ IdxAt w g fs ts
theorem ChangeAt.below {w w' : World} {cb fm tm : Nat} {fs ts : List Dv} (h : ChangeAt w cb fm tm fs ts) (hb : Below w.heap.size w w') : ChangeAt w' cb fm tm fs ts := by
  obtain ⟨p1, p2, g, h1, h2, h3, h4⟩ := h
  exact ⟨p1, p2, g, (hb.block cb (ltOf' h1)).trans h1, h2.below hb, h3.below hb, h4.below hb⟩

/-- What a walk reads off a Change: six cells. -/
def Six (cb p1 p2 fm tm : Nat) (vf vt : Value) (w : World) : Prop :=
  w.cell? ⟨cb, 0, none⟩ = some (.pointer (some ⟨p1, 0, none⟩)) ∧ w.cell? ⟨cb, 1, none⟩ = some (.pointer (some ⟨p2, 0, none⟩)) ∧ w.cell? ⟨p1, 0, none⟩ = some (.pointer (some ⟨fm, 0, none⟩)) ∧ w.cell? ⟨p2, 0, none⟩ = some (.pointer (some ⟨tm, 0, none⟩)) ∧ w.cell? ⟨fm, 0, none⟩ = some vf ∧ w.cell? ⟨tm, 0, none⟩ = some vt
theorem Six.below {cb p1 p2 fm tm : Nat} {vf vt : Value} {w w' : World} (h : Six cb p1 p2 fm tm vf vt w) (hb : Below w.heap.size w w') : Six cb p1 p2 fm tm vf vt w' := by
  obtain ⟨h1, h2, h3, h4, h5, h6⟩ := h
  have k : ∀ {a : Addr} {v : Value}, w.cell? a = some v → w'.cell? a = some v := fun {a v} ha => by
    have hl : a.block < w.heap.size := by
      rcases Nat.lt_or_ge a.block w.heap.size with h1 | h1
      · exact h1
      · simp [World.cell?, Array.getElem?_eq_none h1] at ha
    exact (hb.cell (p := a) hl).trans ha
  exact ⟨k h1, k h2, k h3, k h4, k h5, k h6⟩
theorem Six.store {cb p1 p2 fm tm : Nat} {vf vt v : Value} {w : World} (h : Six cb p1 p2 fm tm vf vt w) : Six cb p1 p2 fm tm vf vt (w.setCell ⟨cb, 2, none⟩ v) := by
  obtain ⟨h1, h2, h3, h4, h5, h6⟩ := h
  refine ⟨?_, ?_, ?_, ?_, ?_, ?_⟩
  · rw [World.cell?_setCell_other _ _ _ _ (by simp)]; exact h1
  · rw [World.cell?_setCell_other _ _ _ _ (by simp)]; exact h2
  · rw [World.cell?_setCell_other _ _ _ _ (by simp)]; exact h3
  · rw [World.cell?_setCell_other _ _ _ _ (by simp)]; exact h4
  · rw [World.cell?_setCell_other _ _ _ _ (by simp)]; exact h5
  · rw [World.cell?_setCell_other _ _ _ _ (by simp)]; exact h6

theorem PlaceAt.store {w : World} {pb mb cb i : Nat} {v : Value} (h : PlaceAt w pb mb) (hne : pb ≠ cb) : PlaceAt (w.setCell ⟨cb, i, none⟩ v) pb mb := by
  obtain ⟨cs, h1, h2⟩ := h
  exact ⟨cs, (Below.heap_setCell w ⟨cb, i, none⟩ v pb hne).trans h1, h2⟩
theorem IdxAt.store {w : World} {g cb i : Nat} {v : Value} {fs ts : List Dv} (h : IdxAt w g fs ts) (hne : g ≠ cb) : IdxAt (w.setCell ⟨cb, i, none⟩ v) g fs ts := by
  obtain ⟨cs, h1, h2⟩ := h
  exact ⟨cs, (Below.heap_setCell w ⟨cb, i, none⟩ v g hne).trans h1, h2⟩

set_option maxRecDepth 100000 in
set_option maxHeartbeats 1000000 in
theorem f30 (fm tm : Nat) (af at_ : Option Addr) (cf ct : Nat) (fs ts : List Dv) (w : World) (hf : MapAt w fm (.slice af fs.length cf)) (ht : MapAt w tm (.slice at_ ts.length ct)) (df : DevsIn w af fs) (dt : DevsIn w at_ ts) (hasc : Asc ts) (lf : fs.length ≤ 1048576) (lt' : ts.length ≤ 1048576) :
    Calls Try.prog 30 #[.iface 31 (.pointer (some ⟨fm, 0, none⟩)), .iface 31 (.pointer (some ⟨tm, 0, none⟩))] w fun e w' => (∃ cb, e = .returned (.pointer (some ⟨cb, 0, none⟩)) ∧ ChangeAt w' cb fm tm fs ts) ∧ Below w.heap.size w w' := by
  have hm := method_pl _ _ Try.underlying68
  have MF : Hid (MapAt w fm (.slice af fs.length cf)) := hf
  have MT : Hid (MapAt w tm (.slice at_ ts.length ct)) := ht
  have DF : Hid (DevsIn w af fs) := df
  have DT : Hid (DevsIn w at_ ts) := dt
  have AS : Hid (Asc ts) := hasc
  clear hf ht df dt hasc
  go_enter Try.func30, Try.ntmps30
  go_wp2_with fail
  refine (f73 fm _ w MF.out).mono ?_
  rintro e w1 ⟨rfl, hp1, hb1⟩
  have P1 : Hid (PlaceAt w1 w.heap.size fm) := hp1
  have HB1 : Hid (Below w.heap.size w w1) := hb1
  have s1 : w.heap.size < w1.heap.size := by obtain ⟨cs, h, _⟩ := hp1; exact ltOf' h
  clear hp1 hb1
  go_wp2_with fail
  refine (f73 tm _ w1 (MT.out.below HB1.out)).mono ?_
  rintro e w2 ⟨rfl, hp2, hb2⟩
  have P2 : Hid (PlaceAt w2 w1.heap.size tm) := hp2
  have P12 : Hid (PlaceAt w2 w.heap.size fm) := P1.out.below hb2
  have HB2 : Hid (Below w.heap.size w w2) := HB1.out.trans (hb2.mono HB1.out.size)
  have s2 : w1.heap.size < w2.heap.size := by obtain ⟨cs, h, _⟩ := hp2; exact ltOf' h
  clear hp2 hb2
  clear hm
  generalize hp1 : w.heap.size = p1 at *
  generalize hp2 : w1.heap.size = p2 at *
  go_wp2
  have HA : Hid (Below p1 w (w2.alloc (.cells #[.pointer (some ⟨p1, 0, none⟩), .pointer (some ⟨p2, 0, none⟩), .slice none 0 0] 62))) := HB2.out.alloc (by omega) _
  have HG : Hid _ := heap_alloc_new w2 (.cells #[.pointer (some ⟨p1, 0, none⟩), .pointer (some ⟨p2, 0, none⟩), .slice none 0 0] 62)
  have HK : Hid (Below w2.heap.size w2 (w2.alloc (.cells #[.pointer (some ⟨p1, 0, none⟩), .pointer (some ⟨p2, 0, none⟩), .slice none 0 0] 62))) := (Below.refl _ _).alloc (Nat.le_refl _) _
  have M1 : Hid (MapAt (w2.alloc (.cells #[.pointer (some ⟨p1, 0, none⟩), .pointer (some ⟨p2, 0, none⟩), .slice none 0 0] 62)) fm (.slice af fs.length cf)) := MF.out.below (by rw [hp1]; exact HA.out)
  have M2 : Hid (MapAt (w2.alloc (.cells #[.pointer (some ⟨p1, 0, none⟩), .pointer (some ⟨p2, 0, none⟩), .slice none 0 0] 62)) tm (.slice at_ ts.length ct)) := MT.out.below (by rw [hp1]; exact HA.out)
  have D1 : Hid (DevsIn (w2.alloc (.cells #[.pointer (some ⟨p1, 0, none⟩), .pointer (some ⟨p2, 0, none⟩), .slice none 0 0] 62)) af fs) := DF.out.below (by rw [hp1]; exact HA.out)
  have D2 : Hid (DevsIn (w2.alloc (.cells #[.pointer (some ⟨p1, 0, none⟩), .pointer (some ⟨p2, 0, none⟩), .slice none 0 0] 62)) at_ ts) := DT.out.below (by rw [hp1]; exact HA.out)
  have Q1 : Hid (PlaceAt (w2.alloc (.cells #[.pointer (some ⟨p1, 0, none⟩), .pointer (some ⟨p2, 0, none⟩), .slice none 0 0] 62)) p1 fm) := P12.out.below HK.out
  have Q2 : Hid (PlaceAt (w2.alloc (.cells #[.pointer (some ⟨p1, 0, none⟩), .pointer (some ⟨p2, 0, none⟩), .slice none 0 0] 62)) p2 tm) := P2.out.below HK.out
  have sz : w2.heap.size < (w2.alloc (.cells #[.pointer (some ⟨p1, 0, none⟩), .pointer (some ⟨p2, 0, none⟩), .slice none 0 0] 62)).heap.size := by simp
  clear HK
  generalize w2.alloc (.cells #[.pointer (some ⟨p1, 0, none⟩), .pointer (some ⟨p2, 0, none⟩), .slice none 0 0] 62) = W at *
  generalize w2.heap.size = cb at *
  have hsix : Six cb p1 p2 fm tm (.slice af fs.length cf) (.slice at_ ts.length ct) W := by
    obtain ⟨c1, a1, b1⟩ := Q1.out
    obtain ⟨c2, a2, b2⟩ := Q2.out
    obtain ⟨c3, a3, b3, _⟩ := M1.out
    obtain ⟨c4, a4, b4, _⟩ := M2.out
    exact ⟨cellOf HG.out rfl, cellOf HG.out rfl, cellOf a1 b1, cellOf a2 b2, cellOf a3 b3, cellOf a4 b4⟩
  have HSIX : Hid _ := hsix
  obtain ⟨x1, x2, x3, x4, x5, x6⟩ := hsix
  have hp1' : Hid _ := hp1
  have hp2' : Hid _ := hp2
  clear hp1 hp2
  have hr : ∀ w4, Below W.heap.size W w4 → w4.cell? ⟨cb, 2, none⟩ = some (.slice none 0 0) ∧ w4.frozen? ⟨cb, 2, none⟩ = false := fun w4 h => by
    have h5 := (h.block cb sz).trans HG.out
    exact ⟨cellOf h5 rfl, by simp [World.frozen?, h5]⟩
  have HR : Hid _ := hr
  clear hr
  go_region_held3 (fun w' => w'.cell? ⟨cb, 0, none⟩ = some (.pointer (some ⟨p1, 0, none⟩)) ∧ w'.cell? ⟨cb, 1, none⟩ = some (.pointer (some ⟨p2, 0, none⟩)) ∧ w'.cell? ⟨p1, 0, none⟩ = some (.pointer (some ⟨fm, 0, none⟩)) ∧ w'.cell? ⟨p2, 0, none⟩ = some (.pointer (some ⟨tm, 0, none⟩)) ∧ w'.cell? ⟨fm, 0, none⟩ = some (.slice af fs.length cf) ∧ w'.cell? ⟨tm, 0, none⟩ = some (.slice at_ ts.length ct))
    (first | go_keep | exact Six.below (w := W.drew) HSIX.out hb4 | exact Six.store (Six.below (w := W.drew) HSIX.out (by assumption)))
    ((go_at_call 32; refine (f32 af at_ cf ct fs ts _ (by exact D1.out) (by exact D2.out) AS.out (by omega) (by omega)).mono ?_; rintro e w4 ⟨rfl, hix, hb4⟩; obtain ⟨y1, y2⟩ := HR.out w4 (undrew hb4)))
  have h4 := undrew hb4
  have hcb : w4.heap[cb]? = some (.cells #[.pointer (some ⟨p1, 0, none⟩), .pointer (some ⟨p2, 0, none⟩), .slice none 0 0] 62 (0, 0)) := (h4.block cb sz).trans HG.out
  have R : Hid (ChangeAt (w4.setCell ⟨cb, 2, none⟩ (.slice (some ⟨W.heap.size, 0, none⟩) fs.length fs.length)) cb fm tm fs ts ∧ Below p1 w (w4.setCell ⟨cb, 2, none⟩ (.slice (some ⟨W.heap.size, 0, none⟩) fs.length fs.length))) :=
    ⟨⟨p1, p2, W.heap.size, row_put hcb _, (Q1.out.below h4).store (by omega), (Q2.out.below h4).store (by omega), IdxAt.store (by exact hix) (by omega)⟩, (HA.out.trans (h4.mono (by omega))).setCell (p := ⟨cb, 2, none⟩) (by show p1 ≤ cb; omega) _⟩
  clear h4 hcb hix hb4 y1 y2 x1 x2 x3 x4 x5 x6
  go_wp2
  go_ret
  exact ⟨⟨cb, rfl, R.out.1⟩, by rw [hp1'.out]; exact R.out.2⟩
end Go.Proofs.Qxb6618884a.Nt
