/-
  zzDevices, ZZnewMap, placement: WALKED.
-/
import Derived.Test.Qxb6618884aNtUnion
import Derived.Deep.RegionHeld3
namespace Go.Proofs.Qxb6618884a.Nt
open Go.RowKit
attribute [local go_sem] run_store_float

def mk43 (n : Nat) : Array Value := madeCells #[.string ⟨#[]⟩, .float .f64 0, .string ⟨#[]⟩] (n * 3)
theorem mk43_size (n : Nat) : (mk43 n).size = n * 3 := size_madeCells _ _
theorem make33 (n : Nat) (hn : n ≤ 4194304) (w : World) :
    (Instr.makeSlice 33 (.int .i64 (n : Int)) (.int .i64 (n : Int))).run Try.prog w = .ok (.slice (some ⟨w.heap.size, 0, none⟩) n n) (w.alloc (.cells (mk43 n) 43)) := by
  obtain ⟨i, hi, hz, hsz, hby⟩ := info_parts Try.info43
  rw [run_make w 33 43 i _ Try.underlying33 hi hz .i64 .i64 n n (by omega) (by omega) (by rw [hby]; omega) (by omega), hsz]
  rfl

/-- The first k devices lie in the row's cells. -/
def DevCells (cs : Array Value) (ds : List Dv) (k : Nat) : Prop :=
  ∀ (j : Nat) (d : Dv), j < k → ds[j]? = some d → cs[j * 3]? = some (.string d.nm) ∧ cs[j * 3 + 1]? = some (.float .f64 d.wt) ∧ cs[j * 3 + 2]? = some (.string d.dm)

theorem dev_step {w wr : World} {g k B : Nat} {cs : Array Value} {ds : List Dv} {d : Dv} (hB : Below B w wr) (hBg : B ≤ g) (hrow : wr.heap[g]? = some (.cells cs 43 (0, 0))) (hcs : cs.size = ds.length * 3) (hk : k < ds.length) (hu : DevCells cs ds k) (hd : ds[k]? = some d) :
    Below B w (((wr.setCell ⟨g, k * 3, none⟩ (.string d.nm)).setCell ⟨g, k * 3 + 1, none⟩ (.float .f64 d.wt)).setCell ⟨g, k * 3 + 2, none⟩ (.string d.dm)).drew ∧
    ∃ cs', (((wr.setCell ⟨g, k * 3, none⟩ (.string d.nm)).setCell ⟨g, k * 3 + 1, none⟩ (.float .f64 d.wt)).setCell ⟨g, k * 3 + 2, none⟩ (.string d.dm)).drew.heap[g]? = some (.cells cs' 43 (0, 0)) ∧ cs'.size = ds.length * 3 ∧ DevCells cs' ds (k + 1) := by
  refine ⟨(((hB.setCell (p := ⟨g, k * 3, none⟩) hBg _).setCell (p := ⟨g, k * 3 + 1, none⟩) hBg _).setCell (p := ⟨g, k * 3 + 2, none⟩) hBg _).drew, ((cs.setIfInBounds (k * 3) (.string d.nm)).setIfInBounds (k * 3 + 1) (.float .f64 d.wt)).setIfInBounds (k * 3 + 2) (.string d.dm), ?_, by simpa using hcs, ?_⟩
  · exact row_put (row_put (row_put hrow _) _) _
  · intro j x hj hx
    rcases Nat.lt_or_ge j k with h | h
    · obtain ⟨h1, h2, h3⟩ := hu j x h hx
      refine ⟨?_, ?_, ?_⟩
      · rw [Array.getElem?_setIfInBounds_ne (by omega), Array.getElem?_setIfInBounds_ne (by omega), Array.getElem?_setIfInBounds_ne (by omega)]; exact h1
      · rw [Array.getElem?_setIfInBounds_ne (by omega), Array.getElem?_setIfInBounds_ne (by omega), Array.getElem?_setIfInBounds_ne (by omega)]; exact h2
      · rw [Array.getElem?_setIfInBounds_ne (by omega), Array.getElem?_setIfInBounds_ne (by omega), Array.getElem?_setIfInBounds_ne (by omega)]; exact h3
    · obtain rfl : j = k := by omega
      rw [hd] at hx; cases hx
      refine ⟨?_, ?_, ?_⟩
      · rw [Array.getElem?_setIfInBounds_ne (by omega), Array.getElem?_setIfInBounds_ne (by omega), Array.getElem?_setIfInBounds_self_of_lt (by omega)]
      · rw [Array.getElem?_setIfInBounds_ne (by omega), Array.getElem?_setIfInBounds_self_of_lt (by simp; omega)]
      · rw [Array.getElem?_setIfInBounds_self_of_lt (by simp; omega)]

theorem devs_row {w : World} {g : Nat} {cs : Array Value} {ds : List Dv} (h : w.heap[g]? = some (.cells cs 43 (0, 0))) (hu : DevCells cs ds ds.length) : DevsIn w (some ⟨g, 0, none⟩) ds := fun j d hj => by
  obtain ⟨h1, h2, h3⟩ := hu j d (List.getElem?_eq_some_iff.1 hj).1 hj
  refine ⟨g, 0, rfl, ltOf' h, ?_, ?_, ?_⟩
  · rw [Nat.zero_add]; exact cellOf h h1
  · rw [Nat.zero_add]; exact cellOf h h2
  · rw [Nat.zero_add]; exact cellOf h h3

set_option maxRecDepth 100000 in
set_option maxHeartbeats 1000000 in
theorem f12 (aa : Option Addr) (ca : Nat) (xs : List Dv) (w : World) (ha : DevsIn w aa xs) (na : aa = none → xs = []) (la : xs.length ≤ 1048576) :
    Calls Try.prog 12 #[.slice aa xs.length ca] w fun e w' => (∃ ar cr, e = .returned (.slice ar xs.length cr) ∧ DevsIn w' ar xs ∧ Plain ar xs) ∧ Below w.heap.size w w' := by
  have DA : Hid (DevsIn w aa xs) := ha
  clear ha
  cases aa with
  | none =>
    obtain rfl := na rfl
    have hnil := fun wx => Lib.run_eql_slice_nil (P := Try.prog) wx 27 40 none 0 ca 0 0 Try.underlying27
    go_enter Try.func12, Try.ntmps12
    go_wp2
    go_ret
    exact ⟨⟨none, ⟨0, rfl⟩, DA.out, .inl ⟨rfl, rfl⟩⟩, Below.refl _ _⟩
  | some a =>
    have hnil := fun wx => Lib.run_eql_slice_nil (P := Try.prog) wx 27 40 (some a) xs.length ca 0 0 Try.underlying27
    have hmk := make33 xs.length (by omega)
    have hms := mk43_size xs.length
    go_enter Try.func12, Try.ntmps12
    go_wp2
    go_loopw [4] (fun s4 wr => ∃ (k : Nat) (cs : Array Value), k ≤ xs.length ∧ s4 = .int .i64 k ∧ w.heap.size + 1 ≤ wr.heap.size ∧ Hid (Below w.heap.size w wr) ∧ Hid (wr.heap[w.heap.size]? = some (.cells cs 43 (0, 0)) ∧ cs.size = xs.length * 3 ∧ DevCells cs xs k)) (fun s4 _ => xs.length - (intOf s4).toNat)
    case atStart => exact ⟨0, mk43 xs.length, by omega, rfl, by simp, (Below.refl _ _).alloc (Nat.le_refl _) _, (show _ ∧ _ ∧ _ from ⟨heap_alloc_new _ _, hms, fun _ _ h => by omega⟩)⟩
    case round =>
      obtain ⟨k, cs, hk, rfl, hsz, HB, HC⟩ := hrel
      clear hmk hms hnil
      by_cases hlt : k < xs.length
      · obtain ⟨d, hd⟩ := at_of hlt
        obtain ⟨b, off, hab, hb, c0, c1, c2⟩ := DA.out k d hd
        have hab2 : a = ⟨b, off, none⟩ := by simpa using hab
        subst hab2
        have g0 : wr.cell? ⟨b, off + k * 3, none⟩ = some (.string d.nm) := (HB.out.cell (p := ⟨b, off + k * 3, none⟩) hb).trans c0
        have g1 : wr.cell? ⟨b, off + k * 3 + 1, none⟩ = some (.float .f64 d.wt) := (HB.out.cell (p := ⟨b, off + k * 3 + 1, none⟩) hb).trans c1
        have g2 : wr.cell? ⟨b, off + k * 3 + 2, none⟩ = some (.string d.dm) := (HB.out.cell (p := ⟨b, off + k * 3 + 2, none⟩) hb).trans c2
        have HD : Hid (xs[k]? = some d) := hd
        clear hd c0 c1 c2 hab
        obtain ⟨⟨v0, r0⟩, z0⟩ := row_cell HC.out.1 (i := k * 3) (by have := HC.out.2.1; omega)
        obtain ⟨⟨v1, r1⟩, z1⟩ := row_cell HC.out.1 (i := k * 3 + 1) (by have := HC.out.2.1; omega)
        obtain ⟨⟨v2, r2⟩, z2⟩ := row_cell HC.out.1 (i := k * 3 + 2) (by have := HC.out.2.1; omega)
        have hkf : (k : Int) < (xs.length : Int) := by omega
        have hk0 : (0 : Int) ≤ (k : Int) := by omega
        have ne0 : w.heap.size ≠ b := by omega
        go_wp2
        go_region_held3 (fun w' => w'.cell? ⟨b, off + k * 3, none⟩ = some (.string d.nm) ∧ w'.cell? ⟨b, off + k * 3 + 1, none⟩ = some (.float .f64 d.wt) ∧ w'.cell? ⟨b, off + k * 3 + 2, none⟩ = some (.string d.dm)) (go_keep) (fail)
        all_goals go_wp2
        all_goals
          go_roundw
          case rel =>
            obtain ⟨n1, cs', n2, n3, n4⟩ := dev_step HB.out (Nat.le_refl _) HC.out.1 HC.out.2.1 hlt HC.out.2.2 HD.out
            exact ⟨k + 1, cs', by omega, by go_num, by simpa [World.setCell] using hsz, n1, (show _ ∧ _ ∧ _ from ⟨n2, n3, n4⟩)⟩
          case measure => simp [intOf]; omega
      · obtain rfl : k = xs.length := by omega
        go_wp2
        go_ret
        exact ⟨⟨_, _, rfl, devs_row HC.out.1 HC.out.2.2, .inr ⟨_, _, rfl⟩⟩, HB.out⟩

/-- A Map that holds the devices of the slice value v. -/
def MapAt (w : World) (mb : Nat) (v : Value) : Prop := ∃ cs : Array Value, w.heap[mb]? = some (.cells cs 55 (0, 0)) ∧ cs[0]? = some v ∧ cs[1]? = some (.slice none 0 0)
theorem MapAt.below {w w' : World} {mb : Nat} {v : Value} (h : MapAt w mb v) (hb : Below w.heap.size w w') : MapAt w' mb v := by
  obtain ⟨cs, h1, h2⟩ := h
  exact ⟨cs, (hb.block mb (ltOf' h1)).trans h1, h2⟩

set_option maxRecDepth 100000 in
theorem f11 (ar : Option Addr) (n c : Nat) (w : World) :
    Calls Try.prog 11 #[.slice ar n c] w fun e w' => e = .returned (.pointer (some ⟨w.heap.size, 0, none⟩)) ∧ MapAt w' w.heap.size (.slice ar n c) ∧ Below w.heap.size w w' := by
  go_enter Try.func11, Try.ntmps11
  go_wp2
  go_ret
  exact ⟨rfl, ⟨_, heap_alloc_new _ _, rfl, rfl⟩, (Below.refl _ _).alloc (Nat.le_refl _) _⟩

/-- A Placement of the map at mb. -/
def PlaceAt (w : World) (pb mb : Nat) : Prop := ∃ cs : Array Value, w.heap[pb]? = some (.cells cs 65 (0, 0)) ∧ cs[0]? = some (.pointer (some ⟨mb, 0, none⟩))
theorem PlaceAt.below {w w' : World} {pb mb : Nat} (h : PlaceAt w pb mb) (hb : Below w.heap.size w w') : PlaceAt w' pb mb := by
  obtain ⟨cs, h1, h2⟩ := h
  exact ⟨cs, (hb.block pb (ltOf' h1)).trans h1, h2⟩

set_option maxRecDepth 100000 in
theorem f73 (mb : Nat) (v : Value) (w : World) (hm : MapAt w mb v) :
    Calls Try.prog 73 #[.pointer (some ⟨mb, 0, none⟩)] w fun e w' => e = .returned (.pointer (some ⟨w.heap.size, 0, none⟩)) ∧ PlaceAt w' w.heap.size mb ∧ Below w.heap.size w w' := by
  obtain ⟨cs, h1, h2, h3⟩ := hm
  have c1 : w.cell? ⟨mb, 1, none⟩ = some (.slice none 0 0) := cellOf h1 h3
  clear h1 h2 h3
  go_enter Try.func73, Try.ntmps73
  go_wp2
  go_ret
  exact ⟨rfl, ⟨_, heap_alloc_new _ _, rfl⟩, (Below.refl _ _).alloc (Nat.le_refl _) _⟩
end Go.Proofs.Qxb6618884a.Nt
