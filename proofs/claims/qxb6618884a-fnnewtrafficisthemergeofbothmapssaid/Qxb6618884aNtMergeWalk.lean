/-
  FnNewTrafficIsTheMergeOfBothMaps: WALKED.
-/
import Derived.Test.Qxb6618884aNtMerge
import Derived.Test.Qxb6618884aNtView2
import Derived.Test.Qxb6618884aNtUnionWalk
import Derived.OneCell
import Derived.LaidEqlPtr
import Derived.Deep.CutRange
import Derived.Deep.CutBlock
namespace Go.Proofs.Qxb6618884a.Nt
open Go.RowKit
attribute [local go_sem] run_store_float

/-- The law's answer. -/
def YesM (w : World) (e : Ending) (w' : World) : Prop := e = .returned (.bool true) ∧ Below w.heap.size w w'

theorem f11m (ar : Option Addr) (n c : Nat) (w : World) :
    Calls Try.prog 11 #[.slice ar n c] w fun e w' => ∃ m, e = .returned (.pointer (some ⟨m, 0, none⟩)) ∧ MapAt w' m (.slice ar n c) ∧ Below w.heap.size w w' :=
  (f11 ar n c w).mono fun _ _ ⟨he, hi, hb⟩ => ⟨_, he, hi, hb⟩

theorem Try.info40 : (Try.prog.info? 40).map (fun i => (i.zero, i.size, i.bytes)) = some (some (.agg #[.string ⟨#[]⟩, .float .f64 0, .string ⟨#[]⟩]), 3, 40) := by kernel_rfl
def mk40 (n : Nat) : Array Value := madeCells #[.string ⟨#[]⟩, .float .f64 0, .string ⟨#[]⟩] (n * 3)
theorem make27 (a b : Nat) (ha : a ≤ 1048576) (hb : b ≤ 1048576) (w : World) :
    (Instr.makeSlice 27 (.int .i64 0) (.int .i64 ((a : Int) + (b : Int)))).run Try.prog w = .ok (.slice (some ⟨w.heap.size, 0, none⟩) 0 (a + b)) (w.alloc (.cells (mk40 (a + b)) 40)) := by
  obtain ⟨i, hi, hz, hsz, hby⟩ := info_parts Try.info40
  have h := run_make w 27 40 i _ Try.underlying27 hi hz .i64 .i64 0 (a + b) (by omega) (by omega) (by rw [hby]; omega) (by omega)
  rw [hsz] at h
  rw [show ((a : Int) + (b : Int)).toNat = a + b by omega] at h
  exact h

/-- A row of answers, the first i of them made. -/
def RowTo (w : World) (g : Nat) (fs ts : List Dv) (i : Nat) : Prop := ∃ cs : Array Value, w.heap[g]? = some (.cells cs 3 (0, 0)) ∧ cs.size = fs.length ∧ IdxTo cs fs ts i
theorem RowTo.all {w : World} {g : Nat} {fs ts : List Dv} (h : RowTo w g fs ts fs.length) : IdxAt w g fs ts := h
theorem RowTo.other {w : World} {g : Nat} {fs ts : List Dv} {i : Nat} (h : RowTo w g fs ts i) {a : Addr} (ha : g ≠ a.block) (u : Value) : RowTo (w.setCell a u) g fs ts i := by
  obtain ⟨cs, h1, h2⟩ := h
  exact ⟨cs, (Below.heap_setCell w a u g ha).trans h1, h2⟩
theorem RowTo.put {w : World} {g : Nat} {fs ts : List Dv} {i : Nat} {d : Dv} (h : RowTo w g fs ts i) (hd : fs[i]? = some d) {v : Int} (hv : v = ix ts (nk d)) : RowTo (w.setCell ⟨g, i, none⟩ (.int .i64 v)) g fs ts (i + 1) := by
  obtain ⟨cs, h1, h2, h3⟩ := h
  exact ⟨_, row_put h1 _, by simpa using h2, h3.succ hd (by rw [h2]; exact (List.getElem?_eq_some_iff.1 hd).1) hv⟩
theorem RowTo.alloc {w : World} {g : Nat} {fs ts : List Dv} {i : Nat} (h : RowTo w g fs ts i) (o : Obj) : RowTo (w.alloc o) g fs ts i := by
  obtain ⟨cs, h1, h2⟩ := h
  exact ⟨cs, (heap_alloc_old w o (ltOf' h1)).trans h1, h2⟩
theorem RowTo.lt {w : World} {g : Nat} {fs ts : List Dv} {i : Nat} (h : RowTo w g fs ts i) : g < w.heap.size := by
  obtain ⟨cs, h1, _⟩ := h
  exact ltOf' h1
theorem RowTo.cell {w : World} {g : Nat} {fs ts : List Dv} {i j : Nat} (h : RowTo w g fs ts i) (hj : j < fs.length) : (∃ v, w.cell? ⟨g, j, none⟩ = some v) ∧ w.frozen? ⟨g, j, none⟩ = false := by
  obtain ⟨cs, h1, h2, _⟩ := h
  exact row_cell h1 (by omega)
theorem ne_own {w : World} {B g n : Nat} {v : Value} {xs : List Value} (h : w.ownsRow B 40 3 v n xs) {fs ts : List Dv} {i : Nat} (hg : RowTo w g fs ts i) : some g ≠ v.ownBlock := by
  obtain ⟨cs, hg, _⟩ := hg
  rcases h.2 with ⟨rfl, _⟩ | ⟨g', cap, cur, rfl, _, hg', _⟩
  · simp [Value.ownBlock]
  · intro e
    simp only [Value.ownBlock, Option.some.injEq] at e
    subst e
    rw [hg] at hg'
    simp at hg'
theorem own_ge' {w : World} {B n : Nat} {v : Value} {xs : List Value} (h : w.ownsRow B 40 3 v n xs) : ∀ k, v.ownBlock = some k → B ≤ k := fun k hk => by
  rcases h.2 with ⟨rfl, _⟩ | ⟨g', cap, cur, rfl, hb, _⟩
  · simp [Value.ownBlock] at hk
  · simp [Value.ownBlock] at hk; omega
theorem RowTo.grown {w w' : World} {B g n : Nat} {v : Value} {xs : List Value} (ho : w.ownsRow B 40 3 v n xs) {fs ts : List Dv} {i : Nat} (h : RowTo w g fs ts i) (hg : w.grownBy w' v.ownBlock) : RowTo w' g fs ts i := by
  have hne := ne_own ho h
  obtain ⟨cs, h1, h2⟩ := h
  exact ⟨cs, (hg.block g (ltOf' h1) hne).trans h1, h2⟩
theorem own_slice {w : World} {B n : Nat} {v : Value} {xs : List Value} (h : w.ownsRow B 40 3 v n xs) (hv : v ≠ .slice none 0 0) : ∃ g cap, v = .slice (some ⟨g, 0, none⟩) n cap := by
  rcases h.2 with ⟨rfl, _⟩ | ⟨g', cap, cur, rfl, _⟩
  · exact absurd rfl hv
  · exact ⟨_, _, rfl⟩

/-- Everything that the merge has made: the list, the three rows. -/
def Ex (B : Nat) (w0 wr : World) (v : Value) (g1 g2 g3 : Nat) (fs ts U : List Dv) (i1 i2 j k : Nat) : Prop :=
  (wr.ownsRow B 40 3 v k (fl (U.take k)) ∧ Below B w0 wr ∧ B ≤ wr.heap.size ∧ RowTo wr g1 fs U i1 ∧ RowTo wr g2 fs ts i2 ∧ RowTo wr g3 ts U j) ∧ (B ≤ g1 ∧ B ≤ g2 ∧ B ≤ g3) ∧ g1 ≠ g2 ∧ g1 ≠ g3 ∧ g2 ≠ g3
section
variable {B : Nat} {w0 wr : World} {v : Value} {g1 g2 g3 : Nat} {fs ts U : List Dv} {i1 i2 j k : Nat}
theorem Ex.drewN (h : Ex B w0 wr v g1 g2 g3 fs ts U i1 i2 j k) (q : Nat) : Ex B w0 (wr.drewN q) v g1 g2 g3 fs ts U i1 i2 j k :=
  ⟨⟨h.1.1, below_drewN h.1.2.1 q, h.1.2.2⟩, h.2⟩
theorem size_put (w : World) (a : Addr) (u : Value) : (w.setCell a u).heap.size = w.heap.size := by simp [World.setCell]
theorem Ex.put1 (h : Ex B w0 wr v g1 g2 g3 fs ts U i1 i2 j k) {d : Dv} (hd : fs[i1]? = some d) {x : Int} (hx : x = ix U (nk d)) : Ex B w0 (wr.setCell ⟨g1, i1, none⟩ (.int .i64 x)) v g1 g2 g3 fs ts U (i1 + 1) i2 j k := by
  obtain ⟨⟨h1, h2, h3, h4, h5, h6⟩, ⟨b1, b2, b3⟩, n1, n2, n3⟩ := h
  exact ⟨⟨ownsRow_setCell_other h1 (fun e => ne_own h1 h4 e.symm) _, h2.setCell (p := ⟨g1, i1, none⟩) b1 _, by rw [size_put]; exact h3, h4.put hd hx, h5.other (a := ⟨g1, i1, none⟩) (fun e => n1 e.symm) _, h6.other (a := ⟨g1, i1, none⟩) (fun e => n2 e.symm) _⟩, ⟨b1, b2, b3⟩, n1, n2, n3⟩
theorem Ex.put2 (h : Ex B w0 wr v g1 g2 g3 fs ts U i1 i2 j k) {d : Dv} (hd : fs[i2]? = some d) {x : Int} (hx : x = ix ts (nk d)) : Ex B w0 (wr.setCell ⟨g2, i2, none⟩ (.int .i64 x)) v g1 g2 g3 fs ts U i1 (i2 + 1) j k := by
  obtain ⟨⟨h1, h2, h3, h4, h5, h6⟩, ⟨b1, b2, b3⟩, n1, n2, n3⟩ := h
  exact ⟨⟨ownsRow_setCell_other h1 (fun e => ne_own h1 h5 e.symm) _, h2.setCell (p := ⟨g2, i2, none⟩) b2 _, by rw [size_put]; exact h3, h4.other (a := ⟨g2, i2, none⟩) n1 _, h5.put hd hx, h6.other (a := ⟨g2, i2, none⟩) (fun e => n3 e.symm) _⟩, ⟨b1, b2, b3⟩, n1, n2, n3⟩
theorem Ex.put3 (h : Ex B w0 wr v g1 g2 g3 fs ts U i1 i2 j k) {d : Dv} (hd : ts[j]? = some d) {x : Int} (hx : x = ix U (nk d)) : Ex B w0 (wr.setCell ⟨g3, j, none⟩ (.int .i64 x)) v g1 g2 g3 fs ts U i1 i2 (j + 1) k := by
  obtain ⟨⟨h1, h2, h3, h4, h5, h6⟩, ⟨b1, b2, b3⟩, n1, n2, n3⟩ := h
  exact ⟨⟨ownsRow_setCell_other h1 (fun e => ne_own h1 h6 e.symm) _, h2.setCell (p := ⟨g3, j, none⟩) b3 _, by rw [size_put]; exact h3, h4.other (a := ⟨g3, j, none⟩) n2 _, h5.other (a := ⟨g3, j, none⟩) n3 _, h6.put hd hx⟩, ⟨b1, b2, b3⟩, n1, n2, n3⟩
theorem Ex.app (h : Ex B w0 wr v g1 g2 g3 fs ts U i1 i2 j k) {t : Dv} (ht : U[k]? = some t) {o : Obj} {v' : Value} {wz : World} (hown : wz.ownsRow B 40 3 v' (k + 1) (fl (U.take k) ++ [.string t.nm, .float .f64 t.wt, .string t.dm])) (hg : (wr.alloc o).grownBy wz v.ownBlock) : Ex B w0 wz v' g1 g2 g3 fs ts U i1 i2 j (k + 1) := by
  obtain ⟨⟨h1, h2, h3, h4, h5, h6⟩, hb⟩ := h
  have h7 : U.take (k + 1) = U.take k ++ [t] := by
    obtain ⟨hk, he⟩ := List.getElem?_eq_some_iff.1 ht
    rw [List.take_succ_eq_append_getElem hk, he]
  have ho := h1.alloc o
  have hbz : Below B w0 wz := (h2.alloc h3 o).grown hg (by simp; omega) (own_ge' h1)
  refine ⟨⟨?_, hbz, ?_, (h4.alloc o).grown ho hg, (h5.alloc o).grown ho hg, (h6.alloc o).grown ho hg⟩, hb⟩
  · rw [h7, fl_app]; exact hown
  · have := hg.size; simp at this; omega
end
theorem heap_two (w : World) (o1 o2 : Obj) : ((w.alloc o1).alloc o2).heap[w.heap.size]? = some o1 := (heap_alloc_old _ _ (by simp)).trans (heap_alloc_new _ _)
theorem ex_start (w : World) (A B U : List Dv) (hl : A.length + B.length ≤ maxLen) : Ex w.heap.size w ((((w.alloc (.cells (mk40 (A.length + B.length)) 40)).alloc (.cells (mk3 A.length) 3)).alloc (.cells (mk3 A.length) 3)).alloc (.cells (mk3 B.length) 3)) (.slice (some ⟨w.heap.size, 0, none⟩) 0 (A.length + B.length)) (w.heap.size + 1) (w.heap.size + 1 + 1) (w.heap.size + 1 + 1 + 1) A B U 0 0 0 0 := by
  have hs : ∀ (x : World) (o : Obj), (x.alloc o).heap.size = x.heap.size + 1 := fun x o => by simp
  refine ⟨⟨⟨rfl, .inr ⟨_, _, mk40 (A.length + B.length), rfl, Nat.le_refl _, ?_, by omega, hl, size_madeCells _ _, by simp [fl]⟩⟩, ?_, by simp only [hs]; omega, ⟨mk3 A.length, ?_, mk3_size _, fun _ _ h => by omega⟩, ⟨mk3 A.length, ?_, mk3_size _, fun _ _ h => by omega⟩, ⟨mk3 B.length, ?_, mk3_size _, fun _ _ h => by omega⟩⟩, ⟨by omega, by omega, by omega⟩, by omega, by omega, by omega⟩
  · rw [heap_alloc_old _ _ (by simp only [hs]; omega), heap_alloc_old _ _ (by simp only [hs]; omega), heap_two]
  · exact ((((Below.refl _ _).alloc (Nat.le_refl _) _).alloc (by simp only [hs]; omega) _).alloc (by simp only [hs]; omega) _).alloc (by simp only [hs]; omega) _
  · rw [heap_alloc_old _ _ (by simp only [hs]; omega), ← hs w (.cells (mk40 (A.length + B.length)) 40), heap_two]
  · rw [← hs w (.cells (mk40 (A.length + B.length)) 40), ← hs (w.alloc _) (.cells (mk3 A.length) 3), heap_two]
  · rw [← hs w (.cells (mk40 (A.length + B.length)) 40), ← hs (w.alloc _) (.cells (mk3 A.length) 3), ← hs ((w.alloc _).alloc _) (.cells (mk3 A.length) 3), heap_alloc_new]

theorem Try.info55 : (Try.prog.info? 55).isSome = true := by kernel_rfl
theorem same_map (m : Nat) (w : World) : (binOp .eql 31 (.pointer (some ⟨m, 0, none⟩)) (.pointer (some ⟨m, 0, none⟩))).run Try.prog w = .ok (.bool true) w := by
  obtain ⟨i, hi⟩ := Option.isSome_iff_exists.1 Try.info55
  exact run_eql_ptr_same w _ Try.underlying31 hi

/-- All that a fresh Traffic holds. -/
def Whole (w : World) (A B U : List Dv) (tb kb fm tm : Nat) (ar : Option Addr) (cr f1 t1 z3 z4 o : Nat) : Prop :=
  TCells w tb kb ar cr f1 t1 z3 z4 A.length B.length U.length ∧ OnAt w kb o A.length ∧ MapsAt w kb fm tm ∧ DevsIn w ar U ∧ IntsAt w f1 (A.map fun d => ix U (nk d)) ∧ IntsAt w t1 (B.map fun d => ix U (nk d)) ∧ IntsAt w o (A.map fun d => ix B (nk d)) ∧ Zeros w z3 U.length ∧ Zeros w z4 U.length
theorem Whole.below {w w' : World} {A B U : List Dv} {tb kb fm tm : Nat} {ar : Option Addr} {cr f1 t1 z3 z4 o : Nat} (h : Whole w A B U tb kb fm tm ar cr f1 t1 z3 z4 o) (hb : Below w.heap.size w w') : Whole w' A B U tb kb fm tm ar cr f1 t1 z3 z4 o := by
  obtain ⟨h1, h2, h3, h4, h5, h6, h7, h8, h9⟩ := h
  exact ⟨h1.below hb, h2.below hb, h3.below hb, h4.below hb, h5.below hb, h6.below hb, h7.below hb, h8.below hb, h9.below hb⟩
theorem TrafficAt.whole {w : World} {tb fm tm : Nat} {fs ts U : List Dv} (h : TrafficAt w tb fm tm fs ts U) : ∃ kb ar cr f1 t1 z3 z4 o, Whole w fs ts U tb kb fm tm ar cr f1 t1 z3 z4 o := by
  obtain ⟨cb, ar, cr, g1, g2, g3, g4, h1, ⟨p1, p2, g, k1, k2, k3, k4⟩, h3, h4, h5, h6, h7⟩ := h
  exact ⟨cb, ar, cr, g1, g2, g3, g4, g, h1, ⟨_, k1, rfl⟩, ⟨p1, p2, _, k1, k2, k3⟩, h3, h4.ints, h5.ints, k4.ints, h6, h7⟩

/-- The list that the law itself has made. -/
def DevRow (w : World) (g : Nat) (U : List Dv) : Prop := ∀ (j : Nat) (d : Dv), U[j]? = some d → w.cell? ⟨g, j * 3, none⟩ = some (.string d.nm) ∧ w.cell? ⟨g, j * 3 + 1, none⟩ = some (.float .f64 d.wt) ∧ w.cell? ⟨g, j * 3 + 2, none⟩ = some (.string d.dm)
theorem devRow_own {w : World} {B g cap : Nat} {U : List Dv} (h : w.ownsRow B 40 3 (.slice (some ⟨g, 0, none⟩) U.length cap) U.length (fl (U.take U.length))) : g < w.heap.size ∧ DevRow w g U := by
  rw [List.take_length] at h
  rcases h.2 with ⟨h1, _⟩ | ⟨g', cap', cur, hv, _, hg, _, _, _, htk⟩
  · simp at h1
  · simp only [Value.slice.injEq, Option.some.injEq, Addr.mk.injEq] at hv
    obtain ⟨⟨rfl, _⟩, _, _⟩ := hv
    refine ⟨ltOf' hg, fun j d hj => ?_⟩
    have key : ∀ i u, (fl U)[i]? = some u → w.cell? ⟨g, i, none⟩ = some u := fun i u hu => by
      have h1 := (List.getElem?_eq_some_iff.1 hu).1
      rw [fl_len] at h1
      have h2 : cur.toList[i]? = some u := by
        rw [← htk, List.getElem?_take] at hu
        rw [if_pos h1] at hu; exact hu
      exact cellOf hg (by simpa using h2)
    obtain ⟨h0, h1, h2⟩ := fl_at U j d hj
    exact ⟨key _ _ h0, key _ _ h1, key _ _ h2⟩

set_option maxRecDepth 100000 in
set_option maxHeartbeats 4000000 in
theorem f5 (aa ab : Option Addr) (ca cb : Nat) (A B : List Dv) (w : World) (ha : DevsIn w aa A) (hb : DevsIn w ab B) (fa : Fair A) (fb : Fair B) (na : aa = none → A = []) (nb : ab = none → B = []) :
    Calls Try.prog 5 #[.slice aa A.length ca, .slice ab B.length cb] w fun e w' => YesM w e w' := by
  obtain ⟨i0, hi0', hz0, hz1, hz2⟩ := info_parts Try.info40
  have DA : Hid (DevsIn w aa A) := ha
  have DB : Hid (DevsIn w ab B) := hb
  have FA : Hid (Fair A) := fa
  have FB : Hid (Fair B) := fb
  have NA : Hid (aa = none → A = []) := na
  have NB : Hid (ab = none → B = []) := nb
  clear ha hb fa fb na nb
  go_enter Try.func5, Try.ntmps5
  go_wp2_with fail
  refine (f8 aa ab ca cb A B w DA.out DB.out FA.out FB.out).mono ?_
  rintro e w1 ⟨⟨b, rfl, hans⟩, rfl⟩
  cases b
  · go_wp2
    go_ret
    exact ⟨rfl, Below.refl _ _⟩
  obtain ⟨sa, sb⟩ := hans rfl
  have SA : Hid (Small A) := sa
  have SB : Hid (Small B) := sb
  have la := sa.1
  have lb := sb.1
  clear hans sa sb
  go_wp2_with fail
  refine (f9 aa ca A 0 _ DA.out SA.out (by omega) (by omega)).mono ?_
  rintro e w2 ⟨⟨s, hs0, hs, rfl⟩, rfl⟩
  go_wp2_with fail
  refine (f9 ab cb B s _ DB.out SB.out hs0 hs).mono ?_
  rintro e w3 ⟨⟨t, ht0, ht, rfl⟩, rfl⟩
  by_cases h1 : t > 1048576
  · go_wp2
    go_ret
    exact ⟨rfl, Below.refl _ _⟩
  go_wp2_with fail
  refine (f10 aa ca A _ DA.out SA.out).mono ?_
  rintro e w4 ⟨⟨b, rfl, h2⟩, hb4⟩
  have HB4 : Hid (Below _ _ w4) := hb4
  cases b
  · clear hb4 h2
    go_wp2
    go_ret
    exact ⟨rfl, HB4.out⟩
  have AA : Hid (Asc A) := Asc.of (h2 rfl)
  have DB4 : Hid (DevsIn w4 ab B) := DB.out.below hb4
  clear h2 hb4
  go_wp2_with fail
  refine (f10 ab cb B _ DB4.out SB.out).mono ?_
  rintro e w5 ⟨⟨b, rfl, h2⟩, hb5⟩
  have HB5 : Hid (Below _ _ w5) := kept_trans HB4.out hb5
  cases b
  · clear hb5 h2
    go_wp2
    go_ret
    exact ⟨rfl, HB5.out⟩
  have AB : Hid (Asc B) := Asc.of (h2 rfl)
  have DA5 : Hid (DevsIn w5 aa A) := DA.out.below HB5.out
  clear h2 hb5
  go_wp2_with fail
  refine (f12 aa ca A _ DA5.out NA.out la).mono ?_
  rintro e w6 ⟨⟨a1, c1, rfl, d1, p1⟩, hb6⟩
  have D1 : Hid (DevsIn w6 a1 A) := d1
  have P1 : Hid (Plain a1 A) := p1
  have HB6 : Hid (Below _ _ w6) := kept_trans HB5.out hb6
  clear d1 p1 hb6
  go_wp2_with fail
  refine (f11m a1 A.length c1 w6).mono ?_
  rintro e w7 ⟨fm, rfl, m1, hb7⟩
  have M1 : Hid (MapAt w7 fm (.slice a1 A.length c1)) := m1
  have D17 : Hid (DevsIn w7 a1 A) := D1.out.below hb7
  have HB7 : Hid (Below _ _ w7) := kept_trans HB6.out hb7
  clear m1 hb7
  have DB7 : Hid (DevsIn w7 ab B) := DB.out.below HB7.out
  go_wp2_with fail
  refine (f12 ab cb B _ DB7.out NB.out lb).mono ?_
  rintro e w8 ⟨⟨a2, c2, rfl, d2, p2⟩, hb8⟩
  have D2 : Hid (DevsIn w8 a2 B) := d2
  have P2 : Hid (Plain a2 B) := p2
  have M18 : Hid (MapAt w8 fm (.slice a1 A.length c1)) := M1.out.below hb8
  have D18 : Hid (DevsIn w8 a1 A) := D17.out.below hb8
  have HB8 : Hid (Below _ _ w8) := kept_trans HB7.out hb8
  clear d2 p2 hb8
  go_wp2_with fail
  refine (f11m a2 B.length c2 w8).mono ?_
  rintro e w9 ⟨tm, rfl, m2, hb9⟩
  have M2 : Hid (MapAt w9 tm (.slice a2 B.length c2)) := m2
  have D29 : Hid (DevsIn w9 a2 B) := D2.out.below hb9
  have M19 : Hid (MapAt w9 fm (.slice a1 A.length c1)) := M18.out.below hb9
  have D19 : Hid (DevsIn w9 a1 A) := D18.out.below hb9
  have HB9 : Hid (Below _ _ w9) := kept_trans HB8.out hb9
  clear m2 hb9
  go_wp2_with fail
  refine (f13 fm tm a1 a2 c1 c2 A B w9 M19.out M2.out D19.out D29.out P2.out AA.out AB.out la lb).mono ?_
  rintro e w10 ⟨⟨tb, U, rfl, hu1, ht1⟩, hb10⟩
  have HU : Hid (IsUnion B A U) := hu1
  have lu := union_len hu1
  have HT : Hid (TrafficAt w10 tb fm tm A B U) := ht1
  have HB10 : Hid (Below _ _ w10) := kept_trans HB9.out hb10
  have DA10 : Hid (DevsIn w10 aa A) := DA.out.below HB10.out
  have DB10 : Hid (DevsIn w10 ab B) := DB.out.below HB10.out
  clear hu1 ht1 hb10
  clear M1 M2 M18 M19 D1 D2 D17 D18 D19 D29 P1 P2 HB9 HB8 HB7 HB6 HB5 HB4 DB4 DA5 DB7
  have hmk := make27 A.length B.length la lb
  have hma := make37 A.length (by omega)
  have hmb := make37 B.length (by omega)
  go_upto_region 18 with fail
  clear hmk hma hmb
  have HX : Hid _ := ex_start w10 A B U (by unfold maxLen; omega)
  have hsz : w10.heap.size ≤ w10.heap.size + 1 := by omega
  generalize hg3 : w10.heap.size + 1 + 1 + 1 = g3 at *
  generalize hg2 : w10.heap.size + 1 + 1 = g2 at *
  generalize hg1 : w10.heap.size + 1 = g1 at *
  generalize ((((w10.alloc (.cells (mk40 (A.length + B.length)) 40)).alloc (.cells (mk3 A.length) 3)).alloc (.cells (mk3 A.length) 3)).alloc (.cells (mk3 B.length) 3)) = w11 at *
  go_upto_block 0 with fail
  go_cut [10] from 61 to 146 (fun s10 wx => ∃ (g cap : Nat), s10 = .slice (some ⟨g, 0, none⟩) U.length cap ∧ Hid (Ex w10.heap.size w10 wx (.slice (some ⟨g, 0, none⟩) U.length cap) g1 g2 g3 A B U A.length A.length B.length U.length))
  case first =>
    go_wp2_with fail
    go_loopw [10, 14, 15] (fun s10 s14 s15 wr => ∃ (i j k g cap : Nat), s14 = .int .i64 i ∧ s15 = .int .i64 j ∧ s10 = .slice (some ⟨g, 0, none⟩) k cap ∧ i ≤ A.length ∧ j ≤ B.length ∧ k ≤ U.length ∧ Hid (Ex w10.heap.size w10 wr (.slice (some ⟨g, 0, none⟩) k cap) g1 g2 g3 A B U i i j k) ∧ Hid (At A B U i j k)) (fun _ s14 s15 _ => A.length + B.length - ((intOf s14).toNat + (intOf s15).toNat))
    case atStart => exact ⟨0, 0, 0, _, _, rfl, rfl, rfl, by omega, by omega, by omega, HX, At.start AA.out AB.out HU.out⟩
    case round =>
      obtain ⟨i, j, k, g, cap, rfl, rfl, rfl, hi, hj, hk, HE, HA⟩ := hrel
      clear HX
      have HBr : Hid _ := HE.out.1.2.1
      have m12 : g1 ≠ g2 := by omega
      have m13 : g1 ≠ g3 := by omega
      have m23 : g2 ≠ g3 := by omega
      by_cases hlt : i < A.length
      · by_cases hlt2 : j < B.length
        · -- both
          obtain ⟨f, hf⟩ := at_of hlt
          obtain ⟨b1, off1, rfl, hb1, q1, q1', q1''⟩ := DA10.out i f hf
          have r1 : wr.cell? ⟨b1, off1 + i * 3, none⟩ = some (.string f.nm) := (HBr.out.cell (p := ⟨b1, off1 + i * 3, none⟩) hb1).trans q1
          have r1' : wr.cell? ⟨b1, off1 + i * 3 + 1, none⟩ = some (.float .f64 f.wt) := (HBr.out.cell (p := ⟨b1, off1 + i * 3 + 1, none⟩) hb1).trans q1'
          have r1'' : wr.cell? ⟨b1, off1 + i * 3 + 2, none⟩ = some (.string f.dm) := (HBr.out.cell (p := ⟨b1, off1 + i * 3 + 2, none⟩) hb1).trans q1''
          have HF : Hid (A[i]? = some f) := hf
          clear hf q1 q1' q1''
          have hi0 : (0 : Int) ≤ (i : Int) := by omega
          have hi1 : (i : Int) < (A.length : Int) := by omega
          have hi2 : decide ((A.length : Int) ≤ (i : Int)) = false := decide_eq_false (by omega)
          have hi3 : decide ((i : Int) < (A.length : Int)) = true := decide_eq_true (by omega)
          obtain ⟨⟨y1, s1⟩, z1⟩ := HE.out.1.2.2.2.1.cell hlt
          obtain ⟨⟨y2, s2⟩, z2⟩ := HE.out.1.2.2.2.2.1.cell hlt
          have m1b1 : g1 ≠ b1 := by omega
          have m2b1 : g2 ≠ b1 := by omega
          have m3b1 : g3 ≠ b1 := by omega
          obtain ⟨t, ht⟩ := at_of hlt2
          obtain ⟨b2, off2, rfl, hb2, q2, q2', q2''⟩ := DB10.out j t ht
          have r2 : wr.cell? ⟨b2, off2 + j * 3, none⟩ = some (.string t.nm) := (HBr.out.cell (p := ⟨b2, off2 + j * 3, none⟩) hb2).trans q2
          have r2' : wr.cell? ⟨b2, off2 + j * 3 + 1, none⟩ = some (.float .f64 t.wt) := (HBr.out.cell (p := ⟨b2, off2 + j * 3 + 1, none⟩) hb2).trans q2'
          have r2'' : wr.cell? ⟨b2, off2 + j * 3 + 2, none⟩ = some (.string t.dm) := (HBr.out.cell (p := ⟨b2, off2 + j * 3 + 2, none⟩) hb2).trans q2''
          have HT2 : Hid (B[j]? = some t) := ht
          clear ht q2 q2' q2''
          have hj0 : (0 : Int) ≤ (j : Int) := by omega
          have hj1 : (j : Int) < (B.length : Int) := by omega
          have hj3 : decide ((j : Int) < (B.length : Int)) = true := decide_eq_true (by omega)
          obtain ⟨⟨y3, s3⟩, z3⟩ := HE.out.1.2.2.2.2.2.cell hlt2
          have m1b2 : g1 ≠ b2 := by omega
          have m2b2 : g2 ≠ b2 := by omega
          have m3b2 : g3 ≠ b2 := by omega
          by_cases hn : nk t = nk f
          · -- the name is in both lists
            obtain ⟨hAt, hUk, hkl, e1, e2, e3⟩ := HA.out.both AA.out AB.out HU.out.1 HF.out HT2.out hn
            have hall := e1
            have HX3 : Hid (∀ q, Ex w10.heap.size w10 ((((wr.drewN q).setCell ⟨g1, i, none⟩ (.int .i64 (k : Int))).setCell ⟨g2, i, none⟩ (.int .i64 (j : Int))).setCell ⟨g3, j, none⟩ (.int .i64 (k : Int))) (.slice (some ⟨g, 0, none⟩) k cap) g1 g2 g3 A B U (i + 1) (i + 1) (j + 1) k) := fun q => (((HE.out.drewN q).put1 HF.out e1).put2 HF.out e2).put3 HT2.out e3
            have heq : (t.nm.toList == f.nm.toList) = true := by rw [beq_iff_eq, nk_toList, nk_toList]; exact hn
            have hl1 : Op.bytesLess f.nm.toList t.nm.toList = false := by rw [nk_toList, nk_toList, hn]; exact lt_irrefl _
            have hl2 : Op.bytesLess t.nm.toList f.nm.toList = false := by rw [nk_toList, nk_toList, hn]; exact lt_irrefl _
            clear hn e1 e2 e3
            have HU3 : Hid (U[k]? = some t) := hUk
            have HA3 : Hid (At A B U (i + 1) (j + 1) (k + 1)) := hAt
            clear hUk hAt hall
            go_wp2
            go_quiet (fail)
            go_wp2
            go_quiet (fail)
            go_wp2_with (at_builtin; refine wpList_append_own _ rfl _ _ 27 rfl w10.heap.size 40 i0 (.agg #[.string ⟨#[]⟩, .float .f64 0, .string ⟨#[]⟩]) 3 40 Try.underlying27 hi0' hz0 hz1 hz2 rfl (by decide) _ _ _ rfl ((HX3.out _).1.1.alloc _) ⟨wr.heap.size, 0, none⟩ 1 1 [.string t.nm, .float .f64 t.wt, .string t.dm] rfl rfl ?c1 ?c2 ?c3 ?c4 ?c5 ?_)
            case c1 =>
              intro p u hp
              rw [show (⟨wr.heap.size, 0, none⟩ : Addr).add p = ⟨wr.heap.size, p, none⟩ from by simp [Addr.add]; intro h; simp [h]]
              exact cellOf (new_block (by simp [World.setCell, World.drewN])) (by simpa using hp)
            case c2 =>
              intro u hu
              simp at hu
              rcases hu with rfl | rfl | rfl <;> rfl
            case c3 => unfold maxLen; omega
            case c4 => omega
            case c5 => simp [World.setCell, World.drewN]; have := HE.out.1.2.2.1; omega
            intro v' wz hown' hgrow hiff
            have HXz : Hid (Ex w10.heap.size w10 wz v' g1 g2 g3 A B U (i + 1) (i + 1) (j + 1) (k + 1)) := (HX3.out _).app HU3.out hown' hgrow
            obtain ⟨g', cap', rfl⟩ := own_slice HXz.out.1.1 (fun e => by first | exact hiff e | (have := hiff.1 e; simp at this))
            clear hown' hgrow hiff
            go_wp2
            go_roundw
            case rel => exact ⟨i + 1, j + 1, k + 1, g', cap', by go_num, by go_num, rfl, by omega, by omega, by omega, HXz, HA3⟩
            case measure => simp [intOf]; omega
          · have heq : (t.nm.toList == f.nm.toList) = false := by rw [beq_eq_false_iff_ne, nk_toList, nk_toList]; exact hn
            cases hl2 : Op.bytesLess t.nm.toList f.nm.toList
            · -- the first list's comes first
              have hl : lt (nk f) (nk t) = true := by
                rcases lt_tri (nk t) (nk f) with h | h | h
                · rw [← nk_toList, ← nk_toList] at h; exact absurd (hl2.symm.trans h) (by simp)
                · exact absurd h hn
                · exact h
              obtain ⟨hAt, hUk, hkl, e1, e2⟩ := HA.out.left AA.out AB.out HU.out.1 HF.out (fun x hx => by rw [HT2.out] at hx; cases hx; exact hl)
              have hall := e1
              have HX3 : Hid (∀ q, Ex w10.heap.size w10 (((wr.drewN q).setCell ⟨g1, i, none⟩ (.int .i64 (k : Int))).setCell ⟨g2, i, none⟩ (.int .i64 (-1))) (.slice (some ⟨g, 0, none⟩) k cap) g1 g2 g3 A B U (i + 1) (i + 1) (j) k) := fun q => ((HE.out.drewN q).put1 HF.out e1).put2 HF.out e2
              have hl1 : Op.bytesLess f.nm.toList t.nm.toList = true := by rw [nk_toList, nk_toList]; exact hl
              clear hn e1 e2 hl
              have HU3 : Hid (U[k]? = some f) := hUk
              have HA3 : Hid (At A B U (i + 1) (j) (k + 1)) := hAt
              clear hUk hAt hall
              go_wp2
              go_quiet (fail)
              go_wp2_with (at_builtin; refine wpList_append_own _ rfl _ _ 27 rfl w10.heap.size 40 i0 (.agg #[.string ⟨#[]⟩, .float .f64 0, .string ⟨#[]⟩]) 3 40 Try.underlying27 hi0' hz0 hz1 hz2 rfl (by decide) _ _ _ rfl ((HX3.out _).1.1.alloc _) ⟨wr.heap.size, 0, none⟩ 1 1 [.string f.nm, .float .f64 f.wt, .string f.dm] rfl rfl ?c1 ?c2 ?c3 ?c4 ?c5 ?_)
              case c1 =>
                intro p u hp
                rw [show (⟨wr.heap.size, 0, none⟩ : Addr).add p = ⟨wr.heap.size, p, none⟩ from by simp [Addr.add]; intro h; simp [h]]
                exact cellOf (new_block (by simp [World.setCell, World.drewN])) (by simpa using hp)
              case c2 =>
                intro u hu
                simp at hu
                rcases hu with rfl | rfl | rfl <;> rfl
              case c3 => unfold maxLen; omega
              case c4 => omega
              case c5 => simp [World.setCell, World.drewN]; have := HE.out.1.2.2.1; omega
              intro v' wz hown' hgrow hiff
              have HXz : Hid (Ex w10.heap.size w10 wz v' g1 g2 g3 A B U (i + 1) (i + 1) (j) (k + 1)) := (HX3.out _).app HU3.out hown' hgrow
              obtain ⟨g', cap', rfl⟩ := own_slice HXz.out.1.1 (fun e => by first | exact hiff e | (have := hiff.1 e; simp at this))
              clear hown' hgrow hiff
              go_wp2
              go_roundw
              case rel => exact ⟨i + 1, j, k + 1, g', cap', by go_num, by go_num, rfl, by omega, by omega, by omega, HXz, HA3⟩
              case measure => simp [intOf]; omega
            · -- the second list's comes first
              have hl : lt (nk t) (nk f) = true := by rw [← nk_toList, ← nk_toList]; exact hl2
              obtain ⟨hAt, hUk, hkl, e3⟩ := HA.out.right HU.out.1 HT2.out (fun x hx => by rw [HF.out] at hx; cases hx; exact hl)
              have hall := e3
              have HX3 : Hid (∀ q, Ex w10.heap.size w10 ((wr.drewN q).setCell ⟨g3, j, none⟩ (.int .i64 (k : Int))) (.slice (some ⟨g, 0, none⟩) k cap) g1 g2 g3 A B U (i) (i) (j + 1) k) := fun q => (HE.out.drewN q).put3 HT2.out e3
              have hl1 : Op.bytesLess f.nm.toList t.nm.toList = false := by rw [nk_toList, nk_toList]; exact lt_asymm hl
              clear hn e3 hl
              have HU3 : Hid (U[k]? = some t) := hUk
              have HA3 : Hid (At A B U (i) (j + 1) (k + 1)) := hAt
              clear hUk hAt hall
              go_wp2
              go_quiet (fail)
              go_wp2
              go_quiet (fail)
              go_wp2_with (at_builtin; refine wpList_append_own _ rfl _ _ 27 rfl w10.heap.size 40 i0 (.agg #[.string ⟨#[]⟩, .float .f64 0, .string ⟨#[]⟩]) 3 40 Try.underlying27 hi0' hz0 hz1 hz2 rfl (by decide) _ _ _ rfl ((HX3.out _).1.1.alloc _) ⟨wr.heap.size, 0, none⟩ 1 1 [.string t.nm, .float .f64 t.wt, .string t.dm] rfl rfl ?c1 ?c2 ?c3 ?c4 ?c5 ?_)
              case c1 =>
                intro p u hp
                rw [show (⟨wr.heap.size, 0, none⟩ : Addr).add p = ⟨wr.heap.size, p, none⟩ from by simp [Addr.add]; intro h; simp [h]]
                exact cellOf (new_block (by simp [World.setCell, World.drewN])) (by simpa using hp)
              case c2 =>
                intro u hu
                simp at hu
                rcases hu with rfl | rfl | rfl <;> rfl
              case c3 => unfold maxLen; omega
              case c4 => omega
              case c5 => simp [World.setCell, World.drewN]; have := HE.out.1.2.2.1; omega
              intro v' wz hown' hgrow hiff
              have HXz : Hid (Ex w10.heap.size w10 wz v' g1 g2 g3 A B U (i) (i) (j + 1) (k + 1)) := (HX3.out _).app HU3.out hown' hgrow
              obtain ⟨g', cap', rfl⟩ := own_slice HXz.out.1.1 (fun e => by first | exact hiff e | (have := hiff.1 e; simp at this))
              clear hown' hgrow hiff
              go_wp2
              go_roundw
              case rel => exact ⟨i, j + 1, k + 1, g', cap', by go_num, by go_num, rfl, by omega, by omega, by omega, HXz, HA3⟩
              case measure => simp [intOf]; omega
        · -- the second list is done
          have hj3 : decide ((j : Int) < (B.length : Int)) = false := decide_eq_false (by omega)
          have hj4 : ¬ (j : Int) < (B.length : Int) := by omega
          obtain ⟨f, hf⟩ := at_of hlt
          obtain ⟨b1, off1, rfl, hb1, q1, q1', q1''⟩ := DA10.out i f hf
          have r1 : wr.cell? ⟨b1, off1 + i * 3, none⟩ = some (.string f.nm) := (HBr.out.cell (p := ⟨b1, off1 + i * 3, none⟩) hb1).trans q1
          have r1' : wr.cell? ⟨b1, off1 + i * 3 + 1, none⟩ = some (.float .f64 f.wt) := (HBr.out.cell (p := ⟨b1, off1 + i * 3 + 1, none⟩) hb1).trans q1'
          have r1'' : wr.cell? ⟨b1, off1 + i * 3 + 2, none⟩ = some (.string f.dm) := (HBr.out.cell (p := ⟨b1, off1 + i * 3 + 2, none⟩) hb1).trans q1''
          have HF : Hid (A[i]? = some f) := hf
          clear hf q1 q1' q1''
          have hi0 : (0 : Int) ≤ (i : Int) := by omega
          have hi1 : (i : Int) < (A.length : Int) := by omega
          have hi2 : decide ((A.length : Int) ≤ (i : Int)) = false := decide_eq_false (by omega)
          have hi3 : decide ((i : Int) < (A.length : Int)) = true := decide_eq_true (by omega)
          obtain ⟨⟨y1, s1⟩, z1⟩ := HE.out.1.2.2.2.1.cell hlt
          obtain ⟨⟨y2, s2⟩, z2⟩ := HE.out.1.2.2.2.2.1.cell hlt
          have m1b1 : g1 ≠ b1 := by omega
          have m2b1 : g2 ≠ b1 := by omega
          have m3b1 : g3 ≠ b1 := by omega
          obtain ⟨hAt, hUk, hkl, e1, e2⟩ := HA.out.left AA.out AB.out HU.out.1 HF.out (fun x hx => absurd (List.getElem?_eq_some_iff.1 hx).1 (by omega))
          have hall := e1
          have HX3 : Hid (∀ q, Ex w10.heap.size w10 (((wr.drewN q).setCell ⟨g1, i, none⟩ (.int .i64 (k : Int))).setCell ⟨g2, i, none⟩ (.int .i64 (-1))) (.slice (some ⟨g, 0, none⟩) k cap) g1 g2 g3 A B U (i + 1) (i + 1) (j) k) := fun q => ((HE.out.drewN q).put1 HF.out e1).put2 HF.out e2
          clear e1 e2
          have HU3 : Hid (U[k]? = some f) := hUk
          have HA3 : Hid (At A B U (i + 1) (j) (k + 1)) := hAt
          clear hUk hAt hall
          go_wp2
          go_quiet (fail)
          go_wp2_with (at_builtin; refine wpList_append_own _ rfl _ _ 27 rfl w10.heap.size 40 i0 (.agg #[.string ⟨#[]⟩, .float .f64 0, .string ⟨#[]⟩]) 3 40 Try.underlying27 hi0' hz0 hz1 hz2 rfl (by decide) _ _ _ rfl ((HX3.out _).1.1.alloc _) ⟨wr.heap.size, 0, none⟩ 1 1 [.string f.nm, .float .f64 f.wt, .string f.dm] rfl rfl ?c1 ?c2 ?c3 ?c4 ?c5 ?_)
          case c1 =>
            intro p u hp
            rw [show (⟨wr.heap.size, 0, none⟩ : Addr).add p = ⟨wr.heap.size, p, none⟩ from by simp [Addr.add]; intro h; simp [h]]
            exact cellOf (new_block (by simp [World.setCell, World.drewN])) (by simpa using hp)
          case c2 =>
            intro u hu
            simp at hu
            rcases hu with rfl | rfl | rfl <;> rfl
          case c3 => unfold maxLen; omega
          case c4 => omega
          case c5 => simp [World.setCell, World.drewN]; have := HE.out.1.2.2.1; omega
          intro v' wz hown' hgrow hiff
          have HXz : Hid (Ex w10.heap.size w10 wz v' g1 g2 g3 A B U (i + 1) (i + 1) (j) (k + 1)) := (HX3.out _).app HU3.out hown' hgrow
          obtain ⟨g', cap', rfl⟩ := own_slice HXz.out.1.1 (fun e => by first | exact hiff e | (have := hiff.1 e; simp at this))
          clear hown' hgrow hiff
          go_wp2
          go_roundw
          case rel => exact ⟨i + 1, j, k + 1, g', cap', by go_num, by go_num, rfl, by omega, by omega, by omega, HXz, HA3⟩
          case measure => simp [intOf]; omega
      · have hi2 : decide ((A.length : Int) ≤ (i : Int)) = true := decide_eq_true (by omega)
        have hi3 : decide ((i : Int) < (A.length : Int)) = false := decide_eq_false (by omega)
        have hi4 : ¬ (i : Int) < (A.length : Int) := by omega
        by_cases hlt2 : j < B.length
        · -- the first list is done
          obtain ⟨t, ht⟩ := at_of hlt2
          obtain ⟨b2, off2, rfl, hb2, q2, q2', q2''⟩ := DB10.out j t ht
          have r2 : wr.cell? ⟨b2, off2 + j * 3, none⟩ = some (.string t.nm) := (HBr.out.cell (p := ⟨b2, off2 + j * 3, none⟩) hb2).trans q2
          have r2' : wr.cell? ⟨b2, off2 + j * 3 + 1, none⟩ = some (.float .f64 t.wt) := (HBr.out.cell (p := ⟨b2, off2 + j * 3 + 1, none⟩) hb2).trans q2'
          have r2'' : wr.cell? ⟨b2, off2 + j * 3 + 2, none⟩ = some (.string t.dm) := (HBr.out.cell (p := ⟨b2, off2 + j * 3 + 2, none⟩) hb2).trans q2''
          have HT2 : Hid (B[j]? = some t) := ht
          clear ht q2 q2' q2''
          have hj0 : (0 : Int) ≤ (j : Int) := by omega
          have hj1 : (j : Int) < (B.length : Int) := by omega
          have hj3 : decide ((j : Int) < (B.length : Int)) = true := decide_eq_true (by omega)
          obtain ⟨⟨y3, s3⟩, z3⟩ := HE.out.1.2.2.2.2.2.cell hlt2
          have m1b2 : g1 ≠ b2 := by omega
          have m2b2 : g2 ≠ b2 := by omega
          have m3b2 : g3 ≠ b2 := by omega
          obtain ⟨hAt, hUk, hkl, e3⟩ := HA.out.right HU.out.1 HT2.out (fun x hx => absurd (List.getElem?_eq_some_iff.1 hx).1 (by omega))
          have hall := e3
          have HX3 : Hid (∀ q, Ex w10.heap.size w10 ((wr.drewN q).setCell ⟨g3, j, none⟩ (.int .i64 (k : Int))) (.slice (some ⟨g, 0, none⟩) k cap) g1 g2 g3 A B U (i) (i) (j + 1) k) := fun q => (HE.out.drewN q).put3 HT2.out e3
          clear e3
          have HU3 : Hid (U[k]? = some t) := hUk
          have HA3 : Hid (At A B U (i) (j + 1) (k + 1)) := hAt
          clear hUk hAt hall
          go_wp2
          go_quiet (fail)
          go_wp2
          go_quiet (fail)
          go_wp2_with (at_builtin; refine wpList_append_own _ rfl _ _ 27 rfl w10.heap.size 40 i0 (.agg #[.string ⟨#[]⟩, .float .f64 0, .string ⟨#[]⟩]) 3 40 Try.underlying27 hi0' hz0 hz1 hz2 rfl (by decide) _ _ _ rfl ((HX3.out _).1.1.alloc _) ⟨wr.heap.size, 0, none⟩ 1 1 [.string t.nm, .float .f64 t.wt, .string t.dm] rfl rfl ?c1 ?c2 ?c3 ?c4 ?c5 ?_)
          case c1 =>
            intro p u hp
            rw [show (⟨wr.heap.size, 0, none⟩ : Addr).add p = ⟨wr.heap.size, p, none⟩ from by simp [Addr.add]; intro h; simp [h]]
            exact cellOf (new_block (by simp [World.setCell, World.drewN])) (by simpa using hp)
          case c2 =>
            intro u hu
            simp at hu
            rcases hu with rfl | rfl | rfl <;> rfl
          case c3 => unfold maxLen; omega
          case c4 => omega
          case c5 => simp [World.setCell, World.drewN]; have := HE.out.1.2.2.1; omega
          intro v' wz hown' hgrow hiff
          have HXz : Hid (Ex w10.heap.size w10 wz v' g1 g2 g3 A B U (i) (i) (j + 1) (k + 1)) := (HX3.out _).app HU3.out hown' hgrow
          obtain ⟨g', cap', rfl⟩ := own_slice HXz.out.1.1 (fun e => by first | exact hiff e | (have := hiff.1 e; simp at this))
          clear hown' hgrow hiff
          go_wp2
          go_roundw
          case rel => exact ⟨i, j + 1, k + 1, g', cap', by go_num, by go_num, rfl, by omega, by omega, by omega, HXz, HA3⟩
          case measure => simp [intOf]; omega
        · -- both are done
          have hkU : k = U.length := by have := HA.out.done hlt hlt2; omega
          obtain rfl : i = A.length := by omega
          obtain rfl : j = B.length := by omega
          subst hkU
          go_wp2
          go_meet
          case rel => exact ⟨g, cap, rfl, HE⟩
  case rest =>
    obtain ⟨g, cap, rfl, HE⟩ := hcut
    obtain ⟨kb, ar, cr, f1, t1, z3, z4, o, hwh⟩ := (HT.out.below HE.out.1.2.1).whole
    have HW : Hid (Whole wc A B U tb kb fm tm ar cr f1 t1 z3 z4 o) := hwh
    have HBw : Hid (Below _ _ wc) := kept_trans HB10.out HE.out.1.2.1
    have hgr := devRow_own HE.out.1.1
    have HGR : Hid (g < wc.heap.size ∧ DevRow wc g U) := hgr
    have R1 : Hid (IntsAt wc g1 (A.map fun d => ix U (nk d))) := HE.out.1.2.2.2.1.all.ints
    have R2 : Hid (IntsAt wc g2 (A.map fun d => ix B (nk d))) := HE.out.1.2.2.2.2.1.all.ints
    have R3 : Hid (IntsAt wc g3 (B.map fun d => ix U (nk d))) := HE.out.1.2.2.2.2.2.all.ints
    clear HE HT hwh hgr hg1 hg2 hg3 hsz DA10 DB10 HB10 HX
    generalize wc = w12 at *
    go_wp2_with fail
    refine (f14 HW.out.1).mono ?_
    rintro e w13 ⟨rfl, rfl⟩
    go_upto_block 0 with fail
    go_wp2_with fail
    go_loopw [18] (fun s18 wr => ∃ (k : Nat), s18 = .int .i64 k ∧ k ≤ U.length ∧ Hid (Below w13.heap.size w13 wr)) (fun s18 _ => U.length - (intOf s18).toNat)
    case atStart => exact ⟨0, rfl, by omega, Below.refl _ _⟩
    case round =>
      obtain ⟨k, rfl, hk, HB⟩ := hrel
      by_cases hlt : k < U.length
      · obtain ⟨d, hd⟩ := at_of hlt
        obtain ⟨b1, off1, rfl, hb1, q1, q2, q3⟩ := HW.out.2.2.2.1 k d hd
        obtain ⟨p1, p2, p3⟩ := HGR.out.2 k d hd
        have r1 : wr.cell? ⟨b1, off1 + k * 3, none⟩ = some (.string d.nm) := (HB.out.cell (p := ⟨b1, off1 + k * 3, none⟩) hb1).trans q1
        have r2 : wr.cell? ⟨b1, off1 + k * 3 + 1, none⟩ = some (.float .f64 d.wt) := (HB.out.cell (p := ⟨b1, off1 + k * 3 + 1, none⟩) hb1).trans q2
        have r3 : wr.cell? ⟨b1, off1 + k * 3 + 2, none⟩ = some (.string d.dm) := (HB.out.cell (p := ⟨b1, off1 + k * 3 + 2, none⟩) hb1).trans q3
        have r4 : wr.cell? ⟨g, k * 3, none⟩ = some (.string d.nm) := (HB.out.cell (p := ⟨g, k * 3, none⟩) HGR.out.1).trans p1
        have r5 : wr.cell? ⟨g, k * 3 + 1, none⟩ = some (.float .f64 d.wt) := (HB.out.cell (p := ⟨g, k * 3 + 1, none⟩) HGR.out.1).trans p2
        have r6 : wr.cell? ⟨g, k * 3 + 2, none⟩ = some (.string d.dm) := (HB.out.cell (p := ⟨g, k * 3 + 2, none⟩) HGR.out.1).trans p3
        clear hd q1 q2 q3 p1 p2 p3
        have hk0 : (0 : Int) ≤ (k : Int) := by omega
        have hk1 : (k : Int) < (U.length : Int) := by omega
        have hn1 : (d.nm.toList != d.nm.toList) = false := by simp
        have hn2 : (d.dm.toList != d.dm.toList) = false := by simp
        go_wp2
        go_quiet (first | (go_at_call 15; exact Calls.quiet_of_same (f15 d.wt _)))
        go_wp2
        go_roundw
        case rel => exact ⟨k + 1, by go_num, by omega, below_drewN HB.out _⟩
        case measure => simp [intOf]; omega
      · obtain rfl : k = U.length := by omega
        have V1 : Hid (Whole wr A B U tb kb fm tm ar cr f1 t1 z3 z4 o) := HW.out.below HB.out
        have V2 : Hid (Below _ _ wr) := kept_trans HBw.out HB.out
        have S1 : Hid (IntsAt wr g1 (A.map fun d => ix U (nk d))) := R1.out.below HB.out
        have S2 : Hid (IntsAt wr g2 (A.map fun d => ix B (nk d))) := R2.out.below HB.out
        have S3 : Hid (IntsAt wr g3 (B.map fun d => ix U (nk d))) := R3.out.below HB.out
        clear HB HW HBw R1 R2 R3 HGR hlt hk
        generalize wr = w14 at *
        go_wp2_with fail
        refine (f17 V1.out.1).mono ?_
        rintro e w15 ⟨rfl, rfl⟩
        go_wp2_with fail
        refine (f16 f1 g1 A.length (A.map fun d => ix U (nk d)) _ (by simp) V1.out.2.2.2.2.1 S1.out (by omega)).mono ?_
        rintro e w16 ⟨rfl, hb16⟩
        have V16 : Hid (Whole w16 A B U tb kb fm tm ar cr f1 t1 z3 z4 o) := V1.out.below hb16
        have B16 : Hid (Below _ _ w16) := kept_trans V2.out hb16
        have S26 : Hid (IntsAt w16 g2 (A.map fun d => ix B (nk d))) := S2.out.below hb16
        have S36 : Hid (IntsAt w16 g3 (B.map fun d => ix U (nk d))) := S3.out.below hb16
        clear hb16 V1 V2 S1 S2 S3
        go_wp2_with fail
        refine (f18 V16.out.1).mono ?_
        rintro e w17 ⟨rfl, rfl⟩
        go_wp2_with fail
        refine (f16 t1 g3 B.length (B.map fun d => ix U (nk d)) _ (by simp) V16.out.2.2.2.2.2.1 S36.out (by omega)).mono ?_
        rintro e w18 ⟨rfl, hb18⟩
        have V18 : Hid (Whole w18 A B U tb kb fm tm ar cr f1 t1 z3 z4 o) := V16.out.below hb18
        have B18 : Hid (Below _ _ w18) := kept_trans B16.out hb18
        have S28 : Hid (IntsAt w18 g2 (A.map fun d => ix B (nk d))) := S26.out.below hb18
        clear hb18 V16 B16 S26 S36
        go_wp2_with fail
        refine (f19 V18.out.1 V18.out.2.1).mono ?_
        rintro e w19 ⟨rfl, rfl⟩
        go_wp2_with fail
        refine (f16 o g2 A.length (A.map fun d => ix B (nk d)) _ (by simp) V18.out.2.2.2.2.2.2.1 S28.out (by omega)).mono ?_
        rintro e w20 ⟨rfl, hb20⟩
        have V20 : Hid (Whole w20 A B U tb kb fm tm ar cr f1 t1 z3 z4 o) := V18.out.below hb20
        have B20 : Hid (Below _ _ w20) := kept_trans B18.out hb20
        clear hb20 V18 B18 S28
        go_wp2_with fail
        refine (f21 V20.out.1).mono ?_
        rintro e w21 ⟨rfl, rfl⟩
        go_wp2_with fail
        refine (f20 z3 U.length _ V20.out.2.2.2.2.2.2.2.1 (by omega)).mono ?_
        rintro e w22 ⟨rfl, rfl⟩
        go_wp2_with fail
        refine (f22 V20.out.1).mono ?_
        rintro e w23 ⟨rfl, rfl⟩
        go_wp2_with fail
        refine (f20 z4 U.length _ V20.out.2.2.2.2.2.2.2.2 (by omega)).mono ?_
        rintro e w24 ⟨rfl, rfl⟩
        go_wp2_with fail
        refine (f23 V20.out.1).mono ?_
        rintro e w25 ⟨rfl, rfl⟩
        have hq1 := same_map fm
        have hq2 := same_map tm
        go_wp2_with fail
        refine (f24 V20.out.1 V20.out.2.2.1).mono ?_
        rintro e w26 ⟨rfl, rfl⟩
        go_wp2_with fail
        refine (f25 V20.out.1 V20.out.2.2.1).mono ?_
        rintro e w27 ⟨rfl, rfl⟩
        go_wp2
        go_ret
        exact ⟨rfl, B20.out⟩
end Go.Proofs.Qxb6618884a.Nt
