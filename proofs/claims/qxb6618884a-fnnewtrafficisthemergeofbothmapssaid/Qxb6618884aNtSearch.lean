/-
  strings.Compare, slices.SortFunc AND slices.Clone AT THIS DUMP (the layings are what the guide's lay-shelf.mjs and lay-plain.mjs wrote for this program), byName and slices.BinarySearchFunc by walks of our own.
-/
import Derived.Shelf.SlSortCmp.WholeK
import Derived.Shelf.SlSortCmp.NoneTotal
import Derived.Shelf.SlicesE.Clone
import Derived.Shelf.Small.Strs
import Derived.Deep.RegionHeld3
import Derived.Test.Qxb6618884aNtOrder
namespace Go.Proofs.Qxb6618884a.Nt
open Go.Shelf Go.RowKit
def lays106_ren : Ren := ⟨fun | 106 => 40 | 213 => 49 | 265 => 55 | n => n, fun | 9 => 9 | 3 => 3 | n => n, fun | n => n⟩
theorem lays106 : Lays.n106 Try.prog lays106_ren := {
  mixed := by kernel_rfl
  f106 := Try.func40.trans (congrArg some (by kernel_rfl))
  f213 := Try.func49.trans (congrArg some (by kernel_rfl))
  f265 := Try.func55.trans (congrArg some (by kernel_rfl))
  t3 := Try.underlying3
  a3 := Try.isAgg3
  z3 := Try.sizeOf3
  v3 := Try.zeroValue3
  t9 := Try.underlying9
  a9 := Try.isAgg9
  z9 := Try.sizeOf9
  v9 := Try.zeroValue9 }
theorem strings_Compare (a b : ByteArray) (w : World) :
    Calls Try.prog 40 #[.string a, .string b] w fun e w' => e = .returned (.int .i64 (Lib.compareBytes a.data.toList b.data.toList)) ∧ w' = w := Any.strings_Compare lays106 a b w
def sortDev_ren : Ren := ⟨fun | 6 => 36 | 15 => 29 | 14 => 39 | 28 => 33 | 29 => 34 | 20 => 41 | 21 => 42 | 22 => 43 | 23 => 44 | 24 => 45 | 25 => 46 | 26 => 47 | 27 => 48 | 46 => 50 | 47 => 51 | 48 => 52 | 49 => 53 | 50 => 54 | 57 => 56 | n => n, fun | 22 => 33 | 24 => 43 | 25 => 78 | 3 => 3 | 39 => 22 | 0 => 0 | 53 => 73 | 55 => 24 | 4 => 4 | 46 => 85 | 45 => 84 | 50 => 79 | 5 => 5 | 9 => 9 | 66 => 90 | 70 => 93 | 76 => 95 | 77 => 96 | n => n, fun | n => n⟩
theorem sortDev : SlLaysF0.n6 Try.prog sortDev_ren := {
  mixed := by kernel_rfl
  f6 := ⟨Try.f36.name, by decide, Try.func36.trans (congrArg some (by kernel_rfl))⟩
  f14 := ⟨Try.f39.name, by decide, Try.func39.trans (congrArg some (by kernel_rfl))⟩
  f15 := Try.func29.trans (congrArg some (by kernel_rfl))
  f20 := ⟨Try.f41.name, by decide, Try.func41.trans (congrArg some (by kernel_rfl))⟩
  f21 := ⟨Try.f42.name, by decide, Try.func42.trans (congrArg some (by kernel_rfl))⟩
  f22 := ⟨Try.f43.name, by decide, Try.func43.trans (congrArg some (by kernel_rfl))⟩
  f23 := ⟨Try.f44.name, by decide, Try.func44.trans (congrArg some (by kernel_rfl))⟩
  f24 := ⟨Try.f45.name, by decide, Try.func45.trans (congrArg some (by kernel_rfl))⟩
  f25 := ⟨Try.f46.name, by decide, Try.func46.trans (congrArg some (by kernel_rfl))⟩
  f26 := ⟨Try.f47.name, by decide, Try.func47.trans (congrArg some (by kernel_rfl))⟩
  f27 := ⟨Try.f48.name, by decide, Try.func48.trans (congrArg some (by kernel_rfl))⟩
  f28 := Try.func33.trans (congrArg some (by kernel_rfl))
  f29 := Try.func34.trans (congrArg some (by kernel_rfl))
  f46 := ⟨Try.f50.name, by decide, Try.func50.trans (congrArg some (by kernel_rfl))⟩
  f47 := Try.func51.trans (congrArg some (by kernel_rfl))
  f48 := Try.func52.trans (congrArg some (by kernel_rfl))
  f49 := ⟨Try.f53.name, by decide, Try.func53.trans (congrArg some (by kernel_rfl))⟩
  f50 := ⟨Try.f54.name, by decide, Try.func54.trans (congrArg some (by kernel_rfl))⟩
  f57 := ⟨Try.f56.name, by decide, Try.func56.trans (congrArg some (by kernel_rfl))⟩
  t0 := Try.underlying0
  a0 := Try.isAgg0
  z0 := Try.sizeOf0
  v0 := Try.zeroValue0
  t3 := Try.underlying3
  a3 := Try.isAgg3
  z3 := Try.sizeOf3
  v3 := Try.zeroValue3
  t4 := Try.underlying4
  a4 := Try.isAgg4
  z4 := Try.sizeOf4
  v4 := Try.zeroValue4
  t5 := Try.underlying5
  a5 := Try.isAgg5
  z5 := Try.sizeOf5
  v5 := Try.zeroValue5
  t9 := Try.underlying9
  a9 := Try.isAgg9
  z9 := Try.sizeOf9
  v9 := Try.zeroValue9
  t22 := Try.underlying33
  a22 := Try.isAgg33
  z22 := Try.sizeOf33
  v22 := Try.zeroValue33
  t25 := Try.underlying78
  a25 := Try.isAgg78
  z25 := Try.sizeOf78
  v25 := Try.zeroValue78
  t39 := Try.underlying22
  a39 := Try.isAgg22
  z39 := Try.sizeOf22
  v39 := Try.zeroValue22
  t45 := Try.underlying84
  a45 := Try.isAgg84
  z45 := Try.sizeOf84
  v45 := Try.zeroValue84
  t46 := Try.underlying85
  a46 := Try.isAgg85
  z46 := Try.sizeOf85
  v46 := Try.zeroValue85
  t50 := Try.underlying79
  a50 := Try.isAgg79
  z50 := Try.sizeOf79
  v50 := Try.zeroValue79
  t53 := Try.underlying73
  a53 := Try.isAgg73
  z53 := Try.sizeOf73
  v53 := Try.zeroValue73
  t55 := Try.underlying24
  a55 := Try.isAgg24
  z55 := Try.sizeOf24
  v55 := Try.zeroValue24
  t66 := Try.underlying90
  a66 := Try.isAgg90
  z66 := Try.sizeOf90
  v66 := Try.zeroValue90
  t70 := Try.underlying93
  a70 := Try.isAgg93
  z70 := Try.sizeOf93
  v70 := Try.zeroValue93
  t76 := Try.underlying95
  a76 := Try.isAgg95
  z76 := Try.sizeOf95
  v76 := Try.zeroValue95
  t77 := Try.underlying96
  a77 := Try.isAgg96
  z77 := Try.sizeOf96
  v77 := Try.zeroValue96 }
def cloneDev_ren : Ren := ⟨fun | 41 => 35 | n => n, fun | 22 => 33 | 23 => 43 | 4 => 4 | n => n, fun | n => n⟩
theorem cloneDev : SlLaysE0.n41 Try.prog cloneDev_ren := {
  mixed := by kernel_rfl
  f41 := ⟨Try.f35.name, by decide, Try.func35.trans (congrArg some (by kernel_rfl))⟩
  t4 := Try.underlying4
  a4 := Try.isAgg4
  z4 := Try.sizeOf4
  v4 := Try.zeroValue4
  t22 := Try.underlying33
  a22 := Try.isAgg33
  z22 := Try.sizeOf33
  v22 := Try.zeroValue33 }

/-- What byName says of two devices. -/
def cmpN (x y : Dv) : Int := Lib.compareBytes (nk x) (nk y)

/-- A device's cells. -/
def encD (d : Dv) : List Value := [.string d.nm, .float .f64 d.wt, .string d.dm]

set_option maxRecDepth 100000 in
set_option maxHeartbeats 1000000 in
theorem byName (x y : Dv) (W : World) : Calls Try.prog 37 #[.agg #[.string x.nm, .float .f64 x.wt, .string x.dm], .agg #[.string y.nm, .float .f64 y.wt, .string y.dm]] W fun e w' => e = .returned (.int .i64 (cmpN x y)) ∧ ∃ q os', w' = Go.Sort.grow (W.drewN q) os' := by
  have hcon := fun W' => strings_Compare x.nm y.nm W'
  unfold cmpN nk
  generalize Lib.compareBytes x.nm.data.toList y.nm.data.toList = r at hcon ⊢
  go_enter Try.func37, Try.ntmps37
  go_wp2_with (go_at_call 40; refine (hcon _).mono ?_; rintro e w' ⟨rfl, rfl⟩)
  go_ret
  exact ⟨rfl, 0, _, by rw [Go.Sort.alloc_eq_grow, Go.Sort.alloc_eq_grow, Go.Sort.grow_grow]; rfl⟩

theorem grow_below (w : World) (q : Nat) (os : Array Obj) : Below w.heap.size w (Go.Sort.grow (w.drewN q) os) :=
  ⟨rfl, rfl, rfl, by simp [Go.Sort.grow, World.drewN], fun k hk => by simp [Go.Sort.grow, World.drewN, Array.getElem?_append, hk]⟩

theorem undrew {w w2 : World} (h : Below w.drew.heap.size w.drew w2) : Below w.heap.size w w2 := ⟨h.os, h.tape, h.output, h.size, h.block⟩

theorem byNameB (x y : Dv) (W : World) : Calls Try.prog 37 #[.agg #[.string x.nm, .float .f64 x.wt, .string x.dm], .agg #[.string y.nm, .float .f64 y.wt, .string y.dm]] W fun e w' => e = .returned (.int .i64 (cmpN x y)) ∧ Below W.heap.size W w' :=
  (byName x y W).mono fun e w' ⟨he, q, os, hw⟩ => ⟨he, by rw [hw]; exact grow_below _ _ _⟩

theorem swoN : Go.Sort.SWO (ltOf cmpN) where
  irrefl x := by unfold ltOf cmpN; have := (cmp_cases (nk x) (nk x)).2.2 rfl; simp [this]
  trans x y z h1 h2 := by
    unfold ltOf cmpN at *
    simp only [decide_eq_true_eq, (cmp_cases _ _).1] at *
    exact lt_trans _ _ _ h1 h2
  ntrans x y z h1 h2 := by
    unfold ltOf cmpN at *
    simp only [decide_eq_false_iff_not, (cmp_cases _ _).1] at *
    intro h3
    rcases lt_tri (nk y) (nk z) with h | h | h
    · exact h2 h
    · rw [h] at h1; exact h1 h3
    · exact h1 (lt_trans _ _ _ h3 h)

/-- What slices.BinarySearchFunc answers: (i, found). -/
def Found (ds : List Dv) (n : List UInt8) (e : Ending) : Prop :=
  ∃ (i : Nat) (f : Bool), i ≤ ds.length ∧ e = .returned (.tuple #[.int .i64 (i : Int), .bool f]) ∧ (f = true → ∃ d, ds[i]? = some d ∧ nk d = n) ∧ (f = false → ∀ d ∈ ds, nk d ≠ n)

theorem cmp_lt {x y : Dv} : cmpN x y < 0 ↔ lt (nk x) (nk y) = true := (cmp_cases _ _).1
theorem cmp_eq {x y : Dv} : cmpN x y = 0 ↔ nk x = nk y := (cmp_cases _ _).2

/-- Below lo all names are less than n; from hi on none is. -/
def Between (ds : List Dv) (n : List UInt8) (lo hi : Nat) : Prop :=
  (∀ (j : Nat) (d : Dv), j < lo → ds[j]? = some d → lt (nk d) n = true) ∧ (∀ (j : Nat) (d : Dv), hi ≤ j → ds[j]? = some d → lt (nk d) n = false)

theorem between_up {ds : List Dv} {n : List UInt8} {lo hi m : Nat} {d : Dv} (ha : Asc ds) (h : Between ds n lo hi) (hd : ds[m]? = some d) (hl : lt (nk d) n = true) : Between ds n (m + 1) hi :=
  ⟨fun j e hj he => by
    rcases Nat.lt_or_ge j m with h1 | h1
    · exact lt_trans _ _ _ (ha j m e d h1 he hd) hl
    · obtain rfl : j = m := by omega
      rw [hd] at he; cases he; exact hl, h.2⟩
theorem between_down {ds : List Dv} {n : List UInt8} {lo hi m : Nat} {d : Dv} (ha : Asc ds) (h : Between ds n lo hi) (hd : ds[m]? = some d) (hl : lt (nk d) n = false) : Between ds n lo m :=
  ⟨h.1, fun j e hj he => by
    rcases Nat.lt_or_ge m j with h1 | h1
    · cases h2 : lt (nk e) n
      · rfl
      · have := lt_trans _ _ _ (ha m j d e h1 hd he) h2; rw [hl] at this; cases this
    · obtain rfl : j = m := by omega
      rw [hd] at he; cases he; exact hl⟩
theorem between_no {ds : List Dv} {n : List UInt8} {lo : Nat} (ha : Asc ds) (h : Between ds n lo lo) (hn : ∀ d, ds[lo]? = some d → nk d ≠ n) : ∀ d ∈ ds, nk d ≠ n := fun d hd => by
  obtain ⟨j, hj, rfl⟩ := List.getElem_of_mem hd
  have he : ds[j]? = some ds[j] := by simp
  intro e
  rcases Nat.lt_trichotomy j lo with h1 | h1 | h1
  · exact lt_ne (h.1 j _ h1 he) e
  · exact hn _ (by rw [← h1]; exact he) e
  · have h2 : lo < ds.length := by omega
    have h3 : ds[lo]? = some ds[lo] := by simp
    have h4 := ha lo j _ _ h1 h3 he
    have h5 := h.2 lo _ (Nat.le_refl _) h3
    rw [e] at h4; rw [h4] at h5; cases h5

set_option maxRecDepth 100000 in
set_option maxHeartbeats 2000000 in
theorem f38 (aa : Option Addr) (ca : Nat) (ds : List Dv) (t : Dv) (w : World) (ha : DevsIn w aa ds) (hasc : Asc ds) (hl : ds.length ≤ 4194304) :
    Calls Try.prog 38 #[.slice aa ds.length ca, .agg #[.string t.nm, .float .f64 t.wt, .string t.dm], .func (.func 37) #[] #[]] w fun e w' => Found ds (nk t) e ∧ Below w.heap.size w w' := by
  have DA : Hid (DevsIn w aa ds) := ha
  have AS : Hid (Asc ds) := hasc
  clear ha hasc
  go_enter Try.func38, Try.ntmps38
  go_wp2
  go_loopw [9, 10] (fun s9 s10 wr => ∃ lo hi : Nat, s9 = .int .i64 lo ∧ s10 = .int .i64 hi ∧ lo ≤ hi ∧ hi ≤ ds.length ∧ Hid (Between ds (nk t) lo hi) ∧ Hid (Below (w.heap.size + 1) (w.alloc (.cells #[.string t.nm, .float .f64 t.wt, .string t.dm] 43)) wr)) (fun s9 s10 _ => (intOf s10).toNat - (intOf s9).toNat)
  case atStart => exact ⟨0, ds.length, rfl, rfl, Nat.zero_le _, Nat.le_refl _, (show Between _ _ _ _ from ⟨fun j d hj => by omega, fun j d hj he => by have := (List.getElem?_eq_some_iff.1 he).1; omega⟩), Below.refl _ _⟩
  case round =>
    obtain ⟨lo, hi, rfl, rfl, hlh, hin, HBT, HB⟩ := hrel
    have hbw : Below w.heap.size w wr := ((Below.refl _ w).alloc (Nat.le_refl _) _).trans (HB.out.mono (by omega))
    have hTB : wr.heap[w.heap.size]? = some (.cells #[.string t.nm, .float .f64 t.wt, .string t.dm] 43 (0, 0)) := (HB.out.block w.heap.size (by omega)).trans (heap_alloc_new _ _)
    have t0 : wr.cell? ⟨w.heap.size, 0, none⟩ = some (.string t.nm) := by simp [World.cell?, hTB]
    have t1 : wr.cell? ⟨w.heap.size, 1, none⟩ = some (.float .f64 t.wt) := by simp [World.cell?, hTB]
    have t2 : wr.cell? ⟨w.heap.size, 2, none⟩ = some (.string t.dm) := by simp [World.cell?, hTB]
    have hwz : w.heap.size < wr.heap.size := (Array.getElem?_eq_some_iff.1 hTB).1
    clear hTB
    by_cases hlt : lo < hi
    · obtain ⟨m, hm⟩ : ∃ m, m = (lo + hi) / 2 := ⟨_, rfl⟩
      have hm1 : lo ≤ m := by omega
      have hm2 : m < hi := by omega
      obtain ⟨d, hd⟩ := at_of (ds := ds) (k := m) (by omega)
      obtain ⟨b, off, rfl, hb, c0, c1, c2⟩ := DA.out m d hd
      have g0 : wr.cell? ⟨b, off + m * 3, none⟩ = some (.string d.nm) := (hbw.cell (p := ⟨b, off + m * 3, none⟩) hb).trans c0
      have g1 : wr.cell? ⟨b, off + m * 3 + 1, none⟩ = some (.float .f64 d.wt) := (hbw.cell (p := ⟨b, off + m * 3 + 1, none⟩) hb).trans c1
      have g2 : wr.cell? ⟨b, off + m * 3 + 2, none⟩ = some (.string d.dm) := (hbw.cell (p := ⟨b, off + m * 3 + 2, none⟩) hb).trans c2
      have HD : Hid _ := hd
      have HM : Hid _ := hm
      have HBW : Hid _ := hbw
      clear hd hbw c0 c1 c2
      have e1 : ((lo : Int) + (hi : Int)) / 2 = (m : Int) := by omega
      clear hm
      have hbr : b < wr.heap.size := by omega
      have hmi : (m : Int) < (ds.length : Int) := by omega
      have hm0 : (0 : Int) ≤ (m : Int) := by omega
      have HC := byNameB d t
      generalize hc : cmpN d t = c at HC
      have HCC : Hid _ := hc
      clear hc
      have hfin : ∀ w2, Below wr.heap.size wr w2 → Below (w.heap.size + 1) (w.alloc (.cells #[.string t.nm, .float .f64 t.wt, .string t.dm] 43)) w2 := fun w2 h => HB.out.trans (h.mono (by omega))
      have HFI : Hid _ := hfin
      clear hfin
      by_cases hneg : c < 0
      all_goals
        go_wp2
        go_region_held3 (fun w' => w'.cell? ⟨b, off + m * 3, none⟩ = some (.string d.nm) ∧ w'.cell? ⟨b, off + m * 3 + 1, none⟩ = some (.float .f64 d.wt) ∧ w'.cell? ⟨b, off + m * 3 + 2, none⟩ = some (.string d.dm) ∧ w'.cell? ⟨w.heap.size, 0, none⟩ = some (.string t.nm) ∧ w'.cell? ⟨w.heap.size, 1, none⟩ = some (.float .f64 t.wt) ∧ w'.cell? ⟨w.heap.size, 2, none⟩ = some (.string t.dm)) (first | go_keep | exact ⟨(hb2.cell (p := ⟨b, off + m * 3, none⟩) hbr).trans g0, (hb2.cell (p := ⟨b, off + m * 3 + 1, none⟩) hbr).trans g1, (hb2.cell (p := ⟨b, off + m * 3 + 2, none⟩) hbr).trans g2, (hb2.cell (p := ⟨w.heap.size, 0, none⟩) hwz).trans t0, (hb2.cell (p := ⟨w.heap.size, 1, none⟩) hwz).trans t1, (hb2.cell (p := ⟨w.heap.size, 2, none⟩) hwz).trans t2⟩)
          ((go_at_call 37; refine (HC _).mono ?_; rintro e w2 ⟨rfl, hb2⟩))
      · have HB2 : Hid _ := HFI.out _ (undrew hb2)
        clear hb2
        go_wp2
        go_roundw
        case rel =>
          have hl : lt (nk d) (nk t) = true := cmp_lt.1 (by rw [HCC.out]; exact hneg)
          exact ⟨m + 1, hi, by go_num, rfl, by omega, hin, between_up AS.out HBT.out HD.out hl, HB2.out⟩
        case measure => simp [intOf]; omega
      · have HB2 : Hid _ := HFI.out _ (undrew hb2)
        clear hb2
        go_wp2
        go_roundw
        case rel =>
          have hl : lt (nk d) (nk t) = false := by
            cases h : lt (nk d) (nk t)
            · rfl
            · have := cmp_lt.2 h; rw [HCC.out] at this; exact absurd this (by omega)
          exact ⟨lo, m, rfl, by go_num, by omega, by omega, between_down AS.out HBT.out HD.out hl, HB2.out⟩
        case measure => simp [intOf]; omega
    · obtain rfl : lo = hi := by omega
      by_cases hn : lo < ds.length
      · obtain ⟨d, hd⟩ := at_of (ds := ds) (k := lo) hn
        obtain ⟨b, off, rfl, hb, c0, c1, c2⟩ := DA.out lo d hd
        have g0 : wr.cell? ⟨b, off + lo * 3, none⟩ = some (.string d.nm) := (hbw.cell (p := ⟨b, off + lo * 3, none⟩) hb).trans c0
        have g1 : wr.cell? ⟨b, off + lo * 3 + 1, none⟩ = some (.float .f64 d.wt) := (hbw.cell (p := ⟨b, off + lo * 3 + 1, none⟩) hb).trans c1
        have g2 : wr.cell? ⟨b, off + lo * 3 + 2, none⟩ = some (.string d.dm) := (hbw.cell (p := ⟨b, off + lo * 3 + 2, none⟩) hb).trans c2
        have HD : Hid _ := hd
        have HBW : Hid _ := hbw
        clear hd hbw c0 c1 c2
        have hbr : b < wr.heap.size := by omega
        have hmi : (lo : Int) < (ds.length : Int) := by omega
        have hm0 : (0 : Int) ≤ (lo : Int) := by omega
        have HC := byNameB d t
        generalize hc : cmpN d t = c at HC
        have HCC : Hid _ := hc
        clear hc
        have hfin : ∀ w2, Below wr.heap.size wr w2 → Below w.heap.size w w2 := fun w2 h => HBW.out.trans (h.mono HBW.out.size)
        have HFI : Hid _ := hfin
        clear hfin
        cases hz : (c == 0)
        all_goals
          go_wp2
          go_region_held3 (fun w' => w'.cell? ⟨b, off + lo * 3, none⟩ = some (.string d.nm) ∧ w'.cell? ⟨b, off + lo * 3 + 1, none⟩ = some (.float .f64 d.wt) ∧ w'.cell? ⟨b, off + lo * 3 + 2, none⟩ = some (.string d.dm) ∧ w'.cell? ⟨w.heap.size, 0, none⟩ = some (.string t.nm) ∧ w'.cell? ⟨w.heap.size, 1, none⟩ = some (.float .f64 t.wt) ∧ w'.cell? ⟨w.heap.size, 2, none⟩ = some (.string t.dm)) (first | go_keep | exact ⟨(hb2.cell (p := ⟨b, off + lo * 3, none⟩) hbr).trans g0, (hb2.cell (p := ⟨b, off + lo * 3 + 1, none⟩) hbr).trans g1, (hb2.cell (p := ⟨b, off + lo * 3 + 2, none⟩) hbr).trans g2, (hb2.cell (p := ⟨w.heap.size, 0, none⟩) hwz).trans t0, (hb2.cell (p := ⟨w.heap.size, 1, none⟩) hwz).trans t1, (hb2.cell (p := ⟨w.heap.size, 2, none⟩) hwz).trans t2⟩)
            ((go_at_call 37; refine (HC _).mono ?_; rintro e w2 ⟨rfl, hb2⟩))
        · have HB2 : Hid _ := HFI.out _ (undrew hb2)
          clear hb2
          go_wp2
          go_ret2
          refine ⟨⟨lo, false, by omega, rfl, by simp, fun _ => between_no AS.out HBT.out fun x hx => ?_⟩, HB2.out⟩
          rw [HD.out] at hx; cases hx
          intro e; have := cmp_eq.2 e; rw [HCC.out] at this; simp [this] at hz
        · have HB2 : Hid _ := HFI.out _ (undrew hb2)
          clear hb2
          go_wp2
          go_ret2
          refine ⟨⟨lo, true, by omega, rfl, fun _ => ⟨d, HD.out, ?_⟩, by simp⟩, HB2.out⟩
          exact cmp_eq.1 (by rw [HCC.out]; simpa using hz)
      · have hd : decide ((lo : Int) < (ds.length : Int)) = false := decide_eq_false (by omega)
        have HBW : Hid _ := hbw
        clear hbw
        go_wp2
        go_quiet (fail)
        go_wp2
        go_ret2
        refine ⟨⟨lo, false, by omega, rfl, by simp, fun _ => between_no AS.out HBT.out fun x hx => ?_⟩, below_drewN HBW.out _⟩
        have := (List.getElem?_eq_some_iff.1 hx).1; omega
end Go.Proofs.Qxb6618884a.Nt
