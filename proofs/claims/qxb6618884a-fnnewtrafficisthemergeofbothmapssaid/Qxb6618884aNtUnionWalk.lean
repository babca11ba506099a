/-
  unionByName: THE WALK.
-/
import Derived.Test.Qxb6618884aNtUnion
namespace Go.Proofs.Qxb6618884a.Nt
open Go.RowKit

theorem own_ne {w : World} {B g n : Nat} {v : Value} {xs : List Value} {cs : Array Value} (h : w.ownsRow B 43 3 v n xs) (hg : w.heap[g]? = some (.cells cs 3 (0, 0))) : some g ≠ v.ownBlock := by
  rcases h.2 with ⟨rfl, _⟩ | ⟨g', cap, cur, rfl, _, hg', _⟩
  · simp [Value.ownBlock]
  · intro e
    simp only [Value.ownBlock, Option.some.injEq] at e
    subst e
    rw [hg] at hg'
    simp at hg'

theorem own_ge {w : World} {B n : Nat} {v : Value} {xs : List Value} (h : w.ownsRow B 43 3 v n xs) : ∀ k, v.ownBlock = some k → B ≤ k := fun k hk => by
  rcases h.2 with ⟨rfl, _⟩ | ⟨g', cap, cur, rfl, hb, _⟩
  · simp [Value.ownBlock] at hk
  · simp [Value.ownBlock] at hk; omega

theorem own_below {w w' : World} {B n : Nat} {v : Value} {xs : List Value} (h : w.ownsRow B 43 3 v n xs) (hb : Below w.heap.size w w') : w'.ownsRow B 43 3 v n xs := by
  refine ⟨h.1, ?_⟩
  rcases h.2 with h1 | ⟨g, cap, cur, hv, hB, hg, hrest⟩
  · exact .inl h1
  · exact .inr ⟨g, cap, cur, hv, hB, (hb.block g (ltOf' hg)).trans hg, hrest⟩

open Go.Sort in
theorem below_sorted [Inhabited Dv] {B : Nat} {w wr : World} (hb : RowKit.Below B w wr) {g n : Nat} (hg : B ≤ g) (hz : B ≤ wr.heap.size) (d : Array Dv) (os : Array Obj) : RowKit.Below B w (sortWorldK encD 3 wr g 0 n d os) := by
  refine hb.trans ⟨rfl, rfl, rfl, ?_, fun k hk => ?_⟩
  · simp [sortWorldK, grow, putRowK]
  · have h1 : k < wr.heap.size := by omega
    simp only [sortWorldK, grow, putRowK, putRow, mapBlock]
    rw [Array.getElem?_append_left (by simpa using h1), Array.getElem?_modify]
    simp [show ¬ g = k by omega]

open Go.Sort in
theorem holds_of_own [Inhabited Dv] {wr : World} {g : Nat} {cur : Array Value} {D : List Dv} (hg : wr.heap[g]? = some (.cells cur 43 (0, 0))) (htk : cur.toList.take (D.length * 3) = fl D) : HoldsK encD 3 wr g 0 D.toArray := fun t ht => by
  rw [size_flatK] at ht
  rw [get_flatK _ _ _ t ht]
  simp at ht
  have h1 : t < (fl D).length := by rw [fl_len]; exact ht
  obtain ⟨u, hu0⟩ : ∃ u, (fl D)[t]? = some u := ⟨(fl D)[t], by simp⟩
  obtain ⟨d, hd, hc⟩ := fl_inv D t u hu0
  have h2 : cur.toList[t]? = some u := by
    rw [← htk, List.getElem?_take, if_pos ht] at hu0
    exact hu0
  have hd2 : D.toArray[t / 3]! = d := by
    have h4 := List.getElem?_eq_some_iff.1 hd
    rw [getElem!_pos _ _ (by simpa using h4.1)]
    simpa using h4.2
  rw [Nat.zero_add]
  refine ⟨?_, by simp [World.frozen?, hg]⟩
  rw [cellOf hg (by simpa using h2), hd2]
  rcases hc with ⟨e, hu⟩ | ⟨e, hu⟩ | ⟨e, hu⟩
  · rw [hu, e]; rfl
  · rw [hu, e]; rfl
  · rw [hu, e]; rfl

open Go.Sort in
theorem devs_of_holds [Inhabited Dv] {w : World} {g : Nat} {d : Array Dv} (h : HoldsK encD 3 w g 0 d) (hg : g < w.heap.size) : DevsIn w (some ⟨g, 0, none⟩) d.toList := fun j x hx => by
  have hj := List.getElem?_eq_some_iff.1 hx
  have hj1 : j < d.size := by simpa using hj.1
  have he : d[j]! = x := by rw [getElem!_pos d j hj1]; simpa using hj.2
  have c0 := (h.cell (i := j) (c := 0) hj1 (by omega)).1
  have c1 := (h.cell (i := j) (c := 1) hj1 (by omega)).1
  have c2 := (h.cell (i := j) (c := 2) hj1 (by omega)).1
  rw [he] at c0 c1 c2
  exact ⟨g, 0, rfl, hg, c0, c1, c2⟩

open Go.Sort in
/-- slices.SortFunc(union, byName), on the union's row. -/
theorem sortU [Inhabited Dv] {xs ys : List Dv} (hx : Asc xs) (hy : Asc ys) {w wr : World} {v : Value} {B : Nat} (hown : wr.ownsRow B 43 3 v (xs ++ extra xs ys).length (fl (xs ++ extra xs ys))) (hb : RowKit.Below B w wr) (hz : B ≤ wr.heap.size) (hl : (xs ++ extra xs ys).length ≤ 4194304) :
    ∃ ar cr, v = .slice ar (xs ++ extra xs ys).length cr ∧ Calls Try.prog 36 #[.slice ar (xs ++ extra xs ys).length cr, .func (.func 37) #[] #[]] wr fun e w' => e = .returned (.tuple #[]) ∧ (∃ U, U.length = (xs ++ extra xs ys).length ∧ DevsIn w' ar U ∧ IsUnion xs ys U ∧ Plain ar U) ∧ RowKit.Below B w w' := by
  have hnone : ∀ ar cr, (xs ++ extra xs ys).length = 0 → Plain ar [] → Calls Try.prog 36 #[.slice ar (xs ++ extra xs ys).length cr, .func (.func 37) #[] #[]] wr fun e w' => e = .returned (.tuple #[]) ∧ (∃ U, U.length = (xs ++ extra xs ys).length ∧ DevsIn w' ar U ∧ IsUnion xs ys U ∧ Plain ar U) ∧ RowKit.Below B w w' := fun ar cr h0 hp => by
    rw [h0]
    have h := AnyF.slices_SortFunc_none sortDev ar cr (.func (.func 37) #[] #[]) wr
    change Calls Try.prog 36 _ _ _ at h
    refine h.mono fun e w' ⟨he, hw⟩ => ⟨he, ⟨[], rfl, fun j d hj => by simp at hj, ⟨fun i j d e _ hd => by simp at hd, ?_⟩, hp⟩, by rw [hw]; exact hb⟩
    rw [List.eq_nil_of_length_eq_zero h0]
  rcases hown.2 with ⟨rfl, h0⟩ | ⟨g, cap, cur, rfl, hB, hg, hn, _, _, htk⟩
  · refine ⟨none, 0, by rw [h0], hnone none 0 h0 (.inl ⟨rfl, rfl⟩)⟩
  · refine ⟨some ⟨g, 0, none⟩, cap, rfl, ?_⟩
    by_cases h0 : (xs ++ extra xs ys).length = 0
    · exact hnone _ _ h0 (.inr ⟨g, 0, rfl⟩)
    · have hlt := ltOf' hg
      have hH := holds_of_own hg htk
      have eg : ∀ args w, (callFunc 37 args).run Try.prog w = .ok (.enter 37 args) w := enters_of Try.func37 (by kernel_rfl) rfl
      have hc : CmpLays Try.prog 37 #[] encD 3 cmpN g 0 (xs ++ extra xs ys).toArray.size wr := fun _ _ _ _ x y => byName x y _
      have h := AnyQ.slices_SortFunc sortDev 3 Try.isAgg43 Try.sizeOf43 encD (fun _ => rfl) (fun x v hv => by simp [encD] at hv; rcases hv with rfl | rfl | rfl <;> rfl) cmpN swoN 37 #[] g 0 cap (xs ++ extra xs ys).toArray wr eg hc hH hlt (by simp at hl ⊢; omega)
      change Calls Try.prog 36 _ _ _ at h
      simp only [List.size_toArray] at h
      refine h.mono fun e w' ⟨he, d', n, os, hp, hs, hw⟩ => ⟨he, ⟨d'.toList, ?_, ?_, union_of hx hy rfl (by simpa using hp) (by simpa using hs), .inr ⟨g, 0, rfl⟩⟩, ?_⟩
      · have := hp.1; simpa using this
      · rw [hw]
        exact devs_of_holds (holdsK_sortWorldK encD 3 wr g 0 n _ d' os hlt hH (by have := hp.1; simpa using this)) (lt_sortWorldK encD 3 wr g 0 n d' os hlt)
      · rw [hw]; exact below_sorted hb hB hz d' os

set_option maxRecDepth 100000 in
set_option maxHeartbeats 800000 in
theorem f31' [Inhabited Dv] (aa ab : Option Addr) (ca cb : Nat) (xs ys : List Dv) (w : World) (ha : DevsIn w aa xs) (hb : DevsIn w ab ys) (pa : Plain aa xs) (hx : Asc xs) (hy : Asc ys) (la : xs.length ≤ 1048576) (lb : ys.length ≤ 1048576) :
    Calls Try.prog 31 #[.slice aa xs.length ca, .slice ab ys.length cb] w fun e w' => (∃ ar cr U, e = .returned (.slice ar U.length cr) ∧ DevsIn w' ar U ∧ IsUnion xs ys U ∧ Plain ar U) ∧ Below w.heap.size w w' := by
  obtain ⟨i0, hi, hz0, hz1, hz2⟩ := info_parts Try.info43
  have DA : Hid (DevsIn w aa xs) := ha
  have DB : Hid (DevsIn w ab ys) := hb
  have HX : Hid (Asc xs) := hx
  have HY : Hid (Asc ys) := hy
  have H35 := f35 aa ca xs w ha pa (by omega)
  clear ha hb pa hx hy
  go_enter Try.func31, Try.ntmps31
  go_wp2_with fail
  refine H35.mono ?_
  clear H35
  rintro e w1 ⟨v1, rfl, hown1, hb1⟩
  have DA1 : Hid (DevsIn w1 aa xs) := DevsIn.below DA.out hb1
  have DB1 : Hid (DevsIn w1 ab ys) := DevsIn.below DB.out hb1
  have HB1 : Hid (Below w.heap.size w w1) := hb1
  have HO1 : Hid _ := hown1
  have hs1 := hb1.size
  clear hown1 hb1
  go_wp2_with fail
  refine (f32 ab aa cb ca ys xs w1 DB1.out DA1.out HX.out (by omega) (by omega)).mono ?_
  rintro e w2 ⟨rfl, hix, hb2⟩
  have HO2 : Hid (w2.ownsRow w.heap.size 43 3 v1 xs.length (fl xs)) := own_below HO1.out hb2
  have HIX : Hid (IdxAt w2 w1.heap.size ys xs) := hix
  have HB2 : Hid (Below w.heap.size w w2) := HB1.out.trans (hb2.mono hs1)
  have hs2 := hb2.size
  clear hix hb2
  go_wp2
  go_loopw [5, 14] (fun s5 s14 wr => ∃ (k : Nat), k ≤ ys.length ∧ s14 = .int .i64 k ∧ w.heap.size ≤ wr.heap.size ∧ Hid (wr.ownsRow w.heap.size 43 3 s5 (xs ++ extraTo xs ys k).length (fl (xs ++ extraTo xs ys k))) ∧ Hid (IdxAt wr w1.heap.size ys xs) ∧ Hid (Below w.heap.size w wr)) (fun _ s14 _ => ys.length - (intOf s14).toNat)
  case atStart => exact ⟨0, by omega, rfl, by omega, (show World.ownsRow _ _ _ _ _ _ _ from by simpa [extraTo] using HO2.out), HIX.out, HB2.out⟩
  case round =>
    obtain ⟨k, hk, rfl, hsz, HO, HI, HB⟩ := hrel
    by_cases hlt : k < ys.length
    · obtain ⟨d, hd⟩ := at_of hlt
      obtain ⟨b, off, rfl, hbb, c0, c1, c2⟩ := DB.out k d hd
      have g0 : wr.cell? ⟨b, off + k * 3, none⟩ = some (.string d.nm) := (HB.out.cell (p := ⟨b, off + k * 3, none⟩) hbb).trans c0
      have g1 : wr.cell? ⟨b, off + k * 3 + 1, none⟩ = some (.float .f64 d.wt) := (HB.out.cell (p := ⟨b, off + k * 3 + 1, none⟩) hbb).trans c1
      have g2 : wr.cell? ⟨b, off + k * 3 + 2, none⟩ = some (.string d.dm) := (HB.out.cell (p := ⟨b, off + k * 3 + 2, none⟩) hbb).trans c2
      have HD : Hid (ys[k]? = some d) := hd
      obtain ⟨cs, hcs, hcl, hct⟩ := HI.out
      have ck : wr.cell? ⟨w1.heap.size, k, none⟩ = some (.int .i64 (ix xs (nk d))) := cellOf hcs (hct k d hlt hd)
      generalize hv : ix xs (nk d) = v at ck
      have HV : Hid _ := hv
      clear hd hcs hcl hct c0 c1 c2 hv
      have hkf : (k : Int) < (ys.length : Int) := by omega
      have hk0 : (0 : Int) ≤ (k : Int) := by omega
      by_cases hneg : v < 0
      · go_wp2_with (at_builtin; refine wpList_append_own _ rfl _ _ 33 rfl w.heap.size 43 i0 (.agg #[.string ⟨#[]⟩, .float .f64 0, .string ⟨#[]⟩]) 3 40 Try.underlying33 hi hz0 hz1 hz2 rfl (by decide) _ _ _ rfl (HO.out.alloc _) ⟨wr.heap.size, 0, none⟩ 1 1 [.string d.nm, .float .f64 d.wt, .string d.dm] rfl rfl ?c1 ?c2 ?c3 ?c4 ?c5 ?_)
        case c1 =>
          intro j u hj
          rw [show (⟨wr.heap.size, 0, none⟩ : Addr).add j = ⟨wr.heap.size, j, none⟩ from by simp [Addr.add]; intro h; simp [h]]
          exact cellOf (heap_alloc_new _ _) (by simpa using hj)
        case c2 =>
          intro u hu
          simp at hu
          rcases hu with rfl | rfl | rfl <;> rfl
        case c3 => have := extra_len xs ys k; unfold maxLen; simp; omega
        case c4 => have := extra_len xs ys k; simp; omega
        case c5 => simp; omega
        intro v' wz hown' hgrow _
        have HOz : Hid (wz.ownsRow w.heap.size 43 3 v' (xs ++ extraTo xs ys (k + 1)).length (fl (xs ++ extraTo xs ys (k + 1)))) := by
          show World.ownsRow _ _ _ _ _ _ _
          rw [extra_yes HD.out (by rw [HV.out]; exact hneg), ← List.append_assoc, fl_app]
          simpa [fl, Nat.add_assoc] using hown'
        have HIz : Hid (IdxAt wz w1.heap.size ys xs) := by
          obtain ⟨cs, hcs, hrest⟩ := HI.out
          have hlt2 := ltOf' hcs
          exact ⟨cs, (hgrow.block _ (by simp; omega) (own_ne HO.out hcs)).trans ((heap_alloc_old wr _ hlt2).trans hcs), hrest⟩
        have HBz : Hid (Below w.heap.size w wz) := (HB.out.alloc hsz _).grown hgrow (by simp; omega) (own_ge HO.out)
        have hsz2 : w.heap.size ≤ wz.heap.size := by have := HBz.out.size; exact this
        clear hown' hgrow
        go_wp2
        go_roundw
        case rel => exact ⟨k + 1, by omega, by go_num, hsz2, HOz.out, HIz.out, HBz.out⟩
        case measure => simp [intOf]; omega
      · have HOz : Hid (wr.ownsRow w.heap.size 43 3 u5 (xs ++ extraTo xs ys (k + 1)).length (fl (xs ++ extraTo xs ys (k + 1)))) := by
          show World.ownsRow _ _ _ _ _ _ _
          rw [extra_no HD.out (by rw [HV.out]; exact hneg)]; exact HO.out
        go_wp2
        go_roundw
        case rel => exact ⟨k + 1, by omega, by go_num, hsz, HOz.out, HI.out, HB.out⟩
        case measure => simp [intOf]; omega
    · obtain rfl : k = ys.length := by omega
      have ho := HO.out
      rw [extra_all] at ho
      obtain ⟨ar, cr, hv, hsort⟩ := sortU HX.out HY.out ho HB.out hsz (by have := extra_len xs ys ys.length; rw [extra_all] at this; simp; omega)
      obtain ⟨N, hN⟩ : ∃ N, N = (xs ++ extra xs ys).length := ⟨_, rfl⟩
      rw [← hN] at hv hsort
      have HN : Hid _ := hN
      subst hv
      clear ho hN
      go_wp2_with fail
      refine hsort.mono ?_
      clear hsort
      rintro e w3 ⟨rfl, ⟨U, hUl, hUd, hUu, hUp⟩, hb3⟩
      have R : Hid ((∃ ar' cr' U, (Ending.returned (.slice ar N cr) : Ending) = .returned (.slice ar' U.length cr') ∧ DevsIn w3 ar' U ∧ IsUnion xs ys U ∧ Plain ar' U) ∧ Below w.heap.size w w3) := ⟨⟨ar, cr, U, by rw [hUl], hUd, hUu, hUp⟩, hb3⟩
      clear hUl hUd hUu hUp hb3
      go_wp2
      go_ret
      exact R.out

theorem f31 (aa ab : Option Addr) (ca cb : Nat) (xs ys : List Dv) (w : World) (ha : DevsIn w aa xs) (hb : DevsIn w ab ys) (pa : Plain aa xs) (hx : Asc xs) (hy : Asc ys) (la : xs.length ≤ 1048576) (lb : ys.length ≤ 1048576) :
    Calls Try.prog 31 #[.slice aa xs.length ca, .slice ab ys.length cb] w fun e w' => (∃ ar cr U, e = .returned (.slice ar U.length cr) ∧ DevsIn w' ar U ∧ IsUnion xs ys U ∧ Plain ar U) ∧ Below w.heap.size w w' :=
  @f31' ⟨⟨ByteArray.empty, 0, ByteArray.empty⟩⟩ aa ab ca cb xs ys w ha hb pa hx hy la lb
end Go.Proofs.Qxb6618884a.Nt
