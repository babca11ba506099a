/-
  unionByName: WALKED.
-/
import Derived.Test.Qxb6618884aNtMatch
import Derived.Deep.LoopGhost
namespace Go.Proofs.Qxb6618884a.Nt
open Go.RowKit

theorem Try.info43 : (Try.prog.info? 43).map (fun i => (i.zero, i.size, i.bytes)) = some (some (.agg #[.string ⟨#[]⟩, .float .f64 0, .string ⟨#[]⟩]), 3, 40) := by kernel_rfl

/-- The cells of a list of devices, one behind the other. -/
def fl : List Dv → List Value
  | [] => []
  | d :: r => .string d.nm :: .float .f64 d.wt :: .string d.dm :: fl r
theorem fl_len : ∀ ds : List Dv, (fl ds).length = ds.length * 3
  | [] => rfl
  | d :: r => by simp [fl, fl_len r]; omega
theorem fl_app : ∀ a b : List Dv, fl (a ++ b) = fl a ++ fl b
  | [], _ => rfl
  | d :: r, b => by simp [fl, fl_app r b]
theorem fl_one : ∀ ds : List Dv, ∀ v ∈ fl ds, v.oneCell' = true
  | [], v, h => by simp [fl] at h
  | d :: r, v, h => by
    simp [fl] at h
    rcases h with rfl | rfl | rfl | h
    · rfl
    · rfl
    · rfl
    · exact fl_one r v h
theorem fl_at : ∀ (ds : List Dv) (j : Nat) (d : Dv), ds[j]? = some d → (fl ds)[j * 3]? = some (.string d.nm) ∧ (fl ds)[j * 3 + 1]? = some (.float .f64 d.wt) ∧ (fl ds)[j * 3 + 2]? = some (.string d.dm)
  | [], j, d, h => by simp at h
  | x :: r, 0, d, h => by simp at h; subst h; simp [fl]
  | x :: r, j + 1, d, h => by
    have := fl_at r j d (by simpa using h)
    rw [show (j + 1) * 3 = j * 3 + 3 by omega]
    simpa [fl] using this
theorem fl_inv (ds : List Dv) (j : Nat) (u : Value) (h : (fl ds)[j]? = some u) : ∃ d, ds[j / 3]? = some d ∧ ((j % 3 = 0 ∧ u = .string d.nm) ∨ (j % 3 = 1 ∧ u = .float .f64 d.wt) ∨ (j % 3 = 2 ∧ u = .string d.dm)) := by
  have hl := (List.getElem?_eq_some_iff.1 h).1
  rw [fl_len] at hl
  obtain ⟨d, hd⟩ := at_of (ds := ds) (k := j / 3) (by omega)
  obtain ⟨h0, h1, h2⟩ := fl_at ds (j / 3) d hd
  refine ⟨d, hd, ?_⟩
  rcases (show j % 3 = 0 ∨ j % 3 = 1 ∨ j % 3 = 2 by omega) with e | e | e
  · rw [show j / 3 * 3 = j by omega, h] at h0; left; exact ⟨e, by simpa using h0⟩
  · rw [show j / 3 * 3 + 1 = j by omega, h] at h1; right; left; exact ⟨e, by simpa using h1⟩
  · rw [show j / 3 * 3 + 2 = j by omega, h] at h2; right; right; exact ⟨e, by simpa using h2⟩

theorem devs_cells {w : World} {b off : Nat} {ds : List Dv} (h : DevsIn w (some ⟨b, off, none⟩) ds) : ∀ j u, (fl ds)[j]? = some u → w.cell? ⟨b, off + j, none⟩ = some u := fun j u hu => by
  obtain ⟨d, hd, hc⟩ := fl_inv ds j u hu
  obtain ⟨b', off', h1, _, h2, h3, h4⟩ := h _ d hd
  simp only [Option.some.injEq, Addr.mk.injEq] at h1
  obtain ⟨rfl, rfl, _⟩ := h1
  rcases hc with ⟨e, rfl⟩ | ⟨e, rfl⟩ | ⟨e, rfl⟩
  · rw [show off + j / 3 * 3 = off + j by omega] at h2; exact h2
  · rw [show off + j / 3 * 3 + 1 = off + j by omega] at h3; exact h3
  · rw [show off + j / 3 * 3 + 2 = off + j by omega] at h4; exact h4

/-- From owned cells to devices in memory. -/
theorem devs_own {w : World} {B : Nat} {v : Value} {ds : List Dv} {n : Nat} (h : w.ownsRow B 43 3 v n (fl ds)) (hn : n = ds.length) : ∃ a c, v = .slice a ds.length c ∧ DevsIn w a ds := by
  subst hn
  rcases h.2 with ⟨rfl, h0⟩ | ⟨g, cap, cur, rfl, _, hg, _, _, _, htk⟩
  · have : ds = [] := List.eq_nil_of_length_eq_zero h0
    subst this
    exact ⟨none, 0, rfl, fun j d hj => by simp at hj⟩
  · refine ⟨some ⟨g, 0, none⟩, cap, rfl, fun j d hj => ?_⟩
    have hlt : g < w.heap.size := ltOf' hg
    have hj' := (List.getElem?_eq_some_iff.1 hj).1
    have key : ∀ i u, (fl ds)[i]? = some u → w.cell? ⟨g, i, none⟩ = some u := fun i u hu => by
      have h1 := (List.getElem?_eq_some_iff.1 hu).1
      rw [fl_len] at h1
      have h2 : cur.toList[i]? = some u := by
        rw [← htk, List.getElem?_take] at hu
        rw [if_pos h1] at hu; exact hu
      exact cellOf hg (by simpa using h2)
    obtain ⟨h0, h1, h2⟩ := fl_at ds j d hj
    refine ⟨g, 0, rfl, hlt, ?_, ?_, ?_⟩
    · rw [Nat.zero_add]; exact key _ _ h0
    · rw [Nat.zero_add]; exact key _ _ h1
    · rw [Nat.zero_add]; exact key _ _ h2

/-- nil, or a slice that leads to a row of cells. -/
def Plain (aa : Option Addr) (xs : List Dv) : Prop := (aa = none ∧ xs = []) ∨ ∃ b off, aa = some ⟨b, off, none⟩

/-- slices.Clone at devices. -/
theorem f35 (aa : Option Addr) (ca : Nat) (xs : List Dv) (w : World) (ha : DevsIn w aa xs) (na : Plain aa xs) (hl : xs.length ≤ 4194304) :
    Calls Try.prog 35 #[.slice aa xs.length ca] w fun e w' => ∃ v, e = .returned v ∧ w'.ownsRow w.heap.size 43 3 v xs.length (fl xs) ∧ Below w.heap.size w w' := by
  obtain ⟨i0, hi, hz0, hz1, hz2⟩ := info_parts Try.info43
  rcases na with ⟨rfl, rfl⟩ | ⟨b, off, rfl⟩
  · have h := AnyE.slices_Clone_nil cloneDev 0 ca w
    change Calls Try.prog 35 _ _ _ at h
    exact h.mono fun e w' ⟨he, hw⟩ => ⟨_, he, World.ownsRow_nil _ _ _ _, by rw [hw]; exact Below.refl _ _⟩
  · have h := AnyE.slices_Clone cloneDev i0 _ 3 40 hi hz0 hz1 hz2 rfl (by decide) Try.sizeOf43 b off xs.length ca (fl xs) w (fl_len xs) (by unfold maxLen; omega) (by omega) (devs_cells ha) (fl_one xs)
    change Calls Try.prog 35 _ _ _ at h
    exact h.mono fun e w' ⟨v, he, ho, _, hb⟩ => ⟨v, he, ho, hb⟩

/-! ### The union, plainly -/
/-- Of ys those whose names xs does not hold, among the first k. -/
def extraTo (xs ys : List Dv) (k : Nat) : List Dv := (ys.take k).filter fun d => decide (ix xs (nk d) < 0)
def extra (xs ys : List Dv) : List Dv := ys.filter fun d => decide (ix xs (nk d) < 0)
theorem extra_all (xs ys : List Dv) : extraTo xs ys ys.length = extra xs ys := by simp [extraTo, extra]
theorem extra_len (xs ys : List Dv) (k : Nat) : (extraTo xs ys k).length ≤ k := Nat.le_trans (List.length_filter_le _ _) (by simp; omega)
theorem extra_yes {xs ys : List Dv} {k : Nat} {d : Dv} (hd : ys[k]? = some d) (h : ix xs (nk d) < 0) : extraTo xs ys (k + 1) = extraTo xs ys k ++ [d] := by
  have hk := (List.getElem?_eq_some_iff.1 hd).1
  have he := (List.getElem?_eq_some_iff.1 hd).2
  unfold extraTo
  rw [List.take_succ_eq_append_getElem hk, List.filter_append, he]
  simp [h]
theorem extra_no {xs ys : List Dv} {k : Nat} {d : Dv} (hd : ys[k]? = some d) (h : ¬ ix xs (nk d) < 0) : extraTo xs ys (k + 1) = extraTo xs ys k := by
  have hk := (List.getElem?_eq_some_iff.1 hd).1
  have he := (List.getElem?_eq_some_iff.1 hd).2
  unfold extraTo
  rw [List.take_succ_eq_append_getElem hk, List.filter_append, he]
  simp [h]

/-- U is the union of xs and ys by name, xs first, its names rising. -/
def IsUnion (xs ys U : List Dv) : Prop := Asc U ∧ U.Perm (xs ++ extra xs ys)

theorem ix_neg {xs : List Dv} {n : List UInt8} (h : ix xs n < 0) : ∀ d ∈ xs, nk d ≠ n := by
  rcases ix_cases xs n with ⟨i, d, h1, h2, h3⟩ | ⟨h1, _⟩
  · omega
  · exact h1

theorem nodup_of_asc {xs : List Dv} (h : Asc xs) : (xs.map nk).Nodup := by
  rw [List.nodup_iff_pairwise_ne, List.pairwise_iff_getElem]
  intro i j hi hj hij
  simp at hi hj
  simp only [List.getElem_map]
  exact lt_ne (h i j _ _ hij (by simp) (by simp))

theorem nodup_union {xs ys : List Dv} (hx : Asc xs) (hy : Asc ys) : ((xs ++ extra xs ys).map nk).Nodup := by
  rw [List.map_append, List.nodup_append]
  refine ⟨nodup_of_asc hx, ?_, ?_⟩
  · have h1 : ((extra xs ys).map nk).Sublist (ys.map nk) := (List.filter_sublist).map _
    exact h1.nodup (nodup_of_asc hy)
  · intro a ha b hb
    simp [extra] at ha hb
    obtain ⟨d, hd, rfl⟩ := ha
    obtain ⟨e, ⟨he, hn⟩, rfl⟩ := hb
    exact ix_neg hn d hd

theorem union_of [Inhabited Dv] {xs ys : List Dv} (hx : Asc xs) (hy : Asc ys) {d d' : Array Dv} (hd : d.toList = xs ++ extra xs ys) (hp : Go.Sort.PermIn 0 d.size d d') (hs : Go.Sort.SortedIn (ltOf cmpN) 0 d.size d') : IsUnion xs ys d'.toList := by
  have hperm : d'.toList.Perm (xs ++ extra xs ys) := by
    have := hp.2.2
    rw [show d.extract 0 d.size = d by simp, show d'.extract 0 d.size = d' by rw [← hp.1]; simp, hd] at this
    exact this
  refine ⟨fun i j a b hij ha hb => ?_, hperm⟩
  have hnd : (d'.toList.map nk).Nodup := (hperm.map nk).nodup_iff.2 (nodup_union hx hy)
  have hj := (List.getElem?_eq_some_iff.1 hb).1
  have hi := (List.getElem?_eq_some_iff.1 ha).1
  have h1 := hs i j (Nat.zero_le _) hij (by rw [← hp.1]; simpa using hj)
  have ea : d'[i]! = a := by
    have := (List.getElem?_eq_some_iff.1 ha).2
    rw [getElem!_pos d' i (by simpa using hi)]; simpa using this
  have eb : d'[j]! = b := by
    have := (List.getElem?_eq_some_iff.1 hb).2
    rw [getElem!_pos d' j (by simpa using hj)]; simpa using this
  rw [ea, eb] at h1
  rcases lt_tri (nk a) (nk b) with h | h | h
  · exact h
  · exfalso
    rw [List.nodup_iff_pairwise_ne, List.pairwise_iff_getElem] at hnd
    have := hnd i j (by simpa using hi) (by simpa using hj) hij
    simp only [List.getElem_map] at this
    rw [(List.getElem?_eq_some_iff.1 ha).2, (List.getElem?_eq_some_iff.1 hb).2] at this
    exact this h
  · exfalso
    simp [ltOf, cmp_lt, h] at h1
end Go.Proofs.Qxb6618884a.Nt
