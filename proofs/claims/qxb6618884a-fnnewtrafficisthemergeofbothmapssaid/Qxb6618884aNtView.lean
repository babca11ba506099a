/-
  The exported readers of a Traffic, and zzSameInts: WALKED.
-/
import Derived.Test.Qxb6618884aNtTraffic2
namespace Go.Proofs.Qxb6618884a.Nt
open Go.RowKit

set_option maxRecDepth 100000 in
theorem f13 (fm tm : Nat) (af at_ : Option Addr) (cf ct : Nat) (fs ts : List Dv) (w : World) (hf : MapAt w fm (.slice af fs.length cf)) (ht : MapAt w tm (.slice at_ ts.length ct)) (df : DevsIn w af fs) (dt : DevsIn w at_ ts) (pt : Plain at_ ts) (hfa : Asc fs) (hta : Asc ts) (lf : fs.length ≤ 1048576) (lt' : ts.length ≤ 1048576) :
    Calls Try.prog 13 #[.pointer (some ⟨fm, 0, none⟩), .pointer (some ⟨tm, 0, none⟩)] w fun e w' => Made w fm tm fs ts e w' := by
  have MF : Hid (MapAt w fm (.slice af fs.length cf)) := hf
  have MT : Hid (MapAt w tm (.slice at_ ts.length ct)) := ht
  have DF : Hid (DevsIn w af fs) := df
  have DT : Hid (DevsIn w at_ ts) := dt
  have PT : Hid (Plain at_ ts) := pt
  have FA : Hid (Asc fs) := hfa
  have TA : Hid (Asc ts) := hta
  clear hf ht df dt pt hfa hta
  go_enter Try.func13, Try.ntmps13
  go_wp2_with fail
  refine (f28 fm tm af at_ cf ct fs ts w MF.out MT.out DF.out DT.out PT.out FA.out TA.out lf lt').mono ?_
  intro e w1 h
  have HM : Hid (Made w fm tm fs ts e w1) := h
  obtain ⟨⟨tb, U, rfl, _, _⟩, _⟩ := h
  go_wp2
  go_ret
  exact HM.out

/-- The cells of a Traffic. -/
def TCells (w : World) (tb cb : Nat) (ar : Option Addr) (cr g1 g2 g3 g4 nf nt n : Nat) : Prop := w.heap[tb]? = some (.cells #[.pointer (some ⟨cb, 0, none⟩), .slice ar n cr, .slice (some ⟨g1, 0, none⟩) nf nf, .slice (some ⟨g2, 0, none⟩) nt nt, .slice (some ⟨g3, 0, none⟩) n n, .slice (some ⟨g4, 0, none⟩) n n, .int .u64 0] 59 (0, 0))
theorem TCells.below {w w' : World} {tb cb : Nat} {ar : Option Addr} {cr g1 g2 g3 g4 nf nt n : Nat} (h : TCells w tb cb ar cr g1 g2 g3 g4 nf nt n) (hb : Below w.heap.size w w') : TCells w' tb cb ar cr g1 g2 g3 g4 nf nt n := (hb.block tb (ltOf' h)).trans h

set_option maxRecDepth 100000 in
theorem f14 {w : World} {tb cb : Nat} {ar : Option Addr} {cr g1 g2 g3 g4 nf nt n : Nat} (h : TCells w tb cb ar cr g1 g2 g3 g4 nf nt n) :
    Calls Try.prog 14 #[.pointer (some ⟨tb, 0, none⟩)] w fun e w' => e = .returned (.slice ar n cr) ∧ w' = w := by
  have c1 : w.cell? ⟨tb, 1, none⟩ = some (.slice ar n cr) := cellOf h rfl
  clear h
  go_enter Try.func14, Try.ntmps14
  go_wp2
  go_ret
  exact ⟨rfl, rfl⟩
set_option maxRecDepth 100000 in
theorem f17 {w : World} {tb cb : Nat} {ar : Option Addr} {cr g1 g2 g3 g4 nf nt n : Nat} (h : TCells w tb cb ar cr g1 g2 g3 g4 nf nt n) :
    Calls Try.prog 17 #[.pointer (some ⟨tb, 0, none⟩)] w fun e w' => e = .returned (.slice (some ⟨g1, 0, none⟩) nf nf) ∧ w' = w := by
  have c1 : w.cell? ⟨tb, 2, none⟩ = some (.slice (some ⟨g1, 0, none⟩) nf nf) := cellOf h rfl
  clear h
  go_enter Try.func17, Try.ntmps17
  go_wp2
  go_ret
  exact ⟨rfl, rfl⟩
set_option maxRecDepth 100000 in
theorem f18 {w : World} {tb cb : Nat} {ar : Option Addr} {cr g1 g2 g3 g4 nf nt n : Nat} (h : TCells w tb cb ar cr g1 g2 g3 g4 nf nt n) :
    Calls Try.prog 18 #[.pointer (some ⟨tb, 0, none⟩)] w fun e w' => e = .returned (.slice (some ⟨g2, 0, none⟩) nt nt) ∧ w' = w := by
  have c1 : w.cell? ⟨tb, 3, none⟩ = some (.slice (some ⟨g2, 0, none⟩) nt nt) := cellOf h rfl
  clear h
  go_enter Try.func18, Try.ntmps18
  go_wp2
  go_ret
  exact ⟨rfl, rfl⟩

/-- The Change's own row. -/
def OnAt (w : World) (cb g n : Nat) : Prop := ∃ cs : Array Value, w.heap[cb]? = some (.cells cs 62 (0, 0)) ∧ cs[2]? = some (.slice (some ⟨g, 0, none⟩) n n)
theorem OnAt.below {w w' : World} {cb g n : Nat} (h : OnAt w cb g n) (hb : Below w.heap.size w w') : OnAt w' cb g n := by
  obtain ⟨cs, h1, h2⟩ := h
  exact ⟨cs, (hb.block cb (ltOf' h1)).trans h1, h2⟩
set_option maxRecDepth 100000 in
theorem f19 {w : World} {tb cb : Nat} {ar : Option Addr} {cr g1 g2 g3 g4 nf nt n g m : Nat} (h : TCells w tb cb ar cr g1 g2 g3 g4 nf nt n) (ho : OnAt w cb g m) :
    Calls Try.prog 19 #[.pointer (some ⟨tb, 0, none⟩)] w fun e w' => e = .returned (.slice (some ⟨g, 0, none⟩) m m) ∧ w' = w := by
  have c1 : w.cell? ⟨tb, 0, none⟩ = some (.pointer (some ⟨cb, 0, none⟩)) := cellOf h rfl
  obtain ⟨cs, h1, h2⟩ := ho
  have c2 : w.cell? ⟨cb, 2, none⟩ = some (.slice (some ⟨g, 0, none⟩) m m) := cellOf h1 h2
  clear h h1 h2
  go_enter Try.func19, Try.ntmps19
  go_wp2
  go_ret
  exact ⟨rfl, rfl⟩

/-- A row of integers in memory. -/
def IntsAt (w : World) (g : Nat) (vs : List Int) : Prop := ∃ cs : Array Value, w.heap[g]? = some (.cells cs 3 (0, 0)) ∧ cs.size = vs.length ∧ ∀ (j : Nat) (v : Int), vs[j]? = some v → cs[j]? = some (Value.int .i64 v)
theorem IntsAt.below {w w' : World} {g : Nat} {vs : List Int} (h : IntsAt w g vs) (hb : Below w.heap.size w w') : IntsAt w' g vs := by
  obtain ⟨cs, h1, h2⟩ := h
  exact ⟨cs, (hb.block g (ltOf' h1)).trans h1, h2⟩
theorem IdxAt.ints {w : World} {g : Nat} {fs ts : List Dv} (h : IdxAt w g fs ts) : IntsAt w g (fs.map fun d => ix ts (nk d)) := by
  obtain ⟨cs, h1, h2, h3⟩ := h
  refine ⟨cs, h1, by simpa using h2, fun j v hj => ?_⟩
  rw [List.getElem?_map, Option.map_eq_some_iff] at hj
  obtain ⟨d, hd, rfl⟩ := hj
  exact h3 j d (List.getElem?_eq_some_iff.1 hd).1 hd
theorem IntsAt.cell {w : World} {g : Nat} {vs : List Int} (h : IntsAt w g vs) {j : Nat} {v : Int} (hj : vs[j]? = some v) : w.cell? ⟨g, j, none⟩ = some (.int .i64 v) := by
  obtain ⟨cs, h1, _, h3⟩ := h
  exact cellOf h1 (h3 j v hj)
theorem IntsAt.lt {w : World} {g : Nat} {vs : List Int} (h : IntsAt w g vs) : g < w.heap.size := by
  obtain ⟨cs, h1, _⟩ := h
  exact ltOf' h1

set_option maxRecDepth 100000 in
set_option maxHeartbeats 1000000 in
/-- zzSameInts at two rows of one content. -/
theorem f16 (g1 g2 n : Nat) (vs : List Int) (w : World) (hn : n = vs.length) (h1 : IntsAt w g1 vs) (h2 : IntsAt w g2 vs) (hl : n ≤ 4194304) :
    Calls Try.prog 16 #[.slice (some ⟨g1, 0, none⟩) n n, .slice (some ⟨g2, 0, none⟩) n n] w fun e w' => e = .returned (.bool true) ∧ Below w.heap.size w w' := by
  have H1 : Hid (IntsAt w g1 vs) := h1
  have H2 : Hid (IntsAt w g2 vs) := h2
  have l1 := h1.lt
  have l2 := h2.lt
  clear h1 h2
  go_enter Try.func16, Try.ntmps16
  go_wp2
  go_loopw [5] (fun i wr => ∃ (k : Nat), k ≤ n ∧ i = .int .i64 k ∧ Hid (Below w.heap.size w wr)) (fun i _ => n - (intOf i).toNat)
  case atStart => exact ⟨0, by omega, rfl, Below.refl _ _⟩
  case round =>
    obtain ⟨k, hk, rfl, HB⟩ := hrel
    by_cases hlt : k < n
    · have hkv : vs[k]? = some (vs[k]'(by omega)) := List.getElem?_eq_getElem _
      generalize vs[k]'(by omega) = v at hkv
      have c1 : wr.cell? ⟨g1, k, none⟩ = some (.int .i64 v) := (HB.out.cell (p := ⟨g1, k, none⟩) l1).trans (H1.out.cell hkv)
      have c2 : wr.cell? ⟨g2, k, none⟩ = some (.int .i64 v) := (HB.out.cell (p := ⟨g2, k, none⟩) l2).trans (H2.out.cell hkv)
      clear hkv
      have hk0 : (0 : Int) ≤ (k : Int) := by omega
      have hkn : (k : Int) < (n : Int) := by omega
      go_wp2
      go_quiet (fail)
      go_wp2
      go_roundw
      case rel => exact ⟨k + 1, by omega, by go_num, below_drewN HB.out _⟩
      case measure => simp [intOf]; omega
    · obtain rfl : k = n := by omega
      go_wp2
      go_ret
      exact ⟨rfl, HB.out⟩
end Go.Proofs.Qxb6618884a.Nt
