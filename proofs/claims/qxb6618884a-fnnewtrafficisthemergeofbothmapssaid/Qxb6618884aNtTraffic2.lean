/-
  NewTraffic: WALKED.
-/
import Derived.Test.Qxb6618884aNtTraffic
import Derived.Deep.RegionWith
namespace Go.Proofs.Qxb6618884a.Nt
open Go.RowKit

theorem Try.info24 : (Try.prog.info? 24).map (fun i => (i.zero, i.size, i.bytes)) = some (some (.int .u64 0), 1, 8) := by kernel_rfl
def mkz (n : Nat) : Array Value := madeCells #[.int .u64 0] (n * 1)
theorem make48 (n : Nat) (hn : n ≤ 4194304) (w : World) :
    (Instr.makeSlice 48 (.int .i64 (n : Int)) (.int .i64 (n : Int))).run Try.prog w = .ok (.slice (some ⟨w.heap.size, 0, none⟩) n n) (w.alloc (.cells (mkz n) 24)) := by
  obtain ⟨i, hi, hz, hsz, hby⟩ := info_parts Try.info24
  rw [run_make w 48 24 i _ Try.underlying48 hi hz .i64 .i64 n n (by omega) (by omega) (by rw [hby]; omega) (by omega), hsz]
  rfl

theorem f32g (af at_ : Option Addr) (cf ct : Nat) (fs ts : List Dv) (w : World) (hf : DevsIn w af fs) (ht : DevsIn w at_ ts) (hasc : Asc ts) (lf : fs.length ≤ 4194304) (lt' : ts.length ≤ 4194304) :
    Calls Try.prog 32 #[.slice af fs.length cf, .slice at_ ts.length ct] w fun e w' => ∃ g, e = .returned (.slice (some ⟨g, 0, none⟩) fs.length fs.length) ∧ IdxAt w' g fs ts ∧ Below w.heap.size w w' :=
  (f32 af at_ cf ct fs ts w hf ht hasc lf lt').mono fun _ _ ⟨he, hi, hb⟩ => ⟨_, he, hi, hb⟩

/-- A row of n zeros. -/
def Zeros (w : World) (g n : Nat) : Prop := w.heap[g]? = some (.cells (mkz n) 24 (0, 0))
theorem Zeros.below {w w' : World} {g n : Nat} (h : Zeros w g n) (hb : Below w.heap.size w w') : Zeros w' g n := (hb.block g (ltOf' h)).trans h
theorem Zeros.alloc {w : World} {g n : Nat} (h : Zeros w g n) (o : Obj) : Zeros (w.alloc o) g n := h.below ((Below.refl _ _).alloc (Nat.le_refl _) _)
theorem Zeros.new {w : World} {g n : Nat} (h : g = w.heap.size) : Zeros (w.alloc (.cells (mkz n) 24)) g n := by subst h; exact heap_alloc_new _ _
theorem IdxAt.alloc {w : World} {g : Nat} {fs ts : List Dv} (h : IdxAt w g fs ts) (o : Obj) : IdxAt (w.alloc o) g fs ts := h.below ((Below.refl _ _).alloc (Nat.le_refl _) _)
theorem kept_alloc {a w : World} (h : Below a.heap.size a w) (o : Obj) : Below a.heap.size a (w.alloc o) := h.alloc h.size o
theorem kept_trans {a b c : World} (h : Below a.heap.size a b) (k : Below b.heap.size b c) : Below a.heap.size a c := h.trans (k.mono h.size)

/-- A Traffic between the maps at fm and tm. -/
def TrafficAt (w : World) (tb fm tm : Nat) (fs ts U : List Dv) : Prop :=
  ∃ cb ar cr g1 g2 g3 g4, w.heap[tb]? = some (.cells #[.pointer (some ⟨cb, 0, none⟩), .slice ar U.length cr, .slice (some ⟨g1, 0, none⟩) fs.length fs.length, .slice (some ⟨g2, 0, none⟩) ts.length ts.length, .slice (some ⟨g3, 0, none⟩) U.length U.length, .slice (some ⟨g4, 0, none⟩) U.length U.length, .int .u64 0] 59 (0, 0)) ∧
    ChangeAt w cb fm tm fs ts ∧ DevsIn w ar U ∧ IdxAt w g1 fs U ∧ IdxAt w g2 ts U ∧ Zeros w g3 U.length ∧ Zeros w g4 U.length
theorem TrafficAt.below {w w' : World} {tb fm tm : Nat} {fs ts U : List Dv} (h : TrafficAt w tb fm tm fs ts U) (hb : Below w.heap.size w w') : TrafficAt w' tb fm tm fs ts U := by
  obtain ⟨cb, ar, cr, g1, g2, g3, g4, h1, h2, h3, h4, h5, h6, h7⟩ := h
  exact ⟨cb, ar, cr, g1, g2, g3, g4, (hb.block tb (ltOf' h1)).trans h1, h2.below hb, h3.below hb, h4.below hb, h5.below hb, h6.below hb, h7.below hb⟩

/-- What NewTraffic hands back. -/
def Made (w : World) (fm tm : Nat) (fs ts : List Dv) (e : Ending) (w' : World) : Prop :=
  (∃ tb U, e = .returned (.pointer (some ⟨tb, 0, none⟩)) ∧ IsUnion ts fs U ∧ TrafficAt w' tb fm tm fs ts U) ∧ Below w.heap.size w w'

theorem new_block {w : World} {o : Obj} {g : Nat} (h : g = w.heap.size) : (w.alloc o).heap[g]? = some o := by subst h; exact heap_alloc_new _ _

theorem union_len {xs ys U : List Dv} (h : IsUnion xs ys U) : U.length ≤ xs.length + ys.length := by
  rw [h.2.length_eq, List.length_append]
  have : (extra xs ys).length ≤ ys.length := List.length_filter_le _ _
  omega

set_option maxRecDepth 100000 in
set_option maxHeartbeats 2000000 in
theorem f28 (fm tm : Nat) (af at_ : Option Addr) (cf ct : Nat) (fs ts : List Dv) (w : World) (hf : MapAt w fm (.slice af fs.length cf)) (ht : MapAt w tm (.slice at_ ts.length ct)) (df : DevsIn w af fs) (dt : DevsIn w at_ ts) (pt : Plain at_ ts) (hfa : Asc fs) (hta : Asc ts) (lf : fs.length ≤ 1048576) (lt' : ts.length ≤ 1048576) :
    Calls Try.prog 28 #[.iface 31 (.pointer (some ⟨fm, 0, none⟩)), .iface 31 (.pointer (some ⟨tm, 0, none⟩))] w fun e w' => Made w fm tm fs ts e w' := by
  have MF : Hid (MapAt w fm (.slice af fs.length cf)) := hf
  have MT : Hid (MapAt w tm (.slice at_ ts.length ct)) := ht
  have DF : Hid (DevsIn w af fs) := df
  have DT : Hid (DevsIn w at_ ts) := dt
  have PT : Hid (Plain at_ ts) := pt
  have FA : Hid (Asc fs) := hfa
  have TA : Hid (Asc ts) := hta
  clear hf ht df dt pt hfa hta
  go_enter Try.func28, Try.ntmps28
  go_wp2_with fail
  refine (f30 fm tm af at_ cf ct fs ts w MF.out MT.out DF.out DT.out TA.out lf lt').mono ?_
  rintro e w1 ⟨⟨cb, rfl, hch⟩, hb1⟩
  have CH : Hid (ChangeAt w1 cb fm tm fs ts) := hch
  have HB1 : Hid (Below w.heap.size w w1) := hb1
  have M1 : Hid (MapAt w1 fm (.slice af fs.length cf)) := MF.out.below hb1
  have M2 : Hid (MapAt w1 tm (.slice at_ ts.length ct)) := MT.out.below hb1
  have D1 : Hid (DevsIn w1 af fs) := DF.out.below hb1
  have D2 : Hid (DevsIn w1 at_ ts) := DT.out.below hb1
  clear hb1
  obtain ⟨p1, p2, g, hc1, hc2, hc3, hc4⟩ := hch
  have hsix : Six cb p1 p2 fm tm (.slice af fs.length cf) (.slice at_ ts.length ct) w1 := by
    obtain ⟨c1, a1, b1⟩ := hc2
    obtain ⟨c2, a2, b2⟩ := hc3
    obtain ⟨c3, a3, b3, _⟩ := M1.out
    obtain ⟨c4, a4, b4, _⟩ := M2.out
    exact ⟨cellOf hc1 rfl, cellOf hc1 rfl, cellOf a1 b1, cellOf a2 b2, cellOf a3 b3, cellOf a4 b4⟩
  clear hc1 hc2 hc3 hc4
  obtain ⟨x1, x2, x3, x4, x5, x6⟩ := hsix
  go_wp2
  go_quiet (fail)
  clear x1 x2 x3 x4 x5 x6
  have HB2 : Hid (Below w.heap.size w (w1.drewN nq)) := below_drewN HB1.out _
  have CH2 : Hid (ChangeAt (w1.drewN nq) cb fm tm fs ts) := CH.out
  have D12 : Hid (DevsIn (w1.drewN nq) af fs) := D1.out
  have D22 : Hid (DevsIn (w1.drewN nq) at_ ts) := D2.out
  generalize w1.drewN nq = w2 at *
  go_wp2_with fail
  refine (f31 at_ af ct cf ts fs w2 D22.out D12.out PT.out TA.out FA.out lt' lf).mono ?_
  rintro e w3 ⟨⟨ar, cr, U, rfl, du, hu, pu⟩, hb3⟩
  have HU : Hid (IsUnion ts fs U) := hu
  have DU : Hid (DevsIn w3 ar U) := du
  have CH3 : Hid (ChangeAt w3 cb fm tm fs ts) := CH2.out.below hb3
  have D13 : Hid (DevsIn w3 af fs) := D12.out.below hb3
  have D23 : Hid (DevsIn w3 at_ ts) := D22.out.below hb3
  have HB3 : Hid (Below w.heap.size w w3) := HB2.out.trans (hb3.mono HB2.out.size)
  have lu : U.length ≤ 2097152 := by have := union_len hu; omega
  have hmk := make48 U.length (by omega)
  clear hu du pu hb3
  go_wp2_with fail
  have K0 : Hid (Below w3.heap.size w3 w3) := Below.refl _ _
  go_region_held3 (fun w' => Below w3.heap.size w3 w') (first | exact (by assumption) | exact K0.out.drew | exact kept_alloc (by assumption) _ | exact kept_trans (by assumption) hbA | exact kept_trans (by assumption) hbB)
    (first
      | (go_at_call_of 32 (Value.slice af fs.length cf); refine (f32g af ar cf cr fs U _ ?_ ?_ HU.out.1 (by omega) (by omega)).mono ?_; (exact D13.out.below (by assumption)); (exact DU.out.below (by assumption)); rintro e wA ⟨gA, rfl, hixA, hbA⟩)
      | (go_at_call_of 32 (Value.slice at_ ts.length ct); refine (f32g at_ ar ct cr ts U _ ?_ ?_ HU.out.1 (by omega) (by omega)).mono ?_; (exact D23.out.below (by assumption)); (exact DU.out.below (by assumption)); rintro e wB ⟨gB, rfl, hixB, hbB⟩))
  all_goals
    go_wp2
    go_ret
    refine ⟨⟨_, U, rfl, HU.out, cb, ar, cr, gA, gB, _, _, new_block ?_, ?_, ?_, ?_, ?_, ?_, ?_⟩, ?_⟩
    · first | rfl | omega | (simp; done)
    · exact CH3.out.below (by assumption)
    · exact DU.out.below (by assumption)
    · repeat (first | exact hixA | refine IdxAt.alloc ?_ _ | refine IdxAt.below ?_ hbB)
    · repeat (first | exact hixB | refine IdxAt.alloc ?_ _ | refine IdxAt.below ?_ hbA)
    · repeat (first | (refine Zeros.new ?_; (first | rfl | omega | (simp; done)); done) | refine Zeros.alloc ?_ _ | refine Zeros.below ?_ hbB | refine Zeros.below ?_ hbA)
    · repeat (first | (refine Zeros.new ?_; (first | rfl | omega | (simp; done)); done) | refine Zeros.alloc ?_ _ | refine Zeros.below ?_ hbB | refine Zeros.below ?_ hbA)
    · exact kept_trans HB3.out (by assumption)
end Go.Proofs.Qxb6618884a.Nt
