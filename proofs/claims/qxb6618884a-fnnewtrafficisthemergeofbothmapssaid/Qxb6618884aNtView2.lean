/-
  More readers of a Traffic; zzSameWeight, zzAllZero: WALKED.
-/
import Derived.Test.Qxb6618884aNtView
namespace Go.Proofs.Qxb6618884a.Nt
open Go.RowKit

set_option maxRecDepth 100000 in
theorem f15 (x : Nat) (w : World) :
    Calls Try.prog 15 #[.float .f64 x, .float .f64 x] w fun e w' => e = .returned (.bool true) ∧ w' = w := by
  go_enter Try.func15, Try.ntmps15
  go_wp2
  · go_ret
    exact ⟨rfl, rfl⟩
  · go_ret
    exact ⟨by simp [bne], rfl⟩

set_option maxRecDepth 100000 in
theorem f21 {w : World} {tb cb : Nat} {ar : Option Addr} {cr g1 g2 g3 g4 nf nt n : Nat} (h : TCells w tb cb ar cr g1 g2 g3 g4 nf nt n) :
    Calls Try.prog 21 #[.pointer (some ⟨tb, 0, none⟩)] w fun e w' => e = .returned (.slice (some ⟨g3, 0, none⟩) n n) ∧ w' = w := by
  have c1 : w.cell? ⟨tb, 4, none⟩ = some (.slice (some ⟨g3, 0, none⟩) n n) := cellOf h rfl
  clear h
  go_enter Try.func21, Try.ntmps21
  go_wp2
  go_ret
  exact ⟨rfl, rfl⟩
set_option maxRecDepth 100000 in
theorem f22 {w : World} {tb cb : Nat} {ar : Option Addr} {cr g1 g2 g3 g4 nf nt n : Nat} (h : TCells w tb cb ar cr g1 g2 g3 g4 nf nt n) :
    Calls Try.prog 22 #[.pointer (some ⟨tb, 0, none⟩)] w fun e w' => e = .returned (.slice (some ⟨g4, 0, none⟩) n n) ∧ w' = w := by
  have c1 : w.cell? ⟨tb, 5, none⟩ = some (.slice (some ⟨g4, 0, none⟩) n n) := cellOf h rfl
  clear h
  go_enter Try.func22, Try.ntmps22
  go_wp2
  go_ret
  exact ⟨rfl, rfl⟩
set_option maxRecDepth 100000 in
theorem f23 {w : World} {tb cb : Nat} {ar : Option Addr} {cr g1 g2 g3 g4 nf nt n : Nat} (h : TCells w tb cb ar cr g1 g2 g3 g4 nf nt n) :
    Calls Try.prog 23 #[.pointer (some ⟨tb, 0, none⟩)] w fun e w' => e = .returned (.int .u64 0) ∧ w' = w := by
  have c1 : w.cell? ⟨tb, 6, none⟩ = some (.int .u64 0) := cellOf h rfl
  clear h
  go_enter Try.func23, Try.ntmps23
  go_wp2
  go_ret
  exact ⟨rfl, rfl⟩

/-- The Change's two maps. -/
def MapsAt (w : World) (cb fm tm : Nat) : Prop := ∃ (p1 p2 : Nat) (v : Value), w.heap[cb]? = some (.cells #[.pointer (some ⟨p1, 0, none⟩), .pointer (some ⟨p2, 0, none⟩), v] 62 (0, 0)) ∧ PlaceAt w p1 fm ∧ PlaceAt w p2 tm
theorem MapsAt.below {w w' : World} {cb fm tm : Nat} (h : MapsAt w cb fm tm) (hb : Below w.heap.size w w') : MapsAt w' cb fm tm := by
  obtain ⟨p1, p2, v, h1, h2, h3⟩ := h
  exact ⟨p1, p2, v, (hb.block cb (ltOf' h1)).trans h1, h2.below hb, h3.below hb⟩
set_option maxRecDepth 100000 in
theorem f24 {w : World} {tb cb fm tm : Nat} {ar : Option Addr} {cr g1 g2 g3 g4 nf nt n : Nat} (h : TCells w tb cb ar cr g1 g2 g3 g4 nf nt n) (hm : MapsAt w cb fm tm) :
    Calls Try.prog 24 #[.pointer (some ⟨tb, 0, none⟩)] w fun e w' => e = .returned (.pointer (some ⟨fm, 0, none⟩)) ∧ w' = w := by
  have c1 : w.cell? ⟨tb, 0, none⟩ = some (.pointer (some ⟨cb, 0, none⟩)) := cellOf h rfl
  obtain ⟨p1, p2, v, h1, ⟨cs, h2, h3⟩, _⟩ := hm
  have c2 : w.cell? ⟨cb, 0, none⟩ = some (.pointer (some ⟨p1, 0, none⟩)) := cellOf h1 rfl
  have c3 : w.cell? ⟨p1, 0, none⟩ = some (.pointer (some ⟨fm, 0, none⟩)) := cellOf h2 h3
  clear h h1 h2 h3
  go_enter Try.func24, Try.ntmps24
  go_wp2
  go_ret
  exact ⟨rfl, rfl⟩
set_option maxRecDepth 100000 in
theorem f25 {w : World} {tb cb fm tm : Nat} {ar : Option Addr} {cr g1 g2 g3 g4 nf nt n : Nat} (h : TCells w tb cb ar cr g1 g2 g3 g4 nf nt n) (hm : MapsAt w cb fm tm) :
    Calls Try.prog 25 #[.pointer (some ⟨tb, 0, none⟩)] w fun e w' => e = .returned (.pointer (some ⟨tm, 0, none⟩)) ∧ w' = w := by
  have c1 : w.cell? ⟨tb, 0, none⟩ = some (.pointer (some ⟨cb, 0, none⟩)) := cellOf h rfl
  obtain ⟨p1, p2, v, h1, _, ⟨cs, h2, h3⟩⟩ := hm
  have c2 : w.cell? ⟨cb, 1, none⟩ = some (.pointer (some ⟨p2, 0, none⟩)) := cellOf h1 rfl
  have c3 : w.cell? ⟨p2, 0, none⟩ = some (.pointer (some ⟨tm, 0, none⟩)) := cellOf h2 h3
  clear h h1 h2 h3
  go_enter Try.func25, Try.ntmps25
  go_wp2
  go_ret
  exact ⟨rfl, rfl⟩

theorem zero_cell {w : World} {g n k : Nat} (h : Zeros w g n) (hk : k < n) : w.cell? ⟨g, k, none⟩ = some (.int .u64 0) := by
  refine cellOf h ?_
  simp [mkz, madeCells, hk, Nat.mod_one]

set_option maxRecDepth 100000 in
set_option maxHeartbeats 1000000 in
/-- zzAllZero at a row of noughts. -/
theorem f20 (g n : Nat) (w : World) (h : Zeros w g n) (hl : n ≤ 4194304) :
    Calls Try.prog 20 #[.slice (some ⟨g, 0, none⟩) n n, .int .i64 (n : Int)] w fun e w' => e = .returned (.bool true) ∧ w' = w := by
  have HZ : Hid (Zeros w g n) := h
  clear h
  go_enter Try.func20, Try.ntmps20
  go_wp2
  go_loopw [5] (fun i wr => ∃ (k : Nat), k ≤ n ∧ i = .int .i64 k ∧ wr = w) (fun i _ => n - (intOf i).toNat)
  case atStart => exact ⟨0, by omega, rfl, rfl⟩
  case round =>
    obtain ⟨k, hk, rfl, rfl⟩ := hrel
    by_cases hlt : k < n
    · have c1 := zero_cell HZ.out hlt
      have hk0 : (0 : Int) ≤ (k : Int) := by omega
      have hkn : (k : Int) < (n : Int) := by omega
      go_wp2
      go_roundw
      case rel => exact ⟨k + 1, by omega, by go_num, trivial⟩
      case measure => simp [intOf]; omega
    · obtain rfl : k = n := by omega
      go_wp2
      go_ret
      exact ⟨rfl, rfl⟩
end Go.Proofs.Qxb6618884a.Nt
