import Derived.Test.Qxb6618870aMtReads
import Derived.Deep.RegionHeld3
import Derived.Laws.MakeOwn
namespace Go.Proofs.Qxb6618870a.Mt
open Go.RowKit

theorem Try.info41 : (Try.prog.info? 41).map (fun i => (i.zero, i.size, i.bytes)) = some (some (.agg #[.int .i64 0, .string ⟨#[]⟩, .string ⟨#[]⟩]), 3, 40) := by kernel_rfl

/-- The row that 'make([]prefixUse, n)' lays. -/
def mk41 (n : Nat) : Array Value := madeCells #[.int .i64 0, .string ⟨#[]⟩, .string ⟨#[]⟩] (n * 3)
theorem mk41_size (n : Nat) : (mk41 n).size = n * 3 := size_madeCells _ _

/-- A row's cell, and that it may be written. -/
theorem row_cell {w : World} {b i : Nat} {cs : Array Value} {T : TypeId} (h : w.heap[b]? = some (.cells cs T (0, 0))) (hi : i < cs.size) : (∃ v, w.cell? ⟨b, i, none⟩ = some v) ∧ w.frozen? ⟨b, i, none⟩ = false :=
  ⟨⟨cs[i], by simp [World.cell?, h, hi]⟩, by simp [World.frozen?, h]⟩

/-- The first k uses lie in the row's cells. -/
def UseCells (cs : Array Value) (zs : List Int) (ps ms : List ByteArray) (k : Nat) : Prop :=
  ∀ j, j < k → ∃ z p q, cs[j * 3]? = some (.int .i64 z) ∧ cs[j * 3 + 1]? = some (.string p) ∧ cs[j * 3 + 2]? = some (.string q) ∧ zs[j]? = some z ∧ ps[j]? = some p ∧ ms[j]? = some q

/-- An Expr of the law's making: its source, and its n uses. -/
def ExprAt (w : World) (eb : Nat) (src : ByteArray) (n : Nat) (zs : List Int) (ps ms : List ByteArray) : Prop :=
  ∃ ub cs, w.heap[eb]? = some (.cells #[.string src, .nilIface, .pointer none, .slice (some ⟨ub, 0, none⟩) n n] 46 (0, 0)) ∧ w.heap[ub]? = some (.cells cs 41 (0, 0)) ∧ cs.size = n * 3 ∧ UseCells cs zs ps ms n

theorem uses_step {w wr : World} {g k n : Nat} {cs : Array Value} {zs : List Int} {ps ms : List ByteArray} {z : Int} {p q : ByteArray} (hB : Below g w wr) (hrow : wr.heap[g]? = some (.cells cs 41 (0, 0))) (hcs : cs.size = n * 3) (hk : k < n) (hu : UseCells cs zs ps ms k) (hz : zs[k]? = some z) (hp : ps[k]? = some p) (hq : ms[k]? = some q) :
    Below g w (((wr.setCell ⟨g, k * 3, none⟩ (.int .i64 z)).setCell ⟨g, k * 3 + 1, none⟩ (.string p)).setCell ⟨g, k * 3 + 2, none⟩ (.string q)).drew ∧
    ∃ cs', (((wr.setCell ⟨g, k * 3, none⟩ (.int .i64 z)).setCell ⟨g, k * 3 + 1, none⟩ (.string p)).setCell ⟨g, k * 3 + 2, none⟩ (.string q)).drew.heap[g]? = some (.cells cs' 41 (0, 0)) ∧ cs'.size = n * 3 ∧ UseCells cs' zs ps ms (k + 1) := by
  refine ⟨(((hB.setCell (by simp) _).setCell (by simp) _).setCell (by simp) _).drew, ((cs.setIfInBounds (k * 3) (.int .i64 z)).setIfInBounds (k * 3 + 1) (.string p)).setIfInBounds (k * 3 + 2) (.string q), ?_, by simpa using hcs, ?_⟩
  · show ((((wr.setCell ⟨g, k * 3, none⟩ (.int .i64 z)).setCell ⟨g, k * 3 + 1, none⟩ (.string p)).setCell ⟨g, k * 3 + 2, none⟩ (.string q)).heap)[g]? = _
    simp [World.setCell, Array.getElem?_modify, hrow]
  · intro j hj
    rcases Nat.lt_or_ge j k with h | h
    · obtain ⟨z', p', q', h1, h2, h3, h4⟩ := hu j h
      refine ⟨z', p', q', ?_, ?_, ?_, h4⟩
      · rw [Array.getElem?_setIfInBounds_ne (by omega), Array.getElem?_setIfInBounds_ne (by omega), Array.getElem?_setIfInBounds_ne (by omega)]; exact h1
      · rw [Array.getElem?_setIfInBounds_ne (by omega), Array.getElem?_setIfInBounds_ne (by omega), Array.getElem?_setIfInBounds_ne (by omega)]; exact h2
      · rw [Array.getElem?_setIfInBounds_ne (by omega), Array.getElem?_setIfInBounds_ne (by omega), Array.getElem?_setIfInBounds_ne (by omega)]; exact h3
    · obtain rfl : j = k := by omega
      refine ⟨z, p, q, ?_, ?_, ?_, hz, hp, hq⟩
      · rw [Array.getElem?_setIfInBounds_ne (by omega), Array.getElem?_setIfInBounds_ne (by omega), Array.getElem?_setIfInBounds_self_of_lt (by omega)]
      · rw [Array.getElem?_setIfInBounds_ne (by omega), Array.getElem?_setIfInBounds_self_of_lt (by simp; omega)]
      · rw [Array.getElem?_setIfInBounds_self_of_lt (by simp; omega)]

theorem make41 (n : Nat) (hn : n ≤ 1048576) (w : World) :
    (Instr.makeSlice 39 (.int .i64 (n : Int)) (.int .i64 (n : Int))).run Try.prog w = .ok (.slice (some ⟨w.heap.size, 0, none⟩) n n) (w.alloc (.cells (mk41 n) 41)) := by
  obtain ⟨i, hi, hz, hsz, hby⟩ := info_parts Try.info41
  rw [run_make w 39 41 i _ Try.underlying39 hi hz .i64 .i64 n n (by omega) (by omega) (by rw [hby]; omega) (by omega), hsz]
  rfl

set_option maxRecDepth 100000 in
set_option maxHeartbeats 1000000 in
theorem f14 (src : ByteArray) (ao ap aq : Option Addr) (n co cp cq : Nat) (zs : List Int) (ps ms : List ByteArray) (w : World) (hn : n ≤ 1048576)
    (hz : IntsIn w ao n zs) (hp : StrsIn w ap n ps) (hq : StrsIn w aq n ms) :
    Calls Try.prog 14 #[.string src, .slice ao n co, .slice ap n cp, .slice aq n cq] w fun e w' => e = .returned (.pointer (some ⟨w.heap.size + 1, 0, none⟩)) ∧ ExprAt w' (w.heap.size + 1) src n zs ps ms ∧ Below w.heap.size w w' := by
  have HZ : Hid _ := hz
  have HP : Hid _ := hp
  have HQ : Hid _ := hq
  clear hz hp hq
  have hmk := make41 n hn
  have hms := mk41_size n
  go_enter Try.func14, Try.ntmps14
  go_wp2
  go_loopw [16] (fun i wr => ∃ (k : Nat) (cs : Array Value), k ≤ n ∧ i = .int .i64 k ∧ Below w.heap.size w wr ∧ wr.heap.size = w.heap.size + 1 ∧ wr.heap[w.heap.size]? = some (.cells cs 41 (0, 0)) ∧ cs.size = n * 3 ∧ Hid (UseCells cs zs ps ms k)) (fun i _ => n - (intOf i).toNat)
  case atStart => exact ⟨0, mk41 n, by omega, rfl, (Below.refl _ _).alloc (Nat.le_refl _) _, by simp, heap_alloc_new _ _, hms, (show UseCells _ _ _ _ _ from fun _ h => by omega)⟩
  case round =>
    obtain ⟨k, cs, hk, rfl, hbl, hsz, hrow, hcs, HU⟩ := hrel
    by_cases hlt : k < n
    · obtain ⟨b, off, z, rfl, hb, hcz, hzk⟩ := HZ.out k hlt
      obtain ⟨b', off', p, rfl, hb', hcp, hpk⟩ := HP.out k hlt
      obtain ⟨b'', off'', q, rfl, hb'', hcq, hqk⟩ := HQ.out k hlt
      have HZK : Hid _ := hzk
      have HPK : Hid _ := hpk
      have HQK : Hid _ := hqk
      clear hzk hpk hqk
      have hkn : (k : Int) < (n : Int) := by omega
      have hk0 : (0 : Int) ≤ (k : Int) := by omega
      have gz : wr.cell? ⟨b, off + k, none⟩ = some (.int .i64 z) := (hbl.cell (p := ⟨b, off + k, none⟩) hb).trans hcz
      have gp : wr.cell? ⟨b', off' + k, none⟩ = some (.string p) := (hbl.cell (p := ⟨b', off' + k, none⟩) hb').trans hcp
      have gq : wr.cell? ⟨b'', off'' + k, none⟩ = some (.string q) := (hbl.cell (p := ⟨b'', off'' + k, none⟩) hb'').trans hcq
      obtain ⟨⟨v0, r0⟩, z0⟩ := row_cell hrow (i := k * 3) (by omega)
      obtain ⟨⟨v1, r1⟩, z1⟩ := row_cell hrow (i := k * 3 + 1) (by omega)
      obtain ⟨⟨v2, r2⟩, z2⟩ := row_cell hrow (i := k * 3 + 2) (by omega)
      have ne0 : w.heap.size ≠ b := by omega
      have ne1 : w.heap.size ≠ b' := by omega
      have ne2 : w.heap.size ≠ b'' := by omega
      have HB : Hid _ := hbl
      have HR : Hid _ := hrow
      have HC : Hid _ := hcs
      clear hcz hcp hcq hmk hms hbl hrow hcs
      go_wp2
      go_region_held3 (fun w' => w'.cell? ⟨b, off + k, none⟩ = some (.int .i64 z) ∧ w'.cell? ⟨b', off' + k, none⟩ = some (.string p) ∧ w'.cell? ⟨b'', off'' + k, none⟩ = some (.string q)) (go_keep) (fail)
      all_goals go_wp2
      all_goals
        go_roundw
        case rel =>
          obtain ⟨g1, cs', g2, g3, g4⟩ := uses_step HB.out HR.out HC.out hlt HU.out HZK.out HPK.out HQK.out
          exact ⟨k + 1, cs', by omega, by go_num, g1, by simpa [World.setCell] using hsz, g2, g3, g4⟩
        case measure => simp [intOf]; omega
    · obtain rfl : k = n := by omega
      have HB : Hid _ := hbl
      have HR : Hid _ := hrow
      have HC : Hid _ := hcs
      clear hcs hmk hms hbl hrow
      go_wp2
      go_ret
      refine ⟨rfl, ⟨w.heap.size, cs, ?_, ?_, HC.out, HU.out⟩, ?_⟩
      · rw [← hsz]; exact heap_alloc_new _ _
      · rw [heap_alloc_old _ _ (by omega)]; exact HR.out
      · exact HB.out.alloc (by omega) _
end Go.Proofs.Qxb6618870a.Mt
