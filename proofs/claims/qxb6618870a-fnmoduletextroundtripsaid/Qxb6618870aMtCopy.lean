import Derived.Test.Qxb6618870aMtText
import Derived.Laws.CopyOwn
import Derived.Deep.DeepCutAuto
namespace Go.Proofs.Qxb6618870a.Mt
open Go.RowKit

theorem Try.info3 : (Try.prog.info? 3).map (fun i => (i.zero, i.size, i.bytes)) = some (some (.int .i64 0), 1, 8) := by kernel_rfl
theorem Try.info9 : (Try.prog.info? 9).map (fun i => (i.zero, i.size, i.bytes)) = some (some (.string ⟨#[]⟩), 1, 16) := by kernel_rfl
theorem Try.size3 : (Try.prog.info? 3).map (·.size) = some 1 := by kernel_rfl
theorem Try.size9 : (Try.prog.info? 9).map (·.size) = some 1 := by kernel_rfl

def mk3 (n : Nat) : Array Value := madeCells #[.int .i64 0] (n * 1)
def mk9 (n : Nat) : Array Value := madeCells #[.string ⟨#[]⟩] (n * 1)
theorem mk3_size (n : Nat) : (mk3 n).size = n := by simp [mk3, size_madeCells]
theorem mk9_size (n : Nat) : (mk9 n).size = n := by simp [mk9, size_madeCells]

theorem make27 (n : Nat) (hn : n ≤ 1048576) (w : World) :
    (Instr.makeSlice 27 (.int .i64 (n : Int)) (.int .i64 (n : Int))).run Try.prog w = .ok (.slice (some ⟨w.heap.size, 0, none⟩) n n) (w.alloc (.cells (mk3 n) 3)) := by
  obtain ⟨i, hi, hz, hsz, hby⟩ := info_parts Try.info3
  rw [run_make w 27 3 i _ Try.underlying27 hi hz .i64 .i64 n n (by omega) (by omega) (by rw [hby]; omega) (by omega), hsz]
  rfl
theorem make28 (n : Nat) (hn : n ≤ 1048576) (w : World) :
    (Instr.makeSlice 28 (.int .i64 (n : Int)) (.int .i64 (n : Int))).run Try.prog w = .ok (.slice (some ⟨w.heap.size, 0, none⟩) n n) (w.alloc (.cells (mk9 n) 9)) := by
  obtain ⟨i, hi, hz, hsz, hby⟩ := info_parts Try.info9
  rw [run_make w 28 9 i _ Try.underlying28 hi hz .i64 .i64 n n (by omega) (by omega) (by rw [hby]; omega) (by omega), hsz]
  rfl

theorem IntsIn.below {w wx : World} {ao : Option Addr} {n : Nat} {zs : List Int} (h : IntsIn w ao n zs) (hb : Below w.heap.size w wx) : IntsIn wx ao n zs := fun j hj => by
  obtain ⟨b, off, z, h1, h2, h3, h4⟩ := h j hj
  exact ⟨b, off, z, h1, Nat.lt_of_lt_of_le h2 hb.size, (hb.cell (p := ⟨b, off + j, none⟩) h2).trans h3, h4⟩
theorem StrsIn.below {w wx : World} {ao : Option Addr} {n : Nat} {zs : List ByteArray} (h : StrsIn w ao n zs) (hb : Below w.heap.size w wx) : StrsIn wx ao n zs := fun j hj => by
  obtain ⟨b, off, z, h1, h2, h3, h4⟩ := h j hj
  exact ⟨b, off, z, h1, Nat.lt_of_lt_of_le h2 hb.size, (hb.cell (p := ⟨b, off + j, none⟩) h2).trans h3, h4⟩

theorem ints_own {w : World} {g n : Nat} {zs : List Int} (h : w.heap[g]? = some (.cells (zs.map (Value.int .i64)).toArray 3 (0, 0))) (hn : zs.length = n) : IntsIn w (some ⟨g, 0, none⟩) n zs := fun j hj =>
  ⟨g, 0, zs[j]'(by omega), rfl, ltOf h, cellOf h (by simp), by simp⟩
theorem strs_own {w : World} {g n : Nat} {zs : List ByteArray} (h : w.heap[g]? = some (.cells (zs.map Value.string).toArray 9 (0, 0))) (hn : zs.length = n) : StrsIn w (some ⟨g, 0, none⟩) n zs := fun j hj =>
  ⟨g, 0, zs[j]'(by omega), rfl, ltOf h, cellOf h (by simp), by simp⟩

theorem splice_all {L cs : List Value} (h : L.length = cs.length) : splice L 0 cs = cs := by
  simp [splice, List.drop_of_length_le (Nat.le_of_eq h)]

/-- What the law of copy asks of the source. -/
theorem ints_src {w wx : World} {ao : Option Addr} {n g : Nat} {zs : List Int} (h : IntsIn w ao n zs) (hn : zs.length = n) (hb : Below w.heap.size w wx) (dp : Option Addr) (hd : dp = some ⟨g, 0, none⟩) :
    0 < (zs.map (Value.int .i64)).length → dp = some ⟨g, 0, none⟩ ∧ ∃ ad, ao = some ad ∧ ∀ j v, (zs.map (Value.int .i64))[j]? = some v → wx.cell? (ad.add j) = some v := fun h0 => by
  refine ⟨hd, ?_⟩
  have h0' : 0 < n := by simpa [hn] using h0
  obtain ⟨b, off, z, h1, h2, h3, h4⟩ := h 0 h0'
  refine ⟨_, h1, fun j v hv => ?_⟩
  have hj : j < n := by
    have := (List.getElem?_eq_some_iff.1 hv).1
    simpa [hn] using this
  obtain ⟨b', off', z', g1, g2, g3, g4⟩ := h j hj
  rw [h1] at g1
  simp only [Option.some.injEq, Addr.mk.injEq] at g1
  obtain ⟨rfl, rfl, _⟩ := g1
  rw [List.getElem?_map, g4] at hv
  simp at hv
  subst hv
  rw [show (⟨b, off, none⟩ : Addr).add j = ⟨b, off + j, none⟩ from by simp [Addr.add]]
  exact (hb.cell (p := ⟨b, off + j, none⟩) g2).trans g3
theorem strs_src {w wx : World} {ao : Option Addr} {n g : Nat} {zs : List ByteArray} (h : StrsIn w ao n zs) (hn : zs.length = n) (hb : Below w.heap.size w wx) (dp : Option Addr) (hd : dp = some ⟨g, 0, none⟩) :
    0 < (zs.map Value.string).length → dp = some ⟨g, 0, none⟩ ∧ ∃ ad, ao = some ad ∧ ∀ j v, (zs.map Value.string)[j]? = some v → wx.cell? (ad.add j) = some v := fun h0 => by
  refine ⟨hd, ?_⟩
  have h0' : 0 < n := by simpa [hn] using h0
  obtain ⟨b, off, z, h1, h2, h3, h4⟩ := h 0 h0'
  refine ⟨_, h1, fun j v hv => ?_⟩
  have hj : j < n := by
    have := (List.getElem?_eq_some_iff.1 hv).1
    simpa [hn] using this
  obtain ⟨b', off', z', g1, g2, g3, g4⟩ := h j hj
  rw [h1] at g1
  simp only [Option.some.injEq, Addr.mk.injEq] at g1
  obtain ⟨rfl, rfl, _⟩ := g1
  rw [List.getElem?_map, g4] at hv
  simp at hv
  subst hv
  rw [show (⟨b, off, none⟩ : Addr).add j = ⟨b, off + j, none⟩ from by simp [Addr.add]]
  exact (hb.cell (p := ⟨b, off + j, none⟩) g2).trans g3

theorem ints_one (zs : List Int) : ∀ v ∈ zs.map (Value.int .i64), v.oneCell' = true := by
  intro v hv; simp at hv; obtain ⟨z, _, rfl⟩ := hv; rfl
theorem strs_one (zs : List ByteArray) : ∀ v ∈ zs.map Value.string, v.oneCell' = true := by
  intro v hv; simp at hv; obtain ⟨z, _, rfl⟩ := hv; rfl

/-- Expr.String: the source. -/
theorem f16 (eb n : Nat) (src : ByteArray) (zs : List Int) (ps ms : List ByteArray) (w : World) (hx : ExprAt w eb src n zs ps ms) :
    Calls Try.prog 16 #[.pointer (some ⟨eb, 0, none⟩)] w fun e w' => e = .returned (.string src) ∧ w' = w := by
  obtain ⟨ub, cs, hE, hU, hcs, huse⟩ := hx
  have c0 : w.cell? ⟨eb, 0, none⟩ = some (.string src) := cellOf (i := 0) hE rfl
  clear hE hU hcs huse
  go_enter Try.func16, Try.ntmps16
  go_wp2
  go_ret
  exact ⟨rfl, rfl⟩

theorem copy27 (w : World) (ao : Option Addr) (co n : Nat) (zs : List Int) (h : IntsIn w ao n zs) (lz : zs.length = n) :
    ∃ W2, (Builtin.copy_ #[27, 27] 3 #[.slice (some ⟨w.heap.size, 0, none⟩) n n, .slice ao n co]).run Try.prog (w.alloc (.cells (mk3 n) 3)) = .ok (.int .i64 (n : Int)) W2 ∧ IntsIn W2 (some ⟨w.heap.size, 0, none⟩) n zs ∧ Below w.heap.size w W2 := by
  have hba : Below w.heap.size w (w.alloc (.cells (mk3 n) 3)) := (Below.refl _ _).alloc (Nat.le_refl _) _
  have hg : (w.alloc (.cells (mk3 n) 3)).heap[w.heap.size]? = some (.cells (mk3 n) 3 (0, 0)) := heap_alloc_new _ _
  by_cases h0 : n = 0
  · subst h0
    refine ⟨_, run_copy_none _ 27 27 3 3 _ _ 0 0 0 co Try.underlying27 Try.size3 (by simp), fun j hj => by omega, hba⟩
  · obtain ⟨_, ad, rfl, hsrc⟩ := ints_src (g := w.heap.size) h lz hba _ rfl (by simp; omega)
    have hrun := run_copy_row (P := Try.prog) (w.alloc (.cells (mk3 n) 3)) 27 27 3 3 w.heap.size 0 n n ad n co (mk3 n) 3 (zs.map (Value.int .i64)) Try.underlying27 Try.size3 hg (by simp [lz]) hsrc (by simp [lz, mk3_size]) (ints_one zs)
    have e1 : ((mk3 n).toList.take 0 ++ zs.map (Value.int .i64) ++ (mk3 n).toList.drop (0 + (zs.map (Value.int .i64)).length)) = zs.map (Value.int .i64) := by
      rw [List.drop_of_length_le (by simp [lz, mk3_size])]; simp
    rw [e1] at hrun
    have e2 : goInt (zs.map (Value.int .i64)).length = .int .i64 (n : Int) := by simp [goInt, lz]
    rw [e2] at hrun
    exact ⟨_, hrun, ints_own (setRow_heap _ _ _ _ _ _ hg) lz, below_setRow hba (Nat.le_refl _) _⟩

theorem copy28 (w : World) (ao : Option Addr) (co n : Nat) (zs : List ByteArray) (h : StrsIn w ao n zs) (lz : zs.length = n) :
    ∃ W2, (Builtin.copy_ #[28, 28] 3 #[.slice (some ⟨w.heap.size, 0, none⟩) n n, .slice ao n co]).run Try.prog (w.alloc (.cells (mk9 n) 9)) = .ok (.int .i64 (n : Int)) W2 ∧ StrsIn W2 (some ⟨w.heap.size, 0, none⟩) n zs ∧ Below w.heap.size w W2 := by
  have hba : Below w.heap.size w (w.alloc (.cells (mk9 n) 9)) := (Below.refl _ _).alloc (Nat.le_refl _) _
  have hg : (w.alloc (.cells (mk9 n) 9)).heap[w.heap.size]? = some (.cells (mk9 n) 9 (0, 0)) := heap_alloc_new _ _
  by_cases h0 : n = 0
  · subst h0
    refine ⟨_, run_copy_none _ 28 28 3 9 _ _ 0 0 0 co Try.underlying28 Try.size9 (by simp), fun j hj => by omega, hba⟩
  · obtain ⟨_, ad, rfl, hsrc⟩ := strs_src (g := w.heap.size) h lz hba _ rfl (by simp; omega)
    have hrun := run_copy_row (P := Try.prog) (w.alloc (.cells (mk9 n) 9)) 28 28 3 9 w.heap.size 0 n n ad n co (mk9 n) 9 (zs.map Value.string) Try.underlying28 Try.size9 hg (by simp [lz]) hsrc (by simp [lz, mk9_size]) (strs_one zs)
    have e1 : ((mk9 n).toList.take 0 ++ zs.map Value.string ++ (mk9 n).toList.drop (0 + (zs.map Value.string).length)) = zs.map Value.string := by
      rw [List.drop_of_length_le (by simp [lz, mk9_size])]; simp
    rw [e1] at hrun
    have e2 : goInt (zs.map Value.string).length = .int .i64 (n : Int) := by simp [goInt, lz]
    rw [e2] at hrun
    exact ⟨_, hrun, strs_own (setRow_heap _ _ _ _ _ _ hg) lz, below_setRow hba (Nat.le_refl _) _⟩
end Go.Proofs.Qxb6618870a.Mt
