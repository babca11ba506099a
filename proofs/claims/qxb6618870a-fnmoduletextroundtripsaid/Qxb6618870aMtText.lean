import Derived.Test.Qxb6618870aMtMake
import Derived.Test.Qxb6618870aMtBuilder
namespace Go.Proofs.Qxb6618870a.Mt
open Go.RowKit

theorem isB_alloc {B b : Nat} {bs : List Value} {w : World} (h : Lib.IsBuilderF 50 5 B b bs w) (o : Obj) : Lib.IsBuilderF 50 5 B b bs (w.alloc o) := by
  have old : ∀ {k : Nat} {x : Obj}, w.heap[k]? = some x → (w.alloc o).heap[k]? = some x := fun {k x} hk => by
    have hlt : k < w.heap.size := (Array.getElem?_eq_some_iff.1 hk).1
    rw [Lib.alloc_old w o k hlt]; exact hk
  have go : ∀ p, Lib.BuilderAtF 50 5 B b p bs w → Lib.BuilderAtF 50 5 B b p bs (w.alloc o) := fun p ⟨hB, v, hb, hown, hne⟩ =>
    ⟨hB, v, old hb, hown.alloc _, hne⟩
  rcases h with h | h
  · exact Or.inl (go _ h)
  · exact Or.inr (go _ h)

theorem isB_fresh (w : World) : Lib.IsBuilderF 50 5 w.heap.size w.heap.size (Lib.byteCells []) (w.alloc (.cells #[.pointer none, .slice none 0 0] 50)) :=
  Or.inl ⟨Nat.le_refl _, .slice none 0 0, heap_alloc_new _ _, World.ownsRowF_of (World.ownsRow_nil _ _ _ _), by simp [Value.ownBlock]⟩

/-- WriteString, in lists of bytes. -/
theorem ws (B b : Nat) (acc : List UInt8) (s : ByteArray) (w : World) (h : Lib.IsBuilderF 50 5 B b (Lib.byteCells acc) w) (hlen : acc.length + s.size ≤ 140737488355328) (hBw : B ≤ w.heap.size) :
    Calls Try.prog 20 #[.pointer (some ⟨b, 0, none⟩), .string s] w fun e w' => e = .returned (.tuple #[.int .i64 s.size, .nilIface]) ∧ (Lib.IsBuilderF 50 5 B b (Lib.byteCells (acc ++ s.data.toList)) w' ∧ Below B w w' ∧ Lib.OthersKept 5 (some b) w w') := by
  refine (writeString B b _ s w h (by rw [Lib.byteCells_length]; exact hlen) hBw).mono fun e w' ⟨he, h1, h2, h3⟩ => ⟨he, ?_, h2, h3⟩
  have e1 : Lib.byteCells (acc ++ s.data.toList) = Lib.byteCells acc ++ Lib.strCells s := by simp [Lib.byteCells, Lib.strCells]
  rw [e1]
  exact Or.inr h1

/-- A block of the call's own that is no row of bytes stands behind a write. -/
theorem kept41 {B g : Nat} {w w' : World} {cs : Array Value} (hk : Lib.OthersKept 5 (some B) w w') (hg : w.heap[g]? = some (.cells cs 41 (0, 0))) (hne : g ≠ B) : w'.heap[g]? = some (.cells cs 41 (0, 0)) :=
  hk g _ hg (by simpa using hne) (fun c fz => by simp)

theorem cellOf {w : World} {b : Nat} {cs : Array Value} {T : TypeId} {v : Value} {i : Nat} (h : w.heap[b]? = some (.cells cs T (0, 0))) (hi : cs[i]? = some v) : w.cell? ⟨b, i, none⟩ = some v := by
  simp [World.cell?, h, hi]

theorem ltOf {w : World} {b : Nat} {o : Obj} (h : w.heap[b]? = some o) : b < w.heap.size := (Array.getElem?_eq_some_iff.1 h).1

set_option maxRecDepth 100000 in
set_option maxHeartbeats 1000000 in
theorem f15 (eb n : Nat) (src : ByteArray) (zs : List Int) (ps ms : List ByteArray) (w : World) (hx : ExprAt w eb src n zs ps ms) (hst : Stands src zs ps n) (hn : n ≤ 1048576) (htot : src.size + tot (Pb ms) n ≤ 8388608) :
    Calls Try.prog 15 #[.pointer (some ⟨eb, 0, none⟩)] w fun e w' => e = .returned (.string ⟨(mt src.data.toList (Oz zs) (Pb ps) (Pb ms) n).toArray⟩) ∧ Below w.heap.size w w' := by
  obtain ⟨ub, cs, hE, hU, hcs, huse⟩ := hx
  have leb := ltOf hE
  have lub := ltOf hU
  have c0 := cellOf (i := 0) hE rfl
  have c3 := cellOf (i := 3) hE rfl
  have hssz : src.size ≤ 8388608 := by omega
  have HE : Hid _ := hE
  have HU : Hid _ := hU
  have HC : Hid _ := hcs
  have HS : Hid _ := huse
  have HST : Hid _ := hst
  have HT : Hid _ := htot
  clear hE hU hcs huse hst htot
  generalize hfin : (⟨(mt src.data.toList (Oz zs) (Pb ps) (Pb ms) n).toArray⟩ : ByteArray) = fin
  have HF : Hid _ := hfin
  clear hfin
  go_enter Try.func15, Try.ntmps15
  go_wp2
  go_loopw [4, 6, 12] (fun t u i wr => ∃ (k a : Nat) (acc : List UInt8), k ≤ n ∧ i = .int .i64 k ∧ t = .int .i64 a ∧ a ≤ src.size ∧ acc.length ≤ 8388608 ∧ Below w.heap.size w wr ∧ w.heap.size + 1 ≤ wr.heap.size ∧ Hid (Lib.IsBuilderF 50 5 w.heap.size w.heap.size (Lib.byteCells acc) wr) ∧ Hid (a = E (Oz zs) (Pb ps) k ∧ acc = tx src.data.toList (Oz zs) (Pb ps) (Pb ms) k)) (fun _ _ i _ => n - (intOf i).toNat)
  case atStart => exact ⟨0, 0, [], by omega, rfl, rfl, by omega, by simp, (Below.refl _ _).alloc (Nat.le_refl _) _, by simp, isB_fresh w, (show _ ∧ _ from ⟨rfl, rfl⟩)⟩
  case round =>
    obtain ⟨k, a, acc, hk, rfl, rfl, ha, hacc, hbl, hsz, HB, HK⟩ := hrel
    have g0 : wr.cell? ⟨eb, 0, none⟩ = some (.string src) := (hbl.cell (p := ⟨eb, 0, none⟩) leb).trans c0
    by_cases hlt : k < n
    · obtain ⟨z, p, q, k0, k1, k2, hz, hp, hq⟩ := HS.out k hlt
      have hz0 := HST.out.2 k hlt
      simp [hz] at hz0
      obtain ⟨o, rfl⟩ := Int.eq_ofNat_of_zero_le hz0
      have hsk := HST.out.1 k hlt
      rw [Oz_of hz, Pb_of hp] at hsk
      have hao : a ≤ o := by rw [HK.out.1]; exact hsk.1
      have hos : o + p.size ≤ src.size := by simpa using hsk.2.1
      have hqs : q.size ≤ 8388608 := by
        have h1 := tot_succ hq
        have h2 := tot_mono (M := Pb ms) (show k + 1 ≤ n from hlt)
        have h3 := HT.out
        omega
      have u0 : wr.cell? ⟨ub, k * 3, none⟩ = some (.int .i64 (o : Int)) := (hbl.cell (p := ⟨ub, k * 3, none⟩) lub).trans (cellOf HU.out k0)
      have u1 : wr.cell? ⟨ub, k * 3 + 1, none⟩ = some (.string p) := (hbl.cell (p := ⟨ub, k * 3 + 1, none⟩) lub).trans (cellOf HU.out k1)
      have u2 : wr.cell? ⟨ub, k * 3 + 2, none⟩ = some (.string q) := (hbl.cell (p := ⟨ub, k * 3 + 2, none⟩) lub).trans (cellOf HU.out k2)
      have HK0 : Hid _ := hz
      have HK1 : Hid _ := hp
      have HK2 : Hid _ := hq
      clear k0 k1 k2 hz hp hq hz0 hsk
      have hkn : (k : Int) < (n : Int) := by omega
      generalize hs1 : src.extract a o = s1
      have hs1l : s1.size ≤ 8388608 := by rw [← hs1]; simp; omega
      have hsl : ∀ wx, (Instr.slice 9 (.string src) (some (.int .i64 (a : Int))) (some (.int .i64 (o : Int))) none).run Try.prog wx = .ok (.string s1) wx := fun wx => by
        rw [run_slice_string wx 9 src .i64 .i64 a o Try.underlying9 (by omega) (by omega) (by omega), ← hs1]
        rfl
      have HS1 : Hid _ := hs1
      clear hs1
      have HBL : Hid _ := hbl
      clear hbl
      go_wp2
      have e0 : (wr.alloc (Obj.cells #[Value.int IntKind.i64 ↑o, Value.string p, Value.string q] 41)).cell? ⟨eb, 0, none⟩ = some (.string src) := by rw [World.cell?_alloc_past _ _ _ (show eb < wr.heap.size by omega)]; exact g0
      have HA : Hid _ := HBL.out.alloc (show w.heap.size ≤ wr.heap.size by omega) (Obj.cells #[Value.int IntKind.i64 ↑o, Value.string p, Value.string q] 41)
      have HG : Hid _ := heap_alloc_new wr (Obj.cells #[Value.int IntKind.i64 ↑o, Value.string p, Value.string q] 41)
      have HB2 : Hid _ := isB_alloc HB.out (Obj.cells #[Value.int IntKind.i64 ↑o, Value.string p, Value.string q] 41)
      have hsz2 : wr.heap.size + 1 ≤ (wr.alloc (Obj.cells #[Value.int IntKind.i64 ↑o, Value.string p, Value.string q] 41)).heap.size := by simp
      generalize wr.alloc (Obj.cells #[Value.int IntKind.i64 ↑o, Value.string p, Value.string q] 41) = W at *
      generalize wr.heap.size = ug at *
      have e1 : W.cell? ⟨ug, 0, none⟩ = some (.int .i64 (o : Int)) := cellOf HG.out rfl
      clear u0 u1 u2 g0 HB
      go_region_held3 (fun w' => w'.cell? ⟨eb, 0, none⟩ = some (.string src) ∧ w'.cell? ⟨ug, 0, none⟩ = some (.int .i64 (o : Int))) (first | go_keep | exact ⟨(hb2.cell (p := ⟨eb, 0, none⟩) leb).trans e0, cellOf (kept41 hk2 HG.out (by omega)) rfl⟩)
        ((go_at_call 20; refine (ws w.heap.size w.heap.size acc s1 _ (by exact HB2.out) (by omega) (by show w.heap.size ≤ W.heap.size; omega)).mono ?_; rintro e w2 ⟨rfl, hB3, hb2, hk2⟩))
      all_goals
        have HG2 : Hid _ := kept41 hk2 HG.out (by omega)
        have q0 : w2.cell? ⟨ug, 0, none⟩ = some (.int .i64 (o : Int)) := cellOf HG2.out rfl
        have q1 : w2.cell? ⟨ug, 1, none⟩ = some (.string p) := cellOf HG2.out rfl
        have q2 : w2.cell? ⟨ug, 2, none⟩ = some (.string q) := cellOf HG2.out rfl
        have HA2 : Hid _ := HA.out.drew.trans hb2
        have HB3 : Hid _ := hB3
        have hz2 : ug + 1 ≤ w2.heap.size := ltOf HG2.out
        clear hb2 hk2 hB3 e0 e1
        go_wp2_with (go_at_call 20; refine (ws w.heap.size w.heap.size (acc ++ s1.data.toList) q _ (by exact HB3.out) (by simp; omega) (by omega)).mono ?_; rintro e w3 ⟨rfl, hB4, hb3, hk3⟩; have HG3 : Hid _ := kept41 hk3 HG2.out (by omega); have r0 : w3.cell? ⟨ug, 0, none⟩ = some (.int .i64 (o : Int)) := cellOf HG3.out rfl; have r1 : w3.cell? ⟨ug, 1, none⟩ = some (.string p) := cellOf HG3.out rfl; have HA3 : Hid _ := HA2.out.trans hb3; have HB4 : Hid _ := hB4; have hz3 : ug + 1 ≤ w3.heap.size := ltOf HG3.out; clear hb3 hk3 hB4 q0 q1 q2)
        go_roundw
        case rel =>
          have e2 : acc ++ s1.data.toList ++ q.data.toList = tx src.data.toList (Oz zs) (Pb ps) (Pb ms) (k + 1) := by
            rw [tx, ← HK.out.1, ← HK.out.2, Oz_of HK0.out, Pb_of HK2.out, ← HS1.out, Lib.extract_data]
          have e3 : (acc ++ s1.data.toList ++ q.data.toList).length ≤ 8388608 := by
            rw [e2]
            have h1 := tx_le (M := Pb ms) (HST.out.1.mono (show k + 1 ≤ n from hlt))
            have h2 := (HST.out.1.mono (show k + 1 ≤ n from hlt)).E_le
            have h3 := tot_mono (M := Pb ms) (show k + 1 ≤ n from hlt)
            have h4 := HT.out
            simp at h2
            omega
          exact ⟨k + 1, o + p.size, acc ++ s1.data.toList ++ q.data.toList, by omega, by go_num, by go_num, hos, e3, HA3.out, by omega, HB4.out, (show _ ∧ _ from ⟨by rw [E_succ, Oz_of HK0.out, Pb_of HK1.out]; simp, e2⟩)⟩
        case measure => simp [intOf]; omega
    · obtain rfl : k = n := by omega
      generalize hs1 : src.extract a src.size = s1
      have hs1l : s1.size ≤ 8388608 := by rw [← hs1]; simp; omega
      have hsl : ∀ wx, (Instr.slice 9 (.string src) (some (.int .i64 (a : Int))) none none).run Try.prog wx = .ok (.string s1) wx := fun wx => by
        rw [run_slice_string_from_if wx 9 src .i64 a Try.underlying9, if_pos ⟨by omega, by omega⟩, ← hs1]
        rfl
      have HS1 : Hid _ := hs1
      have HBL : Hid _ := hbl
      clear hs1 hbl
      go_wp2_with (first | (go_at_call 20; refine (ws w.heap.size w.heap.size acc s1 _ (by exact HB.out) (by omega) (by omega)).mono ?_; rintro e w3 ⟨rfl, hB4, hb3, hk3⟩; have HB4 : Hid _ := hB4; have HA3 : Hid _ := HBL.out.trans hb3; have hz3 := hb3.size; clear hb3 hk3 hB4) | (go_at_call 21; refine (string_any w.heap.size w.heap.size (acc ++ s1.data.toList) _ (by exact HB4.out) (by omega)).mono ?_; rintro e w4 ⟨rfl, _, hb4, _⟩; have HA4 : Hid _ := HA3.out.trans hb4; clear hb4))
      go_ret
      refine ⟨?_, HA4.out⟩
      have e2 : acc ++ s1.data.toList = mt src.data.toList (Oz zs) (Pb ps) (Pb ms) k := by
        rw [mt, ← HK.out.1, ← HK.out.2, ← HS1.out, Lib.extract_data, List.take_of_length_le (by simp)]
      show Ending.returned (Value.string ⟨(acc ++ s1.data.toList).toArray⟩) = _
      rw [e2, HF.out]
end Go.Proofs.Qxb6618870a.Mt
