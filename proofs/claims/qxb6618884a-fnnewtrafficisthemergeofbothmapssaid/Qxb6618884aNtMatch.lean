/-
  matchByName: WALKED.
-/
import Derived.Test.Qxb6618884aNtSearch
import Derived.Laws.MakeOwn
namespace Go.Proofs.Qxb6618884a.Nt
open Go.RowKit

/-- The walk's law for a store of a float (beside the kit's for ints, strings ..). -/
theorem run_store_float {P : Program} (w : World) (a : Addr) (m : Mode) (k : FloatKind) (b : Nat) : (store a (.float k b) m).run P w = stored P w a (.float k b) m := run_store P w a _ m rfl
attribute [local go_sem] run_store_float

theorem Try.info3 : (Try.prog.info? 3).map (fun i => (i.zero, i.size, i.bytes)) = some (some (.int .i64 0), 1, 8) := by kernel_rfl
def mk3 (n : Nat) : Array Value := madeCells #[.int .i64 0] (n * 1)
theorem mk3_size (n : Nat) : (mk3 n).size = n := by simp [mk3, size_madeCells]
theorem make37 (n : Nat) (hn : n ≤ 4194304) (w : World) :
    (Instr.makeSlice 37 (.int .i64 (n : Int)) (.int .i64 (n : Int))).run Try.prog w = .ok (.slice (some ⟨w.heap.size, 0, none⟩) n n) (w.alloc (.cells (mk3 n) 3)) := by
  obtain ⟨i, hi, hz, hsz, hby⟩ := info_parts Try.info3
  rw [run_make w 37 3 i _ Try.underlying37 hi hz .i64 .i64 n n (by omega) (by omega) (by rw [hby]; omega) (by omega), hsz]
  rfl

theorem cellOf {w : World} {b : Nat} {cs : Array Value} {T : TypeId} {v : Value} {i : Nat} (h : w.heap[b]? = some (.cells cs T (0, 0))) (hi : cs[i]? = some v) : w.cell? ⟨b, i, none⟩ = some v := by
  simp [World.cell?, h, hi]
theorem ltOf' {w : World} {b : Nat} {o : Obj} (h : w.heap[b]? = some o) : b < w.heap.size := (Array.getElem?_eq_some_iff.1 h).1
theorem row_cell {w : World} {b i : Nat} {cs : Array Value} {T : TypeId} (h : w.heap[b]? = some (.cells cs T (0, 0))) (hi : i < cs.size) : (∃ v, w.cell? ⟨b, i, none⟩ = some v) ∧ w.frozen? ⟨b, i, none⟩ = false :=
  ⟨⟨cs[i], by simp [World.cell?, h, hi]⟩, by simp [World.frozen?, h]⟩
theorem row_put {w : World} {g k : Nat} {cs : Array Value} {T : TypeId} (h : w.heap[g]? = some (.cells cs T (0, 0))) (v : Value) : (w.setCell ⟨g, k, none⟩ v).heap[g]? = some (.cells (cs.setIfInBounds k v) T (0, 0)) := by
  simp [World.setCell, Array.getElem?_modify, h]

/-- The first k answers lie in the row. -/
def IdxTo (cs : Array Value) (fs ts : List Dv) (k : Nat) : Prop := ∀ (j : Nat) (d : Dv), j < k → fs[j]? = some d → cs[j]? = some (.int .i64 (ix ts (nk d)))
theorem IdxTo.put {cs : Array Value} {fs ts : List Dv} {k : Nat} (h : IdxTo cs fs ts k) (v : Value) : IdxTo (cs.setIfInBounds k v) fs ts k := fun j d hj hd => by
  rw [Array.getElem?_setIfInBounds_ne (by omega)]; exact h j d hj hd
theorem IdxTo.succ {cs : Array Value} {fs ts : List Dv} {k : Nat} {d : Dv} (h : IdxTo cs fs ts k) (hd : fs[k]? = some d) (hk : k < cs.size) {v : Int} (hv : v = ix ts (nk d)) : IdxTo (cs.setIfInBounds k (.int .i64 v)) fs ts (k + 1) := fun j x hj hx => by
  rcases Nat.lt_or_ge j k with h1 | h1
  · rw [Array.getElem?_setIfInBounds_ne (by omega)]; exact h j x h1 hx
  · obtain rfl : j = k := by omega
    rw [hd] at hx; cases hx
    rw [Array.getElem?_setIfInBounds_self_of_lt hk, hv]

/-- A row of answers in memory. -/
def IdxAt (w : World) (g : Nat) (fs ts : List Dv) : Prop := ∃ cs : Array Value, w.heap[g]? = some (.cells cs 3 (0, 0)) ∧ cs.size = fs.length ∧ IdxTo cs fs ts fs.length
theorem IdxAt.below {w w' : World} {g : Nat} {fs ts : List Dv} (h : IdxAt w g fs ts) (hb : Below w.heap.size w w') : IdxAt w' g fs ts := by
  obtain ⟨cs, h1, h2⟩ := h
  exact ⟨cs, (hb.block g (ltOf' h1)).trans h1, h2⟩

set_option maxRecDepth 100000 in
set_option maxHeartbeats 4000000 in
theorem f32 (af at_ : Option Addr) (cf ct : Nat) (fs ts : List Dv) (w : World) (hf : DevsIn w af fs) (ht : DevsIn w at_ ts) (hasc : Asc ts) (lf : fs.length ≤ 4194304) (lt' : ts.length ≤ 4194304) :
    Calls Try.prog 32 #[.slice af fs.length cf, .slice at_ ts.length ct] w fun e w' => e = .returned (.slice (some ⟨w.heap.size, 0, none⟩) fs.length fs.length) ∧ IdxAt w' w.heap.size fs ts ∧ Below w.heap.size w w' := by
  have DF : Hid (DevsIn w af fs) := hf
  have DT : Hid (DevsIn w at_ ts) := ht
  have AS : Hid (Asc ts) := hasc
  clear hf ht hasc
  have hmk := make37 fs.length lf
  have hms := mk3_size fs.length
  go_enter Try.func32, Try.ntmps32
  go_wp2
  go_loopw [6, 16] (fun s6 s16 wr => ∃ (k nx : Nat) (cs : Array Value), k ≤ fs.length ∧ s16 = .int .i64 k ∧ s6 = .int .i64 nx ∧ nx ≤ ts.length ∧ w.heap.size + 1 ≤ wr.heap.size ∧ Hid (Below w.heap.size w wr) ∧ Hid (wr.heap[w.heap.size]? = some (.cells cs 3 (0, 0)) ∧ cs.size = fs.length ∧ IdxTo cs fs ts k)) (fun _ s16 _ => fs.length - (intOf s16).toNat)
  case atStart => exact ⟨0, 0, mk3 fs.length, by omega, rfl, rfl, by omega, by simp, (Below.refl _ _).alloc (Nat.le_refl _) _, (show _ ∧ _ ∧ _ from ⟨heap_alloc_new _ _, hms, fun _ _ h => by omega⟩)⟩
  case round =>
    obtain ⟨k, nx, cs, hk, rfl, rfl, hnx, hsz, HB, HC⟩ := hrel
    clear hmk hms
    by_cases hlt : k < fs.length
    · obtain ⟨d, hd⟩ := at_of hlt
      obtain ⟨b, off, rfl, hb, c0, c1, c2⟩ := DF.out k d hd
      have g0 : wr.cell? ⟨b, off + k * 3, none⟩ = some (.string d.nm) := (HB.out.cell (p := ⟨b, off + k * 3, none⟩) hb).trans c0
      have g1 : wr.cell? ⟨b, off + k * 3 + 1, none⟩ = some (.float .f64 d.wt) := (HB.out.cell (p := ⟨b, off + k * 3 + 1, none⟩) hb).trans c1
      have g2 : wr.cell? ⟨b, off + k * 3 + 2, none⟩ = some (.string d.dm) := (HB.out.cell (p := ⟨b, off + k * 3 + 2, none⟩) hb).trans c2
      have HD : Hid (fs[k]? = some d) := hd
      clear hd c0 c1 c2
      have hkf : (k : Int) < (fs.length : Int) := by omega
      have hk0 : (0 : Int) ≤ (k : Int) := by omega
      go_wp2
      -- the world behind d's copy
      have HA : Hid _ := HB.out.alloc (show w.heap.size ≤ wr.heap.size by omega) (Obj.cells #[Value.string d.nm, Value.float FloatKind.f64 d.wt, Value.string d.dm] 43)
      have HG : Hid _ := heap_alloc_new wr (Obj.cells #[Value.string d.nm, Value.float FloatKind.f64 d.wt, Value.string d.dm] 43)
      have HR : Hid ((wr.alloc (Obj.cells #[Value.string d.nm, Value.float FloatKind.f64 d.wt, Value.string d.dm] 43)).heap[w.heap.size]? = some (.cells cs 3 (0, 0))) := (heap_alloc_old wr _ (show w.heap.size < wr.heap.size by omega)).trans HC.out.1
      have hz2 : wr.heap.size < (wr.alloc (Obj.cells #[Value.string d.nm, Value.float FloatKind.f64 d.wt, Value.string d.dm] 43)).heap.size := by simp
      clear g0 g1 g2
      generalize wr.alloc (Obj.cells #[Value.string d.nm, Value.float FloatKind.f64 d.wt, Value.string d.dm] 43) = W at *
      generalize wr.heap.size = dg at *
      have q0 : W.cell? ⟨dg, 0, none⟩ = some (.string d.nm) := cellOf HG.out rfl
      have q1 : W.cell? ⟨dg, 1, none⟩ = some (.float .f64 d.wt) := cellOf HG.out rfl
      have q2 : W.cell? ⟨dg, 2, none⟩ = some (.string d.dm) := cellOf HG.out rfl
      obtain ⟨⟨v0, r0⟩, z0⟩ := row_cell HR.out (i := k) (by have := HC.out.2.1; omega)
      have hdt : DevsIn W at_ ts := DevsIn.below (w := w) DT.out HA.out
      have DTW : Hid (DevsIn W at_ ts) := hdt
      clear hdt
      by_cases hA : ∃ e, ts[nx]? = some e ∧ nk e = nk d
      · obtain ⟨e, he, hen⟩ := hA
        have hnl : nx < ts.length := (List.getElem?_eq_some_iff.1 he).1
        obtain ⟨b2, off2, rfl, hb2, t0, _, _⟩ := DTW.out nx e he
        have heq : (e.nm.toList == d.nm.toList) = true := by rw [beq_iff_eq, nk_toList, nk_toList]; exact hen
        have HV : Hid ((nx : Int) = ix ts (nk d)) := (ix_at AS.out he hen).symm
        clear he hen
        have hni : (nx : Int) < (ts.length : Int) := by omega
        have hn0 : (0 : Int) ≤ (nx : Int) := by omega
        go_quiet (fail)
        go_wp2
        go_roundw
        case rel =>
          refine ⟨k + 1, nx + 1, cs.setIfInBounds k (.int .i64 (nx : Int)), by omega, by go_num, by go_num, by omega, ?_, ?_, (show _ ∧ _ ∧ _ from ⟨?_, by simpa using HC.out.2.1, HC.out.2.2.succ HD.out (by rw [HC.out.2.1]; exact hlt) HV.out⟩)⟩
          · simp [World.setCell, World.drewN]; omega
          · first | exact below_drewN (HA.out.setCell (p := ⟨w.heap.size, k, none⟩) (Nat.le_refl _) _) _ | exact (below_drewN HA.out _).setCell (p := ⟨w.heap.size, k, none⟩) (Nat.le_refl _) _
          · exact row_put HR.out _
        case measure => simp [intOf]; omega
      · have hstep : ∀ e, ts[nx]? = some e → (e.nm.toList == d.nm.toList) = false := fun e he => by
          rw [beq_eq_false_iff_ne, nk_toList, nk_toList]; intro h; exact hA ⟨e, he, h⟩
        clear hA
        have HST : Hid _ := hstep
        clear hstep
        have WA : ∀ q v, Below w.heap.size w ((W.drewN q).setCell ⟨w.heap.size, k, none⟩ v) := fun q v => (below_drewN HA.out q).setCell (p := ⟨w.heap.size, k, none⟩) (Nat.le_refl _) v
        have HWA : Hid _ := WA
        clear WA
        by_cases hnl : nx < ts.length
        · obtain ⟨e, he⟩ := at_of hnl
          obtain ⟨b2, off2, hat, hb2, t0, _, _⟩ := DTW.out nx e he
          have heq := HST.out e he
          clear he
          have hni : (nx : Int) < (ts.length : Int) := by omega
          have hn0 : (0 : Int) ≤ (nx : Int) := by omega
          subst hat
          go_quiet (fail)
          go_wp2_with fail
          refine (f38 (some ⟨b2, off2, none⟩) ct ts d _ (by exact DevsIn.below (w := w) DT.out (HWA.out nq (.int .i64 (-1)))) AS.out lt').mono ?_
          rintro e3 w3 ⟨⟨i, f, hi, rfl, hft, hff⟩, hb3⟩
          have hr3 : w3.heap[w.heap.size]? = some (.cells (cs.setIfInBounds k (.int .i64 (-1))) 3 (0, 0)) := (hb3.block w.heap.size (by simp [World.setCell, World.drewN]; omega)).trans (row_put HR.out _)
          have HR3 : Hid _ := hr3
          have hsz3 : w.heap.size + 1 ≤ w3.heap.size := ltOf' hr3
          have HB3 : Hid (Below w.heap.size w w3) := (HWA.out nq (.int .i64 (-1))).trans (hb3.mono (by simp [World.setCell, World.drewN]; omega))
          have HFT : Hid _ := hft
          have HFF : Hid _ := hff
          clear hr3 hb3 hft hff
          cases f
          · go_wp2
            go_roundw
            case rel => exact ⟨k + 1, nx, _, by omega, by go_num, rfl, hnx, hsz3, HB3.out, (show _ ∧ _ ∧ _ from ⟨HR3.out, by simpa using HC.out.2.1, HC.out.2.2.succ HD.out (by rw [HC.out.2.1]; exact hlt) (ix_no (HFF.out (by first | rfl | trivial))).symm⟩)⟩
            case measure => simp [intOf]; omega
          · obtain ⟨x, hx, hxn⟩ := HFT.out rfl
            have HV : Hid ((i : Int) = ix ts (nk d)) := (ix_at AS.out hx hxn).symm
            have hil : i < ts.length := (List.getElem?_eq_some_iff.1 hx).1
            clear hx hxn
            obtain ⟨⟨v3, y0⟩, x0⟩ := row_cell HR3.out (i := k) (by simp; have := HC.out.2.1; omega)
            go_wp2
            go_roundw
            case rel =>
              refine ⟨k + 1, i + 1, (cs.setIfInBounds k (.int .i64 (-1))).setIfInBounds k (.int .i64 (i : Int)), by omega, by go_num, by go_num, by omega, ?_, HB3.out.setCell (p := ⟨w.heap.size, k, none⟩) (Nat.le_refl _) _, (show _ ∧ _ ∧ _ from ⟨row_put HR3.out _, by simpa using HC.out.2.1, (HC.out.2.2.put _).succ HD.out (by simp; rw [HC.out.2.1]; exact hlt) HV.out⟩)⟩
              simp [World.setCell]; omega
            case measure => simp [intOf]; omega
        · have hdn : decide ((nx : Int) < (ts.length : Int)) = false := decide_eq_false (by omega)
          go_quiet (fail)
          go_wp2_with fail
          refine (f38 at_ ct ts d _ (by exact DevsIn.below (w := w) DT.out (HWA.out nq (.int .i64 (-1)))) AS.out lt').mono ?_
          rintro e3 w3 ⟨⟨i, f, hi, rfl, hft, hff⟩, hb3⟩
          have hr3 : w3.heap[w.heap.size]? = some (.cells (cs.setIfInBounds k (.int .i64 (-1))) 3 (0, 0)) := (hb3.block w.heap.size (by simp [World.setCell, World.drewN]; omega)).trans (row_put HR.out _)
          have HR3 : Hid _ := hr3
          have hsz3 : w.heap.size + 1 ≤ w3.heap.size := ltOf' hr3
          have HB3 : Hid (Below w.heap.size w w3) := (HWA.out nq (.int .i64 (-1))).trans (hb3.mono (by simp [World.setCell, World.drewN]; omega))
          have HFT : Hid _ := hft
          have HFF : Hid _ := hff
          clear hr3 hb3 hft hff
          cases f
          · go_wp2
            go_roundw
            case rel => exact ⟨k + 1, nx, _, by omega, by go_num, rfl, hnx, hsz3, HB3.out, (show _ ∧ _ ∧ _ from ⟨HR3.out, by simpa using HC.out.2.1, HC.out.2.2.succ HD.out (by rw [HC.out.2.1]; exact hlt) (ix_no (HFF.out (by first | rfl | trivial))).symm⟩)⟩
            case measure => simp [intOf]; omega
          · obtain ⟨x, hx, hxn⟩ := HFT.out rfl
            have HV : Hid ((i : Int) = ix ts (nk d)) := (ix_at AS.out hx hxn).symm
            have hil : i < ts.length := (List.getElem?_eq_some_iff.1 hx).1
            clear hx hxn
            obtain ⟨⟨v3, y0⟩, x0⟩ := row_cell HR3.out (i := k) (by simp; have := HC.out.2.1; omega)
            go_wp2
            go_roundw
            case rel =>
              refine ⟨k + 1, i + 1, (cs.setIfInBounds k (.int .i64 (-1))).setIfInBounds k (.int .i64 (i : Int)), by omega, by go_num, by go_num, by omega, ?_, HB3.out.setCell (p := ⟨w.heap.size, k, none⟩) (Nat.le_refl _) _, (show _ ∧ _ ∧ _ from ⟨row_put HR3.out _, by simpa using HC.out.2.1, (HC.out.2.2.put _).succ HD.out (by simp; rw [HC.out.2.1]; exact hlt) HV.out⟩)⟩
              simp [World.setCell]; omega
            case measure => simp [intOf]; omega
    · go_wp2
      go_ret
      obtain rfl : k = fs.length := by omega
      exact ⟨rfl, ⟨cs, HC.out⟩, HB.out⟩
end Go.Proofs.Qxb6618884a.Nt
