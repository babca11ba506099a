import Derived.Test.Qxb6618870aMtBack
import Derived.Deep.QuietTactic
import Derived.BigQuiet
namespace Go.Proofs.Qxb6618870a.Mt
open Go.RowKit

/-- The first k new offsets lie in the row's cells. -/
def NewCells (cs : Array Value) (O : Nat → Nat) (P M : Nat → List UInt8) (k : Nat) : Prop := ∀ j, j < k → cs[j]? = some (.int .i64 (nO O P M j : Int))

theorem new_step {w wr : World} {g k n B : Nat} {cs : Array Value} {O : Nat → Nat} {P M : Nat → List UInt8} {z : Int} (hB : Below B w wr) (hBg : B ≤ g) (hrow : wr.heap[g]? = some (.cells cs 3 (0, 0))) (hcs : cs.size = n) (hk : k < n) (hu : NewCells cs O P M k) (hz : z = (nO O P M k : Int)) :
    Below B w (wr.setCell ⟨g, k, none⟩ (.int .i64 z)) ∧ ∃ cs', (wr.setCell ⟨g, k, none⟩ (.int .i64 z)).heap[g]? = some (.cells cs' 3 (0, 0)) ∧ cs'.size = n ∧ NewCells cs' O P M (k + 1) := by
  refine ⟨hB.setCell hBg _, cs.setIfInBounds k (.int .i64 z), ?_, by simpa using hcs, ?_⟩
  · simp [World.setCell, Array.getElem?_modify, hrow]
  · intro j hj
    rcases Nat.lt_or_ge j k with h | h
    · rw [Array.getElem?_setIfInBounds_ne (by omega)]; exact hu j h
    · obtain rfl : j = k := by omega
      rw [Array.getElem?_setIfInBounds_self_of_lt (by omega), hz]

theorem new_ints {w : World} {g n : Nat} {cs : Array Value} {O : Nat → Nat} {P M : Nat → List UInt8} (h : w.heap[g]? = some (.cells cs 3 (0, 0))) (hu : NewCells cs O P M n) : IntsIn w (some ⟨g, 0, none⟩) n (newZ O P M n) := fun j hj =>
  ⟨g, 0, _, rfl, ltOf h, cellOf h (by rw [Nat.zero_add]; exact hu j hj), newZ_at O P M hj⟩

set_option maxRecDepth 100000 in
set_option maxHeartbeats 4000000 in
theorem f6 (src : ByteArray) (ao ap aq : Option Addr) (n m l co cp cq : Nat) (zs : List Int) (ps ms : List ByteArray) (w : World) (hs : src.size ≤ maxLen) (hn : n ≤ maxLen) (hm : m ≤ maxLen) (hl : l ≤ maxLen)
    (hz : IntsIn w ao n zs) (hp : StrsIn w ap m ps) (hq : StrsIn w aq l ms) (lz : zs.length = n) (lp : ps.length = m) (lq : ms.length = l) (hlen : ∀ s ∈ ps, s.size ≤ maxLen) (hlenq : ∀ s ∈ ms, s.size ≤ maxLen) :
    Calls Try.prog 6 #[.string src, .slice ao n co, .slice ap m cp, .slice aq l cq] w fun e w' => e = .returned (.bool true) ∧ Below w.heap.size w w' := by
  have H17 := f17 src ao ap aq n m l co cp cq ps ms w hs hn hm hl hp hlen hq hlenq
  have HZ : Hid (IntsIn w ao n zs) := hz
  have HP : Hid (StrsIn w ap m ps) := hp
  have HQ : Hid (StrsIn w aq l ms) := hq
  have LZ : Hid (zs.length = n) := lz
  have LP : Hid (ps.length = m) := lp
  have LQ : Hid (ms.length = l) := lq
  clear hz hp hq lz lp lq hlen hlenq hs hn hm hl
  go_enter Try.func6, Try.ntmps6
  go_wp2_with fail
  refine H17.mono ?_
  clear H17
  rintro e w' ⟨⟨b, rfl, hb⟩, hw⟩
  obtain rfl := hw.symm
  cases b
  · clear hb
    go_wp2
    go_ret
    exact ⟨rfl, Below.refl _ _⟩
  have hfit := hb rfl
  clear hb hw
  unfold Fits at hfit
  have HF : Hid (src.size + n + m + tot (Pb ps) m + l + tot (Pb ms) l ≤ 1048576) := hfit
  have hs : src.size ≤ 1048576 := by omega
  have hn : n ≤ 1048576 := by omega
  have hm : m ≤ 1048576 := by omega
  have hl : l ≤ 1048576 := by omega
  have HL2 : Hid (∀ s ∈ ps, s.size ≤ 1048576) := fun s h => by have := size_le_tot h LP.out; omega
  have HM2 : Hid (∀ s ∈ ms, s.size ≤ 1048576) := fun s h => by have := size_le_tot h LQ.out; omega
  clear hfit
  go_wp2_with fail
  refine (f12 src ao ap aq n m l co cp cq ps ms w hs hn hm hl HP.out HL2.out HQ.out HM2.out).mono ?_
  rintro e w' ⟨⟨b, rfl, hb⟩, hw⟩
  obtain rfl := hw.symm
  clear hb hw
  cases b
  rotate_left
  · go_wp2
    go_ret
    exact ⟨rfl, Below.refl _ _⟩
  by_cases hnm : n = m
  rotate_left
  · have hne : ((n : Int) == (m : Int)) = false := beq_eq_false_iff_ne.2 (by omega)
    go_wp2
    go_ret
    exact ⟨rfl, Below.refl _ _⟩
  subst hnm
  by_cases hnl : n = l
  rotate_left
  · have hne : ((n : Int) == (l : Int)) = false := beq_eq_false_iff_ne.2 (by omega)
    go_wp2
    go_ret
    exact ⟨rfl, Below.refl _ _⟩
  subst hnl
  clear hm hl
  go_wp2_with fail
  refine (f13 src ao ap n n co cp zs ps w hs hn hn (Nat.le_refl _) HZ.out HP.out HL2.out).mono ?_
  rintro e w' ⟨⟨b, rfl, hb⟩, hw⟩
  obtain rfl := hw.symm
  cases b
  · clear hb
    go_wp2
    go_ret
    exact ⟨rfl, Below.refl _ _⟩
  have HST : Hid (Stands src zs ps n) := hb rfl
  clear hb hw
  go_upto_if 49 with fail
  go_cut [1, 9] (fun s1 s9 wx => ∃ a1 c1, s1 = .slice a1 n c1 ∧ Hid (IntsIn wx a1 n zs) ∧ Below w.heap.size w wx)
  case first =>
    cases ao with
    | none =>
      go_wp2
      go_meet
      case rel => exact ⟨none, co, rfl, HZ.out, Below.refl _ _⟩
    | some ad =>
      have hmk := make27 n hn
      obtain ⟨W2, hrun, hin, hb2⟩ := copy27 w (some ad) co n zs HZ.out LZ.out
      have HI : Hid _ := hin
      have HB : Hid _ := hb2
      clear hin hb2
      go_wp2
      go_meet
      case rel => exact ⟨_, _, rfl, HI.out, HB.out⟩
  case rest =>
    rename World => w1
    obtain ⟨a1, c1, rfl, HZ1, hb1⟩ := hcut
    have HB1 : Hid (Below w.heap.size w w1) := hb1
    have HP1 : Hid (StrsIn w1 ap n ps) := StrsIn.below HP.out hb1
    have HQ1 : Hid (StrsIn w1 aq n ms) := StrsIn.below HQ.out hb1
    clear hb1 HZ HP HQ
    go_upto_if 58 with fail
    go_cut [2, 10] (fun s2 s10 wx => ∃ a2 c2, s2 = .slice a2 n c2 ∧ Hid (StrsIn wx a2 n ps) ∧ Below w1.heap.size w1 wx)
    case first =>
      cases ap with
      | none =>
        go_wp2
        go_meet
        case rel => exact ⟨none, cp, rfl, HP1.out, Below.refl _ _⟩
      | some ad =>
        have hmk := make28 n hn
        obtain ⟨W2, hrun, hin, hb2⟩ := copy28 w1 (some ad) cp n ps HP1.out LP.out
        have HI : Hid _ := hin
        have HB : Hid _ := hb2
        clear hin hb2
        go_wp2
        go_meet
        case rel => exact ⟨_, _, rfl, HI.out, HB.out⟩
    case rest =>
      rename World => w2
      obtain ⟨a2, c2, rfl, HP2, hb2⟩ := hcut
      have HZ2 : Hid (IntsIn w2 a1 n zs) := IntsIn.below HZ1.out hb2
      have HQ2 : Hid (StrsIn w2 aq n ms) := StrsIn.below HQ1.out hb2
      have HB2 : Hid (Below w.heap.size w w2) := HB1.out.trans (hb2.mono HB1.out.size)
      clear hb2 HZ1 HP1 HQ1 HB1
      go_upto_if 67 with fail
      go_cut [3, 11] (fun s3 s11 wx => ∃ a3 c3, s3 = .slice a3 n c3 ∧ Hid (StrsIn wx a3 n ms) ∧ Below w2.heap.size w2 wx)
      case first =>
        cases aq with
        | none =>
          go_wp2
          go_meet
          case rel => exact ⟨none, cq, rfl, HQ2.out, Below.refl _ _⟩
        | some ad =>
          have hmk := make28 n hn
          obtain ⟨W2, hrun, hin, hb2⟩ := copy28 w2 (some ad) cq n ms HQ2.out LQ.out
          have HI : Hid _ := hin
          have HB : Hid _ := hb2
          clear hin hb2
          go_wp2
          go_meet
          case rel => exact ⟨_, _, rfl, HI.out, HB.out⟩
      case rest =>
        rename World => w3
        obtain ⟨a3, c3, rfl, HQ3, hb3⟩ := hcut
        have HZ3 : Hid (IntsIn w3 a1 n zs) := IntsIn.below HZ2.out hb3
        have HP3 : Hid (StrsIn w3 a2 n ps) := StrsIn.below HP2.out hb3
        have HB3 : Hid (Below w.heap.size w w3) := HB2.out.trans (hb3.mono HB2.out.size)
        clear hb3 HZ2 HP2 HQ2 HB2
        go_wp2_with fail
        refine (f14 src a1 a2 a3 n c1 c2 c3 zs ps ms _ hn HZ3.out HP3.out HQ3.out).mono ?_
        rintro e w4 ⟨rfl, hx, hb4⟩
        have HX : Hid _ := hx
        have HZ4 : Hid (IntsIn w4 a1 n zs) := IntsIn.below HZ3.out hb4
        have HP4 : Hid (StrsIn w4 a2 n ps) := StrsIn.below HP3.out hb4
        have HQ4 : Hid (StrsIn w4 a3 n ms) := StrsIn.below HQ3.out hb4
        have HB4 : Hid (Below w.heap.size w w4) := HB3.out.trans (hb4.mono HB3.out.size)
        clear hx hb4 HZ3 HP3 HQ3 HB3
        go_wp2_with fail
        have H15 := f15 (w3.heap.size + 1) n src zs ps ms w4 HX.out HST.out hn (by have h1 := HF.out; omega)
        obtain ⟨T, hT⟩ : ∃ T : ByteArray, T = ⟨(mt src.data.toList (Oz zs) (Pb ps) (Pb ms) n).toArray⟩ := ⟨_, rfl⟩
        rw [← hT] at H15
        have HT : Hid (T = ⟨(mt src.data.toList (Oz zs) (Pb ps) (Pb ms) n).toArray⟩) := hT
        refine H15.mono ?_
        clear H15 HX hT
        rintro e w5 ⟨rfl, hb5⟩
        have HZ5 : Hid (IntsIn w5 a1 n zs) := IntsIn.below HZ4.out hb5
        have HP5 : Hid (StrsIn w5 a2 n ps) := StrsIn.below HP4.out hb5
        have HQ5 : Hid (StrsIn w5 a3 n ms) := StrsIn.below HQ4.out hb5
        have HB5 : Hid (Below w.heap.size w w5) := HB4.out.trans (hb5.mono HB4.out.size)
        clear hb5 HZ4 HP4 HQ4 HB4
        have hTs : T.size ≤ 1048576 := by have h1 := (T_size HST.out HT.out).2; have h2 := HF.out; omega
        have hmk := make27 n hn
        go_wp2
        go_loopw [14, 15] (fun d i wr => ∃ (k : Nat) (x : Int) (cs : Array Value), k ≤ n ∧ i = .int .i64 k ∧ d = .int .i64 x ∧ -1048576 ≤ x ∧ x ≤ 1048576 ∧ Below w5.heap.size w5 wr ∧ w5.heap.size + 1 ≤ wr.heap.size ∧ Hid (x = sh (Pb ps) (Pb ms) k) ∧ Hid (wr.heap[w5.heap.size]? = some (.cells cs 3 (0, 0)) ∧ cs.size = n ∧ NewCells cs (Oz zs) (Pb ps) (Pb ms) k)) (fun _ i _ => n - (intOf i).toNat)
        case atStart => exact ⟨0, 0, mk3 n, by omega, rfl, rfl, by omega, by omega, (Below.refl _ _).alloc (Nat.le_refl _) _, by simp, rfl, (show _ ∧ _ ∧ _ from ⟨heap_alloc_new _ _, mk3_size n, fun _ h => by omega⟩)⟩
        case round =>
          obtain ⟨k, x, cs, hk, rfl, rfl, hx1, hx2, hbl, hsz, HX, HC⟩ := hrel
          by_cases hlt : k < n
          · obtain ⟨b, off, z, rfl, hb, hcz, hzk⟩ := HZ5.out k hlt
            obtain ⟨b', off', p, rfl, hb', hcp, hpk⟩ := HP5.out k hlt
            obtain ⟨b'', off'', q, rfl, hb'', hcq, hqk⟩ := HQ5.out k hlt
            have hz0 := HST.out.2 k hlt
            simp [hzk] at hz0
            obtain ⟨o, rfl⟩ := Int.eq_ofNat_of_zero_le hz0
            have hsk := HST.out.1 k hlt
            rw [Oz_of hzk, Pb_of hpk] at hsk
            have hos : o ≤ 1048576 := by have := hsk.2.1; simp at this; omega
            have hps := HL2.out p (List.mem_of_getElem? hpk)
            have hqs := HM2.out q (List.mem_of_getElem? hqk)
            have HZK : Hid _ := hzk
            have HPK : Hid _ := hpk
            have HQK : Hid _ := hqk
            have hkn : (k : Int) < (n : Int) := by omega
            have hk0 : (0 : Int) ≤ (k : Int) := by omega
            have gz : wr.cell? ⟨b, off + k, none⟩ = some (.int .i64 (o : Int)) := (hbl.cell (p := ⟨b, off + k, none⟩) hb).trans hcz
            have gp : wr.cell? ⟨b', off' + k, none⟩ = some (.string p) := (hbl.cell (p := ⟨b', off' + k, none⟩) hb').trans hcp
            have gq : wr.cell? ⟨b'', off'' + k, none⟩ = some (.string q) := (hbl.cell (p := ⟨b'', off'' + k, none⟩) hb'').trans hcq
            obtain ⟨⟨v0, r0⟩, z0⟩ := row_cell HC.out.1 (i := k) (by have := HC.out.2.1; omega)
            have ne1 : w5.heap.size ≠ b' := by omega
            have ne2 : w5.heap.size ≠ b'' := by omega
            have HBL : Hid (Below w5.heap.size w5 wr) := hbl
            clear hcz hcp hcq hbl hzk hpk hqk hz0 hsk hmk
            go_wp2
            have hnz : (o : Int) + x = (nO (Oz zs) (Pb ps) (Pb ms) k : Int) := by
              have h1 := (nO_eq (M := Pb ms) (HST.out.1.mono (show k + 1 ≤ n from hlt))).1
              rw [h1, Oz_of HZK.out, HX.out]
            have NS := new_step HBL.out (Nat.le_refl _) HC.out.1 HC.out.2.1 hlt HC.out.2.2 hnz
            have gp2 : (wr.setCell ⟨w5.heap.size, k, none⟩ (.int .i64 ((o : Int) + x))).cell? ⟨b', off' + k, none⟩ = some (.string p) := by rw [World.cell?_setCell_far _ _ _ _ ne1]; exact gp
            have gq2 : (wr.setCell ⟨w5.heap.size, k, none⟩ (.int .i64 ((o : Int) + x))).cell? ⟨b'', off'' + k, none⟩ = some (.string q) := by rw [World.cell?_setCell_far _ _ _ _ ne2]; exact gq
            have hsz2 : w5.heap.size + 1 ≤ (wr.setCell ⟨w5.heap.size, k, none⟩ (.int .i64 ((o : Int) + x))).heap.size := by simpa [World.setCell] using hsz
            generalize wr.setCell ⟨w5.heap.size, k, none⟩ (.int .i64 ((o : Int) + x)) = W at *
            obtain ⟨nb, cs', n1, n2, n3⟩ := NS
            have NB : Hid (Below w5.heap.size w5 W) := nb
            have NC : Hid (W.heap[w5.heap.size]? = some (.cells cs' 3 (0, 0)) ∧ cs'.size = n ∧ NewCells cs' (Oz zs) (Pb ps) (Pb ms) (k + 1)) := ⟨n1, n2, n3⟩
            have HNX : Hid (x + ((q.size : Int) - (p.size : Int)) = sh (Pb ps) (Pb ms) (k + 1)) := by
              show _ = _
              rw [sh, ← HX.out, Pb_of HPK.out, Pb_of HQK.out]; simp
            have hb1 := sh_bd (Pb ps) (Pb ms) (k + 1)
            rw [← HNX.out] at hb1
            have hb2 : -1048576 ≤ x + ((q.size : Int) - (p.size : Int)) ∧ x + ((q.size : Int) - (p.size : Int)) ≤ 1048576 := by
              have h1 := tot_mono (M := Pb ps) (show k + 1 ≤ n from hlt)
              have h2 := tot_mono (M := Pb ms) (show k + 1 ≤ n from hlt)
              have h3 := HF.out
              omega
            clear nb n1 n2 n3 gz gp gq r0 z0 hnz HBL hb1
            go_quiet (fail)
            go_wp2
            go_roundw
            case rel => exact ⟨k + 1, _, cs', by omega, by go_num, rfl, hb2.1, hb2.2, below_drewN NB.out _, hsz2, HNX.out, NC.out⟩
            case measure => simp [intOf]; omega
          · obtain rfl : k = n := by omega
            have HBL : Hid (Below w5.heap.size w5 wr) := hbl
            have HR : Hid (IntsIn wr (some ⟨w5.heap.size, 0, none⟩) k (newZ (Oz zs) (Pb ps) (Pb ms) k)) := new_ints HC.out.1 HC.out.2.2
            have HQ6 : Hid (StrsIn wr a3 k ms) := StrsIn.below HQ5.out hbl
            have HP6 : Hid (StrsIn wr a2 k ps) := StrsIn.below HP5.out hbl
            have hlenT : (T.size : Int) = (src.size : Int) + x := by rw [HX.out]; exact (T_size HST.out HT.out).1
            have hneT : ((T.size : Int) == (src.size : Int) + x) = true := beq_iff_eq.2 hlenT
            have HLT : Hid _ := hlenT
            clear hbl hmk hlenT
            go_wp2
            go_loop [16] (fun i => ∃ (j : Nat), j ≤ k ∧ i = .int .i64 j) (fun i => k - (intOf i).toNat)
            case atStart => exact ⟨0, by omega, rfl⟩
            case round =>
              obtain ⟨j, hj, rfl⟩ := hrel
              by_cases hlt : j < k
              · obtain ⟨b'', off'', q, rfl, hb'', hcq, hqk⟩ := HQ6.out j hlt
                have cj : wr.cell? ⟨w5.heap.size, j, none⟩ = some (.int .i64 (nO (Oz zs) (Pb ps) (Pb ms) j : Int)) := cellOf HC.out.1 (HC.out.2.2 j hlt)
                have hsj := (stands_back HST.out HT.out).1.1 j hlt
                rw [← newZ_Oz (Oz zs) (Pb ps) (Pb ms) j hlt, Pb_of hqk] at hsj
                generalize nO (Oz zs) (Pb ps) (Pb ms) j = o at cj hsj
                have ho : o + q.size ≤ T.size := by simpa using hsj.2.1
                generalize hq1 : T.extract o (o + q.size) = s1
                have hsl : ∀ wx, (Instr.slice 9 (.string T) (some (.int .i64 (o : Int))) (some (.int .i64 ((o : Int) + (q.size : Int)))) none).run Try.prog wx = .ok (.string s1) wx := fun wx => by
                  rw [run_slice_string wx 9 T .i64 .i64 o (o + q.size) Try.underlying9 (by omega) (by omega) (by omega), ← hq1]
                  rfl
                have heq : (s1.toList == q.toList) = true := by
                  rw [beq_iff_eq, Lib.toList_data, Lib.toList_data, ← hq1, Lib.extract_data, ← hsj.2.2]
                  simp
                have hjk : (j : Int) < (k : Int) := by omega
                clear hq1 hsj hqk
                go_wp2
                go_round
                case rel => exact ⟨j + 1, by omega, by go_num⟩
                case measure => simp [intOf]; omega
              · obtain rfl : j = k := by omega
                go_wp2_with fail
                refine (f14 T (some ⟨w5.heap.size, 0, none⟩) a3 a2 j j c3 c2 (newZ (Oz zs) (Pb ps) (Pb ms) j) ms ps _ hn HR.out HQ6.out HP6.out).mono ?_
                rintro e w6 ⟨rfl, hx, hb6⟩
                have HX2 : Hid _ := hx
                have HB6 : Hid (Below w.heap.size w w6) := (HB5.out.trans (HBL.out.mono HB5.out.size)).trans (hb6.mono (Nat.le_trans HB5.out.size HBL.out.size))
                clear hx hb6
                go_wp2_with fail
                have H15 := f15 (wr.heap.size + 1) j T (newZ (Oz zs) (Pb ps) (Pb ms) j) ms ps w6 HX2.out (stands_back HST.out HT.out).1 hn (by have h1 := HF.out; omega)
                rw [str_back src (stands_back HST.out HT.out).2] at H15
                refine H15.mono ?_
                clear H15
                rintro e w7 ⟨rfl, hb7⟩
                have HB7 : Hid (Below w.heap.size w w7) := HB6.out.trans (hb7.mono HB6.out.size)
                clear hb7
                go_wp2
                go_ret
                exact ⟨rfl, HB7.out⟩
end Go.Proofs.Qxb6618870a.Mt
