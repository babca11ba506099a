import Derived.Test.Qxb6618870aMtCopy
namespace Go.Proofs.Qxb6618870a.Mt
open Go.RowKit

theorem ExprAt.below {w w' : World} {eb n : Nat} {src : ByteArray} {zs : List Int} {ps ms : List ByteArray} (h : ExprAt w eb src n zs ps ms) (hb : Below w.heap.size w w') : ExprAt w' eb src n zs ps ms := by
  obtain ⟨ub, cs, hE, hU, hcs, huse⟩ := h
  exact ⟨ub, cs, (hb.block eb (ltOf hE)).trans hE, (hb.block ub (ltOf hU)).trans hU, hcs, huse⟩

theorem str_back (s : ByteArray) {l : List UInt8} (h : l = s.data.toList) : (⟨l.toArray⟩ : ByteArray) = s := by
  subst h; cases s; simp

theorem size_le_tot {ps : List ByteArray} {s : ByteArray} (h : s ∈ ps) {m : Nat} (hm : ps.length = m) : s.size ≤ tot (Pb ps) m := by
  obtain ⟨k, hk, rfl⟩ := List.getElem_of_mem h
  have h1 : ps[k]? = some ps[k] := by simp
  have h2 := tot_succ h1
  have h3 := tot_mono (M := Pb ps) (show k + 1 ≤ m by omega)
  omega

set_option maxRecDepth 100000 in
set_option maxHeartbeats 2000000 in
theorem f5 (src : ByteArray) (ao ap : Option Addr) (n m co cp : Nat) (zs : List Int) (ps : List ByteArray) (w : World) (hs : src.size ≤ maxLen) (hn : n ≤ maxLen) (hm : m ≤ maxLen)
    (hz : IntsIn w ao n zs) (hp : StrsIn w ap m ps) (lz : zs.length = n) (lp : ps.length = m) (hlen : ∀ s ∈ ps, s.size ≤ maxLen) (na : ao = none → n = 0) (np : ap = none → m = 0) :
    Calls Try.prog 5 #[.string src, .slice ao n co, .slice ap m cp] w fun e w' => e = .returned (.bool true) ∧ Below w.heap.size w w' := by
  have H11 := f11 src ao ap n m co cp ps w hs hn hm hp hlen
  have HZ : Hid (IntsIn w ao n zs) := hz
  have HP : Hid (StrsIn w ap m ps) := hp
  have LZ : Hid _ := lz
  have LP : Hid _ := lp
  have HL : Hid _ := hlen
  have NA : Hid _ := na
  have NP : Hid _ := np
  clear hz hp lz lp hlen hs hn hm na np
  go_enter Try.func5, Try.ntmps5
  go_wp2_with fail
  refine H11.mono ?_
  clear H11
  rintro e w' ⟨⟨b, rfl, hb⟩, hw⟩
  obtain rfl := hw.symm
  cases b
  · clear hb
    go_wp2
    go_ret
    exact ⟨rfl, Below.refl _ _⟩
  have hfit := hb rfl
  clear hb hw
  have HF : Hid _ := hfit
  unfold Fits at hfit
  have hs : src.size ≤ 1048576 := by omega
  have hn : n ≤ 1048576 := by omega
  have hm : m ≤ 1048576 := by omega
  have hl : ∀ s ∈ ps, s.size ≤ 1048576 := fun s h => by have := size_le_tot h LP.out; omega
  have HL2 : Hid (∀ s ∈ ps, s.size ≤ 1048576) := hl
  clear hl hfit
  go_wp2_with fail
  refine (f12 src ao ap none n m 0 co cp 0 ps [] w hs hn hm (by omega) HP.out HL2.out (fun _ h => by omega) (by simp)).mono ?_
  rintro e w' ⟨⟨b, rfl, hb⟩, hw⟩
  obtain rfl := hw.symm
  clear hb hw
  cases b
  rotate_left
  · go_wp2
    go_ret
    exact ⟨rfl, Below.refl _ _⟩
  by_cases hnm : n = m
  rotate_left
  · have hne : ((n : Int) == (m : Int)) = false := beq_eq_false_iff_ne.2 (by omega)
    go_wp2
    go_ret
    exact ⟨rfl, Below.refl _ _⟩
  subst hnm
  go_wp2_with fail
  refine (f13 src ao ap n n co cp zs ps w hs hn hn (Nat.le_refl _) HZ.out HP.out HL2.out).mono ?_
  rintro e w' ⟨⟨b, rfl, hb⟩, hw⟩
  obtain rfl := hw.symm
  cases b
  · clear hb
    go_wp2
    go_ret
    exact ⟨rfl, Below.refl _ _⟩
  have HST : Hid _ := hb rfl
  clear hb hw hm
  go_upto_if 30 with fail
  go_cut [1, 7] (fun s1 s7 wx => ∃ a1 c1, s1 = .slice a1 n c1 ∧ Hid (IntsIn wx a1 n zs) ∧ Below w.heap.size w wx)
  case first =>
    cases ao with
    | none =>
      go_wp2
      go_meet
      case rel => exact ⟨none, co, rfl, HZ.out, Below.refl _ _⟩
    | some ad =>
      have hmk := make27 n hn
      obtain ⟨W2, hrun, hin, hb2⟩ := copy27 w (some ad) co n zs HZ.out LZ.out
      have HI : Hid _ := hin
      have HB : Hid _ := hb2
      clear hin hb2
      go_wp2
      go_meet
      case rel => exact ⟨_, _, rfl, HI.out, HB.out⟩
  case rest =>
    rename World => w1
    obtain ⟨a1, c1, rfl, HZ1, hb1⟩ := hcut
    have HB1 : Hid _ := hb1
    have HP1 : Hid (StrsIn w1 ap n ps) := StrsIn.below HP.out hb1
    clear hb1
    go_upto_if 39 with fail
    go_cut [2, 8] (fun s2 s8 wx => ∃ a2 c2, s2 = .slice a2 n c2 ∧ Hid (StrsIn wx a2 n ps) ∧ Below w1.heap.size w1 wx)
    case first =>
      cases ap with
      | none =>
        go_wp2
        go_meet
        case rel => exact ⟨none, cp, rfl, HP1.out, Below.refl _ _⟩
      | some ad =>
        have hmk := make28 n hn
        obtain ⟨W2, hrun, hin, hb2⟩ := copy28 w1 (some ad) cp n ps HP1.out LP.out
        have HI : Hid _ := hin
        have HB : Hid _ := hb2
        clear hin hb2
        go_wp2
        go_meet
        case rel => exact ⟨_, _, rfl, HI.out, HB.out⟩
    case rest =>
      rename World => wd
      obtain ⟨a2, c2, rfl, HP2, hb2⟩ := hcut
      have HZ2 : Hid (IntsIn wd a1 n zs) := IntsIn.below HZ1.out hb2
      have HB2 : Hid _ := HB1.out.trans (hb2.mono HB1.out.size)
      clear hb2
      go_wp2_with fail
      refine (f14 src a1 a2 a2 n c1 c2 c2 zs ps ps _ hn HZ2.out HP2.out HP2.out).mono ?_
      rintro e w3 ⟨rfl, hx, hb3⟩
      have HX : Hid _ := hx
      have HB3 : Hid _ := HB2.out.trans (hb3.mono HB2.out.size)
      clear hx hb3
      go_wp2_with fail
      have H15 := f15 (wd.heap.size + 1) n src zs ps ps w3 HX.out HST.out hn (by have h1 : Fits _ := HF.out; unfold Fits at h1; omega)
      rw [str_back src (mt_self HST.out.1)] at H15
      refine H15.mono ?_
      clear H15
      rintro e w4 ⟨rfl, hb4⟩
      have HX4 : Hid (ExprAt w4 (wd.heap.size + 1) src n zs ps ps) := ExprAt.below HX.out hb4
      have HB4 : Hid _ := HB3.out.trans (hb4.mono HB3.out.size)
      clear hb4
      go_wp2_with (go_at_call 16; refine (f16 (wd.heap.size + 1) n src zs ps ps _ (by exact HX4.out)).mono ?_; rintro e w5 ⟨rfl, hw5⟩; obtain rfl := hw5.symm)
      go_ret
      exact ⟨rfl, HB4.out⟩
end Go.Proofs.Qxb6618870a.Mt
