/-
  FnNewTrafficSwappedMirrorsRows: WALKED.
-/
import Derived.Test.Qxb6618884aNtView
import Derived.Test.Qxb6618884aNtMirror
import Derived.Deep.CutRange
import Derived.Deep.CutBlock
namespace Go.Proofs.Qxb6618884a.Nt
open Go.RowKit

/-- The law's answer. -/
def Yes (w : World) (e : Ending) (w' : World) : Prop := e = .returned (.bool true) ∧ Below w.heap.size w w'

theorem f11g (ar : Option Addr) (n c : Nat) (w : World) :
    Calls Try.prog 11 #[.slice ar n c] w fun e w' => ∃ m, e = .returned (.pointer (some ⟨m, 0, none⟩)) ∧ MapAt w' m (.slice ar n c) ∧ Below w.heap.size w w' :=
  (f11 ar n c w).mono fun _ _ ⟨he, hi, hb⟩ => ⟨_, he, hi, hb⟩

/-- A Traffic from A to B, U its devices: what lies in memory. -/
def One (w : World) (A B U : List Dv) (tb kb : Nat) (ar : Option Addr) (cr g1 g2 g3 g4 o : Nat) : Prop :=
  TCells w tb kb ar cr g1 g2 g3 g4 A.length B.length U.length ∧ OnAt w kb o A.length ∧ DevsIn w ar U ∧ IntsAt w g1 (A.map fun d => ix U (nk d)) ∧ IntsAt w g2 (B.map fun d => ix U (nk d)) ∧ IntsAt w o (A.map fun d => ix B (nk d))
theorem One.below {w w' : World} {A B U : List Dv} {tb kb : Nat} {ar : Option Addr} {cr g1 g2 g3 g4 o : Nat} (h : One w A B U tb kb ar cr g1 g2 g3 g4 o) (hb : Below w.heap.size w w') : One w' A B U tb kb ar cr g1 g2 g3 g4 o := by
  obtain ⟨h1, h2, h3, h4, h5, h6⟩ := h
  exact ⟨h1.below hb, h2.below hb, h3.below hb, h4.below hb, h5.below hb, h6.below hb⟩
theorem TrafficAt.one {w : World} {tb fm tm : Nat} {fs ts U : List Dv} (h : TrafficAt w tb fm tm fs ts U) : ∃ kb ar cr g1 g2 g3 g4 o, One w fs ts U tb kb ar cr g1 g2 g3 g4 o := by
  obtain ⟨cb, ar, cr, g1, g2, g3, g4, h1, ⟨p1, p2, g, k1, _, _, k4⟩, h3, h4, h5, _⟩ := h
  exact ⟨cb, ar, cr, g1, g2, g3, g4, g, h1, ⟨_, k1, rfl⟩, h3, h4.ints, h5.ints, k4.ints⟩

set_option maxRecDepth 100000 in
set_option maxHeartbeats 4000000 in
theorem f6 (aa ab : Option Addr) (ca cb : Nat) (A B : List Dv) (w : World) (ha : DevsIn w aa A) (hb : DevsIn w ab B) (fa : Fair A) (fb : Fair B) (na : aa = none → A = []) (nb : ab = none → B = []) :
    Calls Try.prog 6 #[.slice aa A.length ca, .slice ab B.length cb] w fun e w' => Yes w e w' := by
  have DA : Hid (DevsIn w aa A) := ha
  have DB : Hid (DevsIn w ab B) := hb
  have FA : Hid (Fair A) := fa
  have FB : Hid (Fair B) := fb
  have NA : Hid (aa = none → A = []) := na
  have NB : Hid (ab = none → B = []) := nb
  clear ha hb fa fb na nb
  go_enter Try.func6, Try.ntmps6
  go_wp2_with fail
  refine (f26 aa ab ca cb A B w DA.out DB.out FA.out FB.out).mono ?_
  rintro e w1 ⟨⟨b, rfl, hans⟩, rfl⟩
  cases b
  · go_wp2
    go_ret
    exact ⟨rfl, Below.refl _ _⟩
  obtain ⟨sa, sb⟩ := hans rfl
  have SA : Hid (Small A) := sa
  have SB : Hid (Small B) := sb
  have la := sa.1
  have lb := sb.1
  clear hans sa sb
  go_wp2_with fail
  refine (f9 aa ca A 0 _ DA.out SA.out (by omega) (by omega)).mono ?_
  rintro e w2 ⟨⟨s, hs0, hs, rfl⟩, rfl⟩
  go_wp2_with fail
  refine (f9 ab cb B s _ DB.out SB.out hs0 hs).mono ?_
  rintro e w3 ⟨⟨t, ht0, ht, rfl⟩, rfl⟩
  by_cases h1 : t > 1048576
  · go_wp2
    go_ret
    exact ⟨rfl, Below.refl _ _⟩
  go_wp2_with fail
  refine (f10 aa ca A _ DA.out SA.out).mono ?_
  rintro e w4 ⟨⟨b, rfl, h2⟩, hb4⟩
  have HB4 : Hid (Below _ _ w4) := hb4
  cases b
  · clear hb4 h2
    go_wp2
    go_ret
    exact ⟨rfl, HB4.out⟩
  have AA : Hid (Asc A) := Asc.of (h2 rfl)
  have DB4 : Hid (DevsIn w4 ab B) := DB.out.below hb4
  clear h2 hb4
  go_wp2_with fail
  refine (f10 ab cb B _ DB4.out SB.out).mono ?_
  rintro e w5 ⟨⟨b, rfl, h2⟩, hb5⟩
  have HB5 : Hid (Below _ _ w5) := kept_trans HB4.out hb5
  cases b
  · clear hb5 h2
    go_wp2
    go_ret
    exact ⟨rfl, HB5.out⟩
  have AB : Hid (Asc B) := Asc.of (h2 rfl)
  have DA5 : Hid (DevsIn w5 aa A) := DA.out.below HB5.out
  clear h2 hb5
  go_wp2_with fail
  refine (f12 aa ca A _ DA5.out NA.out la).mono ?_
  rintro e w6 ⟨⟨a1, c1, rfl, d1, p1⟩, hb6⟩
  have D1 : Hid (DevsIn w6 a1 A) := d1
  have P1 : Hid (Plain a1 A) := p1
  have HB6 : Hid (Below _ _ w6) := kept_trans HB5.out hb6
  clear d1 p1 hb6
  go_wp2_with fail
  refine (f11g a1 A.length c1 w6).mono ?_
  rintro e w7 ⟨fm, rfl, m1, hb7⟩
  have M1 : Hid (MapAt w7 fm (.slice a1 A.length c1)) := m1
  have D17 : Hid (DevsIn w7 a1 A) := D1.out.below hb7
  have HB7 : Hid (Below _ _ w7) := kept_trans HB6.out hb7
  clear m1 hb7
  have DB7 : Hid (DevsIn w7 ab B) := DB.out.below HB7.out
  go_wp2_with fail
  refine (f12 ab cb B _ DB7.out NB.out lb).mono ?_
  rintro e w8 ⟨⟨a2, c2, rfl, d2, p2⟩, hb8⟩
  have D2 : Hid (DevsIn w8 a2 B) := d2
  have P2 : Hid (Plain a2 B) := p2
  have M18 : Hid (MapAt w8 fm (.slice a1 A.length c1)) := M1.out.below hb8
  have D18 : Hid (DevsIn w8 a1 A) := D17.out.below hb8
  have HB8 : Hid (Below _ _ w8) := kept_trans HB7.out hb8
  clear d2 p2 hb8
  go_wp2_with fail
  refine (f11g a2 B.length c2 w8).mono ?_
  rintro e w9 ⟨tm, rfl, m2, hb9⟩
  have M2 : Hid (MapAt w9 tm (.slice a2 B.length c2)) := m2
  have D29 : Hid (DevsIn w9 a2 B) := D2.out.below hb9
  have M19 : Hid (MapAt w9 fm (.slice a1 A.length c1)) := M18.out.below hb9
  have D19 : Hid (DevsIn w9 a1 A) := D18.out.below hb9
  have HB9 : Hid (Below _ _ w9) := kept_trans HB8.out hb9
  clear m2 hb9
  go_wp2_with fail
  refine (f13 fm tm a1 a2 c1 c2 A B w9 M19.out M2.out D19.out D29.out P2.out AA.out AB.out la lb).mono ?_
  rintro e w10 ⟨⟨tb1, U1, rfl, hu1, ht1⟩, hb10⟩
  obtain ⟨kb1, ar1, cr1, f1, t1, g31, g41, o1, hone1⟩ := ht1.one
  have HU1 : Hid (IsUnion B A U1) := hu1
  have T1 : Hid (One w10 A B U1 tb1 kb1 ar1 cr1 f1 t1 g31 g41 o1) := hone1
  have M1a : Hid (MapAt w10 fm (.slice a1 A.length c1)) := M19.out.below hb10
  have M2a : Hid (MapAt w10 tm (.slice a2 B.length c2)) := M2.out.below hb10
  have D1a : Hid (DevsIn w10 a1 A) := D19.out.below hb10
  have D2a : Hid (DevsIn w10 a2 B) := D29.out.below hb10
  have HB10 : Hid (Below _ _ w10) := kept_trans HB9.out hb10
  clear hu1 ht1 hone1 hb10
  go_wp2_with fail
  refine (f13 tm fm a2 a1 c2 c1 B A w10 M2a.out M1a.out D2a.out D1a.out P1.out AB.out AA.out lb la).mono ?_
  rintro e w11 ⟨⟨tb2, U2, rfl, hu2, ht2⟩, hb11⟩
  obtain ⟨kb2, ar2, cr2, f2, t2, g32, g42, o2, hone2⟩ := ht2.one
  have HU2 : Hid (IsUnion A B U2) := hu2
  have T2 : Hid (One w11 B A U2 tb2 kb2 ar2 cr2 f2 t2 g32 g42 o2) := hone2
  have T1a : Hid (One w11 A B U1 tb1 kb1 ar1 cr1 f1 t1 g31 g41 o1) := T1.out.below hb11
  have HB11 : Hid (Below _ _ w11) := kept_trans HB10.out hb11
  clear hu2 ht2 hone2 hb11
  clear M1 M2 M1a M2a D1a D2a M18 M19 D1 D2 D17 D18 D19 D29 P1 P2 HB10 HB9 HB8 HB7 HB6 HB5 HB4 DB4 DA5 DB7 T1
  have DA6 : Hid (DevsIn w11 aa A) := DA.out.below HB11.out
  have DB6 : Hid (DevsIn w11 ab B) := DB.out.below HB11.out
  go_upto_block 0 with fail
  go_cut [11] from 65 to 104 (fun s11 wx => s11 = .int .i64 (comm A B : Nat) ∧ Hid (Below w11.heap.size w11 wx))
  case first =>
    go_wp2_with fail
    go_loopw [11, 12, 13] (fun s11 s12 s13 wr => ∃ (c i j : Nat), s11 = .int .i64 c ∧ s12 = .int .i64 i ∧ s13 = .int .i64 j ∧ i ≤ A.length ∧ j ≤ B.length ∧ c ≤ i ∧ Hid (c + left A B i j = comm A B) ∧ Hid (Below w11.heap.size w11 wr)) (fun _ s12 s13 _ => A.length + B.length - ((intOf s12).toNat + (intOf s13).toNat))
    case atStart => exact ⟨0, 0, 0, rfl, rfl, rfl, by omega, by omega, by omega, (show _ = _ by rw [left_all]; omega), Below.refl _ _⟩
    case round =>
      obtain ⟨c, i, j, rfl, rfl, rfl, hi, hj, hc, HL, HB⟩ := hrel
      by_cases hlt : i < A.length
      · by_cases hlt2 : j < B.length
        · obtain ⟨d, hd⟩ := at_of hlt
          obtain ⟨e, he⟩ := at_of hlt2
          obtain ⟨b1, off1, rfl, hb1, q1, _, _⟩ := DA6.out i d hd
          obtain ⟨b2, off2, rfl, hb2, q2, _, _⟩ := DB6.out j e he
          have r1 : wr.cell? ⟨b1, off1 + i * 3, none⟩ = some (.string d.nm) := (HB.out.cell (p := ⟨b1, off1 + i * 3, none⟩) hb1).trans q1
          have r2 : wr.cell? ⟨b2, off2 + j * 3, none⟩ = some (.string e.nm) := (HB.out.cell (p := ⟨b2, off2 + j * 3, none⟩) hb2).trans q2
          have HD : Hid (A[i]? = some d) := hd
          have HE : Hid (B[j]? = some e) := he
          clear hd he q1 q2
          have hi0 : (0 : Int) ≤ (i : Int) := by omega
          have hj0 : (0 : Int) ≤ (j : Int) := by omega
          have hi1 : (i : Int) < (A.length : Int) := by omega
          have hj1 : (j : Int) < (B.length : Int) := by omega
          by_cases hn : nk d = nk e
          · have heq : (d.nm.toList == e.nm.toList) = true := by rw [beq_iff_eq, nk_toList, nk_toList]; exact hn
            have HL2 : Hid (c + 1 + left A B (i + 1) (j + 1) = comm A B) := by have h1 := HL.out; have h2 := left_eq AA.out HD.out HE.out hn; exact (show _ = _ by omega)
            clear hn
            go_wp2
            go_quiet (fail)
            go_wp2
            go_roundw
            case rel => exact ⟨c + 1, i + 1, j + 1, by go_num, by go_num, by go_num, by omega, by omega, by omega, HL2, below_drewN HB.out _⟩
            case measure => simp [intOf]; omega
          · have heq : (d.nm.toList == e.nm.toList) = false := by rw [beq_eq_false_iff_ne, nk_toList, nk_toList]; exact hn
            have HN : Hid (¬ nk d = nk e) := hn
            clear hn
            cases hl : Op.bytesLess d.nm.toList e.nm.toList
            · have HL2 : Hid (c + left A B i (j + 1) = comm A B) := by have h1 := HL.out; have h2 := left_gt AA.out HD.out HE.out HN.out (by rw [← nk_toList, ← nk_toList]; exact hl); exact (show _ = _ by omega)
              go_wp2
              go_quiet (fail)
              go_wp2
              go_quiet (fail)
              go_wp2
              go_roundw
              case rel => exact ⟨c, i, j + 1, by go_num, by go_num, by go_num, by omega, by omega, by omega, HL2, below_drewN HB.out _⟩
              case measure => simp [intOf]; omega
            · have HL2 : Hid (c + left A B (i + 1) j = comm A B) := by have h1 := HL.out; have h2 := left_lt AB.out HD.out HE.out (by rw [← nk_toList, ← nk_toList]; exact hl); exact (show _ = _ by omega)
              go_wp2
              go_quiet (fail)
              go_wp2
              go_quiet (fail)
              go_wp2
              go_roundw
              case rel => exact ⟨c, i + 1, j, by go_num, by go_num, by go_num, by omega, by omega, by omega, HL2, below_drewN HB.out _⟩
              case measure => simp [intOf]; omega
        · have hcc : c = comm A B := by have h1 := HL.out; rw [left_end (by omega)] at h1; omega
          subst hcc
          go_wp2
          go_meet
          case rel => exact ⟨rfl, HB⟩
      · have hcc : c = comm A B := by have h1 := HL.out; rw [left_end (by omega)] at h1; omega
        subst hcc
        go_wp2
        go_meet
        case rel => exact ⟨rfl, HB⟩
  case rest =>
    obtain ⟨rfl, HBc⟩ := hcut
    have HB12 : Hid (Below _ _ wc) := kept_trans HB11.out HBc.out
    have T12 : Hid (One wc A B U1 tb1 kb1 ar1 cr1 f1 t1 g31 g41 o1) := T1a.out.below HBc.out
    have T22 : Hid (One wc B A U2 tb2 kb2 ar2 cr2 f2 t2 g32 g42 o2) := T2.out.below HBc.out
    have DA7 : Hid (DevsIn wc aa A) := DA6.out.below HBc.out
    have DB7 : Hid (DevsIn wc ab B) := DB6.out.below HBc.out
    have HNM : Hid (U1.map nk = U2.map nk) := names_eq HU1.out HU2.out
    have hL2 : U2.length = U1.length := by simpa using (congrArg List.length HNM.out).symm
    have hL1 : A.length + B.length = U1.length + comm A B := by have := len_union HU1.out; omega
    have hcl := comm_le A B
    have HCA : Hid (commTo A B A.length = comm A B) := comm_all A B
    have HCB : Hid (commTo B A B.length = comm A B) := (comm_all B A).trans (comm_symm HU1.out HU2.out)
    clear HBc T1a T2 DA6 DB6 HB11
    generalize comm A B = cm at *
    generalize wc = w12 at *
    go_wp2_with fail
    refine (f14 T12.out.1).mono ?_
    rintro e w13 ⟨rfl, rfl⟩
    go_wp2_with fail
    refine (f14 T22.out.1).mono ?_
    rintro e w14 ⟨rfl, rfl⟩
    rw [hL2]
    have hnn : ((A.length : Int) + (B.length : Int) - (cm : Int)) = (U1.length : Int) := by omega
    go_upto_block 0 with fail
    go_wp2_with fail
    go_loopw [17] (fun s17 wr => ∃ (k : Nat), s17 = .int .i64 k ∧ k ≤ U1.length ∧ Hid (Below w14.heap.size w14 wr)) (fun s17 _ => U1.length - (intOf s17).toNat)
    case atStart => exact ⟨0, rfl, by omega, Below.refl _ _⟩
    case round =>
      obtain ⟨k, rfl, hk, HB⟩ := hrel
      by_cases hlt : k < U1.length
      · obtain ⟨d, hd⟩ := at_of hlt
        obtain ⟨e, he⟩ := at_of (show k < U2.length by omega)
        obtain ⟨b1, off1, rfl, hb1, q1, _, _⟩ := T12.out.2.2.1 k d hd
        obtain ⟨b2, off2, rfl, hb2, q2, _, _⟩ := T22.out.2.2.1 k e he
        have r1 : wr.cell? ⟨b1, off1 + k * 3, none⟩ = some (.string d.nm) := (HB.out.cell (p := ⟨b1, off1 + k * 3, none⟩) hb1).trans q1
        have r2 : wr.cell? ⟨b2, off2 + k * 3, none⟩ = some (.string e.nm) := (HB.out.cell (p := ⟨b2, off2 + k * 3, none⟩) hb2).trans q2
        have hn : nk d = nk e := same_name HNM.out hd he
        have heq : (d.nm.toList == e.nm.toList) = true := by rw [beq_iff_eq, nk_toList, nk_toList]; exact hn
        have hne : (d.nm.toList != e.nm.toList) = false := by rw [bne, heq]; rfl
        clear hn
        have hk0 : (0 : Int) ≤ (k : Int) := by omega
        have hk1 : (k : Int) < (U1.length : Int) := by omega
        cases k with
        | zero =>
          clear hd he q1 q2
          simp only [Nat.zero_mul, Nat.add_zero, Int.ofNat_zero] at *
          go_wp2
          go_quiet (fail)
          go_wp2
          go_quiet (fail)
          go_wp2
          go_roundw
          case rel => exact ⟨1, by go_num, by omega, below_drewN HB.out _⟩
          case measure => simp [intOf]; omega
        | succ m =>
          obtain ⟨x, hx⟩ := at_of (show m < U1.length by omega)
          obtain ⟨b3, off3, hao, hb3, q3, _, _⟩ := T12.out.2.2.1 m x hx
          simp only [Option.some.injEq, Addr.mk.injEq] at hao
          obtain ⟨rfl, rfl, _⟩ := hao
          have r3 : wr.cell? ⟨b1, off1 + m * 3, none⟩ = some (.string x.nm) := (HB.out.cell (p := ⟨b1, off1 + m * 3, none⟩) hb3).trans q3
          have hl : Op.bytesLess x.nm.toList d.nm.toList = true := by rw [nk_toList, nk_toList]; exact HU1.out.1 m (m + 1) x d (by omega) hx hd
          have hm1 : (m : Int) < (U1.length : Int) := by omega
          have hm2 : (m : Int) + 1 < (U1.length : Int) := by omega
          clear hd he hx q1 q2 q3
          go_wp2
          go_quiet (fail)
          go_wp2
          go_quiet (fail)
          go_wp2
          go_roundw
          case rel => exact ⟨m + 1 + 1, by go_num, by omega, below_drewN HB.out _⟩
          case measure => simp [intOf]; omega
      · obtain rfl : k = U1.length := by omega
        have HB15 : Hid (Below _ _ wr) := kept_trans HB12.out HB.out
        have T15 : Hid (One wr A B U1 tb1 kb1 ar1 cr1 f1 t1 g31 g41 o1) := T12.out.below HB.out
        have T25 : Hid (One wr B A U2 tb2 kb2 ar2 cr2 f2 t2 g32 g42 o2) := T22.out.below HB.out
        have DA8 : Hid (DevsIn wr aa A) := DA7.out.below HB.out
        have DB8 : Hid (DevsIn wr ab B) := DB7.out.below HB.out
        clear HB T12 T22 DA7 DB7 HB12 hlt hk
        generalize wr = w15 at *
        go_wp2_with fail
        refine (f17 T15.out.1).mono ?_
        rintro e w16 ⟨rfl, rfl⟩
        go_wp2_with fail
        refine (f18 T15.out.1).mono ?_
        rintro e w17 ⟨rfl, rfl⟩
        go_wp2_with fail
        refine (f17 T25.out.1).mono ?_
        rintro e w18 ⟨rfl, rfl⟩
        go_wp2_with fail
        refine (f18 T25.out.1).mono ?_
        rintro e w19 ⟨rfl, rfl⟩
        go_wp2_with fail
        have e1 : (A.map fun d => ix U2 (nk d)) = A.map fun d => ix U1 (nk d) := List.map_congr_left fun d _ => (ix_congr HNM.out (nk d)).symm
        have e2 : (B.map fun d => ix U2 (nk d)) = B.map fun d => ix U1 (nk d) := List.map_congr_left fun d _ => (ix_congr HNM.out (nk d)).symm
        refine (f16 f1 t2 A.length (A.map fun d => ix U1 (nk d)) _ (by simp) T15.out.2.2.2.1 (by rw [← e1]; exact T25.out.2.2.2.2.1) (by omega)).mono ?_
        rintro e w20 ⟨rfl, hb20⟩
        have T16 : Hid (One w20 A B U1 tb1 kb1 ar1 cr1 f1 t1 g31 g41 o1) := T15.out.below hb20
        have T26 : Hid (One w20 B A U2 tb2 kb2 ar2 cr2 f2 t2 g32 g42 o2) := T25.out.below hb20
        have HB20 : Hid (Below _ _ w20) := kept_trans HB15.out hb20
        have DA9 : Hid (DevsIn w20 aa A) := DA8.out.below hb20
        have DB9 : Hid (DevsIn w20 ab B) := DB8.out.below hb20
        clear hb20
        go_wp2_with fail
        refine (f16 t1 f2 B.length (B.map fun d => ix U1 (nk d)) _ (by simp) T16.out.2.2.2.2.1 (by rw [← e2]; exact T26.out.2.2.2.1) (by omega)).mono ?_
        rintro e w21 ⟨rfl, hb21⟩
        have T17 : Hid (One w21 A B U1 tb1 kb1 ar1 cr1 f1 t1 g31 g41 o1) := T16.out.below hb21
        have T27 : Hid (One w21 B A U2 tb2 kb2 ar2 cr2 f2 t2 g32 g42 o2) := T26.out.below hb21
        have HB21 : Hid (Below _ _ w21) := kept_trans HB20.out hb21
        have DA10 : Hid (DevsIn w21 aa A) := DA9.out.below hb21
        have DB10 : Hid (DevsIn w21 ab B) := DB9.out.below hb21
        clear hb21 e1 e2 T15 T25 T16 T26 HB15 HB20 DA8 DA9 DB8 DB9
        go_upto_block 0 with fail
        go_wp2_with fail
        go_loopw [12] (fun s12 wr => ∃ (k : Nat), s12 = .int .i64 k ∧ k ≤ A.length ∧ Hid (Below w21.heap.size w21 wr)) (fun s12 _ => A.length - (intOf s12).toNat)
        case atStart => exact ⟨0, rfl, by omega, Below.refl _ _⟩
        case round =>
          obtain ⟨k, rfl, hk, HB⟩ := hrel
          by_cases hlt : k < A.length
          · obtain ⟨d, hd⟩ := at_of hlt
            obtain ⟨p, e, he, hn, hix⟩ := ix_mem ((mem_union HU1.out (nk d)).2 (.inr (mem_of_at hd)))
            obtain ⟨b1, off1, rfl, hb1, q1, _, _⟩ := T17.out.2.2.1 p e he
            obtain ⟨b2, off2, rfl, hb2, q2, _, _⟩ := DA10.out k d hd
            have r1 : wr.cell? ⟨b1, off1 + p * 3, none⟩ = some (.string e.nm) := (HB.out.cell (p := ⟨b1, off1 + p * 3, none⟩) hb1).trans q1
            have r2 : wr.cell? ⟨b2, off2 + k * 3, none⟩ = some (.string d.nm) := (HB.out.cell (p := ⟨b2, off2 + k * 3, none⟩) hb2).trans q2
            have r3 : wr.cell? ⟨f1, k, none⟩ = some (.int .i64 (p : Int)) := (HB.out.cell (p := ⟨f1, k, none⟩) T17.out.2.2.2.1.lt).trans (T17.out.2.2.2.1.cell (by simp [hd, hix]))
            have heq : (e.nm.toList == d.nm.toList) = true := by rw [beq_iff_eq, nk_toList, nk_toList]; exact hn
            have hne : (e.nm.toList != d.nm.toList) = false := by rw [bne, heq]; rfl
            have hpl : p < U1.length := (List.getElem?_eq_some_iff.1 he).1
            clear hn hix hd he q1 q2
            have hk0 : (0 : Int) ≤ (k : Int) := by omega
            have hk1 : (k : Int) < (A.length : Int) := by omega
            have hp0 : (0 : Int) ≤ (p : Int) := by omega
            have hp1 : (p : Int) < (U1.length : Int) := by omega
            have hp2 : decide ((p : Int) < 0) = false := decide_eq_false (by omega)
            have hp3 : decide ((U1.length : Int) ≤ (p : Int)) = false := decide_eq_false (by omega)
            go_wp2
            go_quiet (fail)
            go_wp2
            go_roundw
            case rel => exact ⟨k + 1, by go_num, by omega, below_drewN HB.out _⟩
            case measure => simp [intOf]; omega
          · obtain rfl : k = A.length := by omega
            have HB22 : Hid (Below _ _ wr) := kept_trans HB21.out HB.out
            have T18 : Hid (One wr A B U1 tb1 kb1 ar1 cr1 f1 t1 g31 g41 o1) := T17.out.below HB.out
            have T28 : Hid (One wr B A U2 tb2 kb2 ar2 cr2 f2 t2 g32 g42 o2) := T27.out.below HB.out
            have DA11 : Hid (DevsIn wr aa A) := DA10.out.below HB.out
            have DB11 : Hid (DevsIn wr ab B) := DB10.out.below HB.out
            clear HB T17 T27 DA10 DB10 HB21 hlt hk
            generalize wr = w22 at *
            go_upto_block 0 with fail
            go_wp2_with fail
            go_loopw [13] (fun s13 wr => ∃ (k : Nat), s13 = .int .i64 k ∧ k ≤ B.length ∧ Hid (Below w22.heap.size w22 wr)) (fun s13 _ => B.length - (intOf s13).toNat)
            case atStart => exact ⟨0, rfl, by omega, Below.refl _ _⟩
            case round =>
              obtain ⟨k, rfl, hk, HB⟩ := hrel
              by_cases hlt : k < B.length
              · obtain ⟨d, hd⟩ := at_of hlt
                obtain ⟨p, e, he, hn, hix⟩ := ix_mem ((mem_union HU1.out (nk d)).2 (.inl (mem_of_at hd)))
                obtain ⟨b1, off1, rfl, hb1, q1, _, _⟩ := T18.out.2.2.1 p e he
                obtain ⟨b2, off2, rfl, hb2, q2, _, _⟩ := DB11.out k d hd
                have r1 : wr.cell? ⟨b1, off1 + p * 3, none⟩ = some (.string e.nm) := (HB.out.cell (p := ⟨b1, off1 + p * 3, none⟩) hb1).trans q1
                have r2 : wr.cell? ⟨b2, off2 + k * 3, none⟩ = some (.string d.nm) := (HB.out.cell (p := ⟨b2, off2 + k * 3, none⟩) hb2).trans q2
                have r3 : wr.cell? ⟨t1, k, none⟩ = some (.int .i64 (p : Int)) := (HB.out.cell (p := ⟨t1, k, none⟩) T18.out.2.2.2.2.1.lt).trans (T18.out.2.2.2.2.1.cell (by simp [hd, hix]))
                have heq : (e.nm.toList == d.nm.toList) = true := by rw [beq_iff_eq, nk_toList, nk_toList]; exact hn
                have hne : (e.nm.toList != d.nm.toList) = false := by rw [bne, heq]; rfl
                have hpl : p < U1.length := (List.getElem?_eq_some_iff.1 he).1
                clear hn hix hd he q1 q2
                have hk0 : (0 : Int) ≤ (k : Int) := by omega
                have hk1 : (k : Int) < (B.length : Int) := by omega
                have hp0 : (0 : Int) ≤ (p : Int) := by omega
                have hp1 : (p : Int) < (U1.length : Int) := by omega
                have hp2 : decide ((p : Int) < 0) = false := decide_eq_false (by omega)
                have hp3 : decide ((U1.length : Int) ≤ (p : Int)) = false := decide_eq_false (by omega)
                go_wp2
                go_quiet (fail)
                go_wp2
                go_roundw
                case rel => exact ⟨k + 1, by go_num, by omega, below_drewN HB.out _⟩
                case measure => simp [intOf]; omega
              · obtain rfl : k = B.length := by omega
                have HB23 : Hid (Below _ _ wr) := kept_trans HB22.out HB.out
                have T19 : Hid (One wr A B U1 tb1 kb1 ar1 cr1 f1 t1 g31 g41 o1) := T18.out.below HB.out
                have T29 : Hid (One wr B A U2 tb2 kb2 ar2 cr2 f2 t2 g32 g42 o2) := T28.out.below HB.out
                have DA12 : Hid (DevsIn wr aa A) := DA11.out.below HB.out
                have DB12 : Hid (DevsIn wr ab B) := DB11.out.below HB.out
                clear HB T18 T28 DA11 DB11 HB22 hlt hk
                generalize wr = w23 at *
                go_wp2_with fail
                refine (f19 T19.out.1 T19.out.2.1).mono ?_
                rintro e w24 ⟨rfl, rfl⟩
                go_wp2_with fail
                refine (f19 T29.out.1 T29.out.2.1).mono ?_
                rintro e w25 ⟨rfl, rfl⟩
                go_upto_block 0 with fail
                go_wp2_with fail
                go_loopw [12, 24] (fun s12 s24 wr => ∃ (k m : Nat), s12 = .int .i64 k ∧ s24 = .int .i64 m ∧ m ≤ k ∧ k ≤ A.length ∧ Hid (m = commTo A B k) ∧ Hid (Below w25.heap.size w25 wr)) (fun s12 _ _ => A.length - (intOf s12).toNat)
                case atStart => exact ⟨0, 0, rfl, rfl, by omega, by omega, (show _ = _ from rfl), Below.refl _ _⟩
                case round =>
                  obtain ⟨k, m, rfl, rfl, hmk, hk, HM, HB⟩ := hrel
                  by_cases hlt : k < A.length
                  · obtain ⟨d, hd⟩ := at_of hlt
                    have hk0 : (0 : Int) ≤ (k : Int) := by omega
                    have hk1 : (k : Int) < (A.length : Int) := by omega
                    have hO := (HB.out.cell (p := ⟨o1, k, none⟩) T19.out.2.2.2.2.2.lt).trans (T19.out.2.2.2.2.2.cell (show _ = some (ix B (nk d)) by simp [hd]))
                    rcases ix_cases B (nk d) with ⟨p, e, he, hn, hix⟩ | ⟨_, hix⟩
                    · have HM2 : Hid (m + 1 = commTo A B (k + 1)) := by have h1 := HM.out; have h2 := comm_yes (B := B) hd (by omega); exact (show _ = _ by omega)
                      have hback : ix A (nk e) = (k : Int) := ix_at AA.out hd hn.symm
                      have hO2 := (HB.out.cell (p := ⟨o2, p, none⟩) T29.out.2.2.2.2.2.lt).trans (T29.out.2.2.2.2.2.cell (show _ = some (ix A (nk e)) by simp [he]))
                      rw [hix] at hO
                      rw [hback] at hO2
                      obtain ⟨b1, off1, rfl, hb1, q1, _, _⟩ := DB12.out p e he
                      obtain ⟨b2, off2, rfl, hb2, q2, _, _⟩ := DA12.out k d hd
                      have r1 : wr.cell? ⟨b1, off1 + p * 3, none⟩ = some (.string e.nm) := (HB.out.cell (p := ⟨b1, off1 + p * 3, none⟩) hb1).trans q1
                      have r2 : wr.cell? ⟨b2, off2 + k * 3, none⟩ = some (.string d.nm) := (HB.out.cell (p := ⟨b2, off2 + k * 3, none⟩) hb2).trans q2
                      have heq : (e.nm.toList == d.nm.toList) = true := by rw [beq_iff_eq, nk_toList, nk_toList]; exact hn
                      have hne : (e.nm.toList != d.nm.toList) = false := by rw [bne, heq]; rfl
                      have hpl : p < B.length := (List.getElem?_eq_some_iff.1 he).1
                      clear hn hix hd he q1 q2 hback
                      have hp0 : (0 : Int) ≤ (p : Int) := by omega
                      have hp1 : (p : Int) < (B.length : Int) := by omega
                      have hp2 : decide ((p : Int) < -1) = false := decide_eq_false (by omega)
                      have hp3 : decide ((B.length : Int) ≤ (p : Int)) = false := decide_eq_false (by omega)
                      go_wp2
                      go_quiet (fail)
                      go_wp2
                      go_roundw
                      case rel => exact ⟨k + 1, m + 1, by go_num, by go_num, by omega, by omega, HM2, below_drewN HB.out _⟩
                      case measure => simp [intOf]; omega
                    · have HM2 : Hid (m = commTo A B (k + 1)) := by have h1 := HM.out; have h2 := comm_no (B := B) hd (by omega); exact (show _ = _ by omega)
                      rw [hix] at hO
                      clear hix hd
                      go_wp2
                      go_roundw
                      case rel => exact ⟨k + 1, m, by go_num, by go_num, by omega, by omega, HM2, HB⟩
                      case measure => simp [intOf]; omega
                  · obtain rfl : k = A.length := by omega
                    have hm : m = cm := HM.out.trans HCA.out
                    subst hm
                    have HB26 : Hid (Below _ _ wr) := kept_trans HB23.out HB.out
                    have T2a : Hid (IntsAt wr o2 (B.map fun d => ix A (nk d))) := T29.out.2.2.2.2.2.below HB.out
                    clear HB HM T19 T29 DA12 DB12 HB23 hlt hk hmk
                    generalize wr = w26 at *
                    go_upto_block 0 with fail
                    go_wp2_with fail
                    go_loopw [13, 25] (fun s13 s25 wr => ∃ (k n : Nat), s13 = .int .i64 k ∧ s25 = .int .i64 n ∧ n ≤ k ∧ k ≤ B.length ∧ Hid (n = commTo B A k) ∧ Hid (Below w26.heap.size w26 wr)) (fun s13 _ _ => B.length - (intOf s13).toNat)
                    case atStart => exact ⟨0, 0, rfl, rfl, by omega, by omega, (show _ = _ from rfl), Below.refl _ _⟩
                    case round =>
                      obtain ⟨k, n, rfl, rfl, hnk, hk, HM, HB⟩ := hrel
                      by_cases hlt : k < B.length
                      · obtain ⟨d, hd⟩ := at_of hlt
                        have hk0 : (0 : Int) ≤ (k : Int) := by omega
                        have hk1 : (k : Int) < (B.length : Int) := by omega
                        have hO := (HB.out.cell (p := ⟨o2, k, none⟩) T2a.out.lt).trans (T2a.out.cell (show _ = some (ix A (nk d)) by simp [hd]))
                        rcases ix_cases A (nk d) with ⟨p, e, he, hn, hix⟩ | ⟨_, hix⟩
                        · have HM2 : Hid (n + 1 = commTo B A (k + 1)) := by have h1 := HM.out; have h2 := comm_yes (B := A) hd (by omega); exact (show _ = _ by omega)
                          rw [hix] at hO
                          have hpl : p < A.length := (List.getElem?_eq_some_iff.1 he).1
                          clear hn hix hd he
                          have hp0 : (0 : Int) ≤ (p : Int) := by omega
                          have hp1 : (p : Int) < (A.length : Int) := by omega
                          go_wp2
                          go_roundw
                          case rel => exact ⟨k + 1, n + 1, by go_num, by go_num, by omega, by omega, HM2, HB⟩
                          case measure => simp [intOf]; omega
                        · have HM2 : Hid (n = commTo B A (k + 1)) := by have h1 := HM.out; have h2 := comm_no (B := A) hd (by omega); exact (show _ = _ by omega)
                          rw [hix] at hO
                          clear hix hd
                          go_wp2
                          go_roundw
                          case rel => exact ⟨k + 1, n, by go_num, by go_num, by omega, by omega, HM2, HB⟩
                          case measure => simp [intOf]; omega
                      · obtain rfl : k = B.length := by omega
                        have hn : n = m := HM.out.trans HCB.out
                        subst hn
                        go_wp2
                        go_ret
                        exact ⟨rfl, kept_trans HB26.out HB.out⟩
end Go.Proofs.Qxb6618884a.Nt
