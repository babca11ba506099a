/-
  THE DEVICES, AND THE FUNCTIONS THAT ONLY READ THEM: the bounds (zzBytes_.., zzDevBytes), the test of rising names (zzAscending).
-/
import Derived.Test.Qxb6618884aProg
import Derived.WalkKit
import Derived.WalkSpells
import Derived.WalkLawsBesides
import Derived.Deep.QuietTactic
import Derived.BigQuiet
import Derived.Lib.Strings
namespace Go.Proofs.Qxb6618884a.Nt
open Go.RowKit

/-- A device: its name, its weight's bits, its domain. -/
structure Dv where
  nm : ByteArray
  wt : Nat
  dm : ByteArray

/-- A slice of devices that lies in memory. -/
def DevsIn (w : World) (ao : Option Addr) (ds : List Dv) : Prop :=
  ∀ j d, ds[j]? = some d → ∃ b off, ao = some ⟨b, off, none⟩ ∧ b < w.heap.size ∧ w.cell? ⟨b, off + j * 3, none⟩ = some (.string d.nm) ∧ w.cell? ⟨b, off + j * 3 + 1, none⟩ = some (.float .f64 d.wt) ∧ w.cell? ⟨b, off + j * 3 + 2, none⟩ = some (.string d.dm)

theorem DevsIn.below {w wx : World} {ao : Option Addr} {ds : List Dv} (h : DevsIn w ao ds) (hb : Below w.heap.size w wx) : DevsIn wx ao ds := fun j d hj => by
  obtain ⟨b, off, h1, h2, h3, h4, h5⟩ := h j d hj
  exact ⟨b, off, h1, Nat.lt_of_lt_of_le h2 hb.size, (hb.cell (p := ⟨b, off + j * 3, none⟩) h2).trans h3, (hb.cell (p := ⟨b, off + j * 3 + 1, none⟩) h2).trans h4, (hb.cell (p := ⟨b, off + j * 3 + 2, none⟩) h2).trans h5⟩

/-- A bool came back; where it is true, Q holds. -/
def Ans (e : Ending) (Q : Prop) : Prop := ∃ b, e = .returned (.bool b) ∧ (b = true → Q)
theorem ans_no {e : Ending} {Q : Prop} (h : e = .returned (.bool false)) : Ans e Q := ⟨false, h, by simp⟩
theorem ans_yes {e : Ending} {Q : Prop} (h : e = .returned (.bool true)) (q : Q) : Ans e Q := ⟨true, h, fun _ => q⟩

/-- The first k devices' texts are short. -/
def ShortTo (ds : List Dv) (k : Nat) : Prop := ∀ j d, j < k → ds[j]? = some d → d.nm.size ≤ 1048576 ∧ d.dm.size ≤ 1048576
/-- Few devices, short texts. -/
def Small (ds : List Dv) : Prop := ds.length ≤ 1048576 ∧ ShortTo ds ds.length
/-- What every Go string is. -/
def Fair (ds : List Dv) : Prop := ds.length ≤ maxLen ∧ ∀ d ∈ ds, d.nm.size ≤ maxLen ∧ d.dm.size ≤ maxLen

theorem ShortTo.succ {ds : List Dv} {k : Nat} {d : Dv} (h : ShortTo ds k) (hd : ds[k]? = some d) (h1 : d.nm.size ≤ 1048576) (h2 : d.dm.size ≤ 1048576) : ShortTo ds (k + 1) := fun j x hj hx => by
  rcases Nat.lt_or_ge j k with h3 | h3
  · exact h j x h3 hx
  · obtain rfl : j = k := by omega
    rw [hd] at hx; cases hx; exact ⟨h1, h2⟩
theorem at_of {ds : List Dv} {k : Nat} (h : k < ds.length) : ∃ d, ds[k]? = some d := ⟨ds[k], by simp⟩

set_option maxRecDepth 100000 in
set_option maxHeartbeats 2000000 in
theorem f8 (aa ab : Option Addr) (ca cb : Nat) (xs ys : List Dv) (w : World) (ha : DevsIn w aa xs) (hb : DevsIn w ab ys) (fa : Fair xs) (fb : Fair ys) :
    Calls Try.prog 8 #[.slice aa xs.length ca, .slice ab ys.length cb] w fun e w' => Ans e (Small xs ∧ Small ys) ∧ w' = w := by
  have DA : Hid (DevsIn w aa xs) := ha
  have DB : Hid (DevsIn w ab ys) := hb
  have FA : Hid (Fair xs) := fa
  have FB : Hid (Fair ys) := fb
  have la := fa.1
  have lb := fb.1
  unfold maxLen at la lb
  clear ha hb fa fb
  by_cases g0 : xs.length ≤ 1048576
  rotate_left
  · go_enter Try.func8, Try.ntmps8
    go_wp2
    go_ret
    exact ⟨ans_no rfl, rfl⟩
  go_enter Try.func8, Try.ntmps8
  go_wp2
  go_loop [5, 6] (fun t i => ∃ (k x : Nat), k ≤ xs.length ∧ i = .int .i64 k ∧ t = .int .i64 x ∧ x ≤ 1048576 ∧ Hid (ShortTo xs k)) (fun _ i => xs.length - (intOf i).toNat)
  case atStart => exact ⟨0, xs.length, by omega, rfl, by go_num, g0, (show ShortTo _ _ from fun _ _ h => by omega)⟩
  case round =>
    obtain ⟨k, x, hk, rfl, rfl, hx, H⟩ := hrel
    by_cases hlt : k < xs.length
    · obtain ⟨d, hd⟩ := at_of hlt
      obtain ⟨b, off, rfl, hb, c0, c1, c2⟩ := DA.out k d hd
      have hsl := FA.out.2 d (List.mem_of_getElem? hd)
      unfold maxLen at hsl
      obtain ⟨hs1, hs2⟩ := hsl
      have HD : Hid _ := hd
      clear hd
      have hkm : (k : Int) < (xs.length : Int) := by omega
      by_cases h1 : d.nm.size ≤ 1048576
      rotate_left
      · go_wp2
        go_ret
        exact ⟨ans_no rfl, rfl⟩
      by_cases h2 : x + d.nm.size ≤ 1048576
      rotate_left
      · go_wp2
        go_ret
        exact ⟨ans_no rfl, rfl⟩
      by_cases h3 : d.dm.size ≤ 1048576
      rotate_left
      · go_wp2
        go_ret
        exact ⟨ans_no rfl, rfl⟩
      by_cases h4 : x + d.nm.size + d.dm.size ≤ 1048576
      rotate_left
      · go_wp2
        go_ret
        exact ⟨ans_no rfl, rfl⟩
      go_wp2
      go_round
      case rel => exact ⟨k + 1, x + d.nm.size + d.dm.size, by omega, by go_num, by go_num, h4, H.out.succ HD.out h1 h3⟩
      case measure => simp [intOf]; omega
    · obtain rfl : k = xs.length := by omega
      have HA1 : Hid (ShortTo xs xs.length) := H.out
      obtain ⟨y, hy⟩ : ∃ y, y = x := ⟨_, rfl⟩
      rw [← hy]
      have hy1 : y ≤ 1048576 := by omega
      clear hy H hx
      by_cases g1 : ys.length ≤ 1048576
      rotate_left
      · go_wp2
        go_ret
        exact ⟨ans_no rfl, rfl⟩
      by_cases g2 : y + ys.length ≤ 1048576
      rotate_left
      · go_wp2
        go_ret
        exact ⟨ans_no rfl, rfl⟩
      go_wp2
      go_loop [5, 7] (fun t i => ∃ (k x : Nat), k ≤ ys.length ∧ i = .int .i64 k ∧ t = .int .i64 x ∧ x ≤ 1048576 ∧ Hid (ShortTo ys k)) (fun _ i => ys.length - (intOf i).toNat)
      case atStart => exact ⟨0, y + ys.length, by omega, rfl, by go_num, g2, (show ShortTo _ _ from fun _ _ h => by omega)⟩
      case round =>
        obtain ⟨k, x, hk, rfl, rfl, hx, H⟩ := hrel
        by_cases hlt : k < ys.length
        · obtain ⟨d, hd⟩ := at_of hlt
          obtain ⟨b, off, rfl, hb, c0, c1, c2⟩ := DB.out k d hd
          have hsl := FB.out.2 d (List.mem_of_getElem? hd)
          unfold maxLen at hsl
          obtain ⟨hs1, hs2⟩ := hsl
          have HD : Hid _ := hd
          clear hd
          have hkm : (k : Int) < (ys.length : Int) := by omega
          by_cases h1 : d.nm.size ≤ 1048576
          rotate_left
          · go_wp2
            go_ret
            exact ⟨ans_no rfl, rfl⟩
          by_cases h2 : x + d.nm.size ≤ 1048576
          rotate_left
          · go_wp2
            go_ret
            exact ⟨ans_no rfl, rfl⟩
          by_cases h3 : d.dm.size ≤ 1048576
          rotate_left
          · go_wp2
            go_ret
            exact ⟨ans_no rfl, rfl⟩
          by_cases h4 : x + d.nm.size + d.dm.size ≤ 1048576
          rotate_left
          · go_wp2
            go_ret
            exact ⟨ans_no rfl, rfl⟩
          go_wp2
          go_round
          case rel => exact ⟨k + 1, x + d.nm.size + d.dm.size, by omega, by go_num, by go_num, h4, H.out.succ HD.out h1 h3⟩
          case measure => simp [intOf]; omega
        · obtain rfl : k = ys.length := by omega
          go_wp2
          go_ret
          exact ⟨ans_yes rfl (show Small _ ∧ Small _ from ⟨⟨by omega, HA1.out⟩, ⟨by omega, H.out⟩⟩), rfl⟩

set_option maxRecDepth 100000 in
set_option maxHeartbeats 2000000 in
theorem f26 (aa ab : Option Addr) (ca cb : Nat) (xs ys : List Dv) (w : World) (ha : DevsIn w aa xs) (hb : DevsIn w ab ys) (fa : Fair xs) (fb : Fair ys) :
    Calls Try.prog 26 #[.slice aa xs.length ca, .slice ab ys.length cb] w fun e w' => Ans e (Small xs ∧ Small ys) ∧ w' = w := by
  have DA : Hid (DevsIn w aa xs) := ha
  have DB : Hid (DevsIn w ab ys) := hb
  have FA : Hid (Fair xs) := fa
  have FB : Hid (Fair ys) := fb
  have la := fa.1
  have lb := fb.1
  unfold maxLen at la lb
  clear ha hb fa fb
  by_cases g0 : xs.length ≤ 1048576
  rotate_left
  · go_enter Try.func26, Try.ntmps26
    go_wp2
    go_ret
    exact ⟨ans_no rfl, rfl⟩
  go_enter Try.func26, Try.ntmps26
  go_wp2
  go_loop [5, 6] (fun t i => ∃ (k x : Nat), k ≤ xs.length ∧ i = .int .i64 k ∧ t = .int .i64 x ∧ x ≤ 1048576 ∧ Hid (ShortTo xs k)) (fun _ i => xs.length - (intOf i).toNat)
  case atStart => exact ⟨0, xs.length, by omega, rfl, by go_num, g0, (show ShortTo _ _ from fun _ _ h => by omega)⟩
  case round =>
    obtain ⟨k, x, hk, rfl, rfl, hx, H⟩ := hrel
    by_cases hlt : k < xs.length
    · obtain ⟨d, hd⟩ := at_of hlt
      obtain ⟨b, off, rfl, hb, c0, c1, c2⟩ := DA.out k d hd
      have hsl := FA.out.2 d (List.mem_of_getElem? hd)
      unfold maxLen at hsl
      obtain ⟨hs1, hs2⟩ := hsl
      have HD : Hid _ := hd
      clear hd
      have hkm : (k : Int) < (xs.length : Int) := by omega
      by_cases h1 : d.nm.size ≤ 1048576
      rotate_left
      · go_wp2
        go_ret
        exact ⟨ans_no rfl, rfl⟩
      by_cases h2 : x + d.nm.size ≤ 1048576
      rotate_left
      · go_wp2
        go_ret
        exact ⟨ans_no rfl, rfl⟩
      by_cases h3 : d.dm.size ≤ 1048576
      rotate_left
      · go_wp2
        go_ret
        exact ⟨ans_no rfl, rfl⟩
      by_cases h4 : x + d.nm.size + d.dm.size ≤ 1048576
      rotate_left
      · go_wp2
        go_ret
        exact ⟨ans_no rfl, rfl⟩
      go_wp2
      go_round
      case rel => exact ⟨k + 1, x + d.nm.size + d.dm.size, by omega, by go_num, by go_num, h4, H.out.succ HD.out h1 h3⟩
      case measure => simp [intOf]; omega
    · obtain rfl : k = xs.length := by omega
      have HA1 : Hid (ShortTo xs xs.length) := H.out
      obtain ⟨y, hy⟩ : ∃ y, y = x := ⟨_, rfl⟩
      rw [← hy]
      have hy1 : y ≤ 1048576 := by omega
      clear hy H hx
      by_cases g1 : ys.length ≤ 1048576
      rotate_left
      · go_wp2
        go_ret
        exact ⟨ans_no rfl, rfl⟩
      by_cases g2 : y + ys.length ≤ 1048576
      rotate_left
      · go_wp2
        go_ret
        exact ⟨ans_no rfl, rfl⟩
      go_wp2
      go_loop [5, 7] (fun t i => ∃ (k x : Nat), k ≤ ys.length ∧ i = .int .i64 k ∧ t = .int .i64 x ∧ x ≤ 1048576 ∧ Hid (ShortTo ys k)) (fun _ i => ys.length - (intOf i).toNat)
      case atStart => exact ⟨0, y + ys.length, by omega, rfl, by go_num, g2, (show ShortTo _ _ from fun _ _ h => by omega)⟩
      case round =>
        obtain ⟨k, x, hk, rfl, rfl, hx, H⟩ := hrel
        by_cases hlt : k < ys.length
        · obtain ⟨d, hd⟩ := at_of hlt
          obtain ⟨b, off, rfl, hb, c0, c1, c2⟩ := DB.out k d hd
          have hsl := FB.out.2 d (List.mem_of_getElem? hd)
          unfold maxLen at hsl
          obtain ⟨hs1, hs2⟩ := hsl
          have HD : Hid _ := hd
          clear hd
          have hkm : (k : Int) < (ys.length : Int) := by omega
          by_cases h1 : d.nm.size ≤ 1048576
          rotate_left
          · go_wp2
            go_ret
            exact ⟨ans_no rfl, rfl⟩
          by_cases h2 : x + d.nm.size ≤ 1048576
          rotate_left
          · go_wp2
            go_ret
            exact ⟨ans_no rfl, rfl⟩
          by_cases h3 : d.dm.size ≤ 1048576
          rotate_left
          · go_wp2
            go_ret
            exact ⟨ans_no rfl, rfl⟩
          by_cases h4 : x + d.nm.size + d.dm.size ≤ 1048576
          rotate_left
          · go_wp2
            go_ret
            exact ⟨ans_no rfl, rfl⟩
          go_wp2
          go_round
          case rel => exact ⟨k + 1, x + d.nm.size + d.dm.size, by omega, by go_num, by go_num, h4, H.out.succ HD.out h1 h3⟩
          case measure => simp [intOf]; omega
        · obtain rfl : k = ys.length := by omega
          go_wp2
          go_ret
          exact ⟨ans_yes rfl (show Small _ ∧ Small _ from ⟨⟨by omega, HA1.out⟩, ⟨by omega, H.out⟩⟩), rfl⟩

set_option maxRecDepth 100000 in
set_option maxHeartbeats 1000000 in
/-- zzDevBytes: some int within bounds. -/
theorem f9 (aa : Option Addr) (ca : Nat) (xs : List Dv) (s : Int) (w : World) (ha : DevsIn w aa xs) (fa : Small xs) (h0 : 0 ≤ s) (hs : s ≤ 4194304) :
    Calls Try.prog 9 #[.slice aa xs.length ca, .int .i64 s] w fun e w' => (∃ t : Int, 0 ≤ t ∧ t ≤ 4194304 ∧ e = .returned (.int .i64 t)) ∧ w' = w := by
  have DA : Hid (DevsIn w aa xs) := ha
  have FA : Hid (Small xs) := fa
  have la := fa.1
  clear ha fa
  go_enter Try.func9, Try.ntmps9
  go_wp2
  go_loop [1, 5] (fun t i => ∃ (k : Nat) (x : Int), k ≤ xs.length ∧ i = .int .i64 k ∧ t = .int .i64 x ∧ 0 ≤ x ∧ x ≤ 4194304) (fun _ i => xs.length - (intOf i).toNat)
  case atStart => exact ⟨0, s, by omega, rfl, rfl, h0, hs⟩
  case round =>
    obtain ⟨k, x, hk, rfl, rfl, hx0, hx⟩ := hrel
    by_cases hlt : k < xs.length
    · obtain ⟨d, hd⟩ := at_of hlt
      obtain ⟨b, off, rfl, hb, c0, c1, c2⟩ := DA.out k d hd
      obtain ⟨hs1, hs2⟩ := FA.out.2 k d hlt hd
      clear hd
      have hkm : (k : Int) < (xs.length : Int) := by omega
      by_cases h1 : x ≤ 1048576
      rotate_left
      · go_wp2
        go_ret
        exact ⟨⟨x, hx0, hx, rfl⟩, rfl⟩
      by_cases h2 : x + 40 ≤ 1048576
      rotate_left
      · go_wp2
        go_ret
        exact ⟨⟨x + 40, by omega, by omega, rfl⟩, rfl⟩
      by_cases h3 : x + 40 + d.nm.size ≤ 1048576
      rotate_left
      · go_wp2
        go_ret
        exact ⟨⟨x + 40 + d.nm.size, by omega, by omega, rfl⟩, rfl⟩
      go_wp2
      go_round
      case rel => exact ⟨k + 1, x + 40 + d.nm.size + d.dm.size, by omega, by go_num, by go_num, by omega, by omega⟩
      case measure => simp [intOf]; omega
    · go_wp2
      go_ret
      exact ⟨⟨x, hx0, hx, rfl⟩, rfl⟩

/-- The names rise strictly up to place k. -/
def AscTo (ds : List Dv) (k : Nat) : Prop := ∀ j d e, j + 1 < k → ds[j]? = some d → ds[j + 1]? = some e → Op.bytesLess d.nm.toList e.nm.toList = true

set_option maxRecDepth 100000 in
set_option maxHeartbeats 1000000 in
/-- zzAscending. -/
theorem f10 (aa : Option Addr) (ca : Nat) (xs : List Dv) (w : World) (ha : DevsIn w aa xs) (fa : Small xs) :
    Calls Try.prog 10 #[.slice aa xs.length ca] w fun e w' => Ans e (AscTo xs xs.length) ∧ Below w.heap.size w w' := by
  have DA : Hid (DevsIn w aa xs) := ha
  have la := fa.1
  clear ha fa
  by_cases h0 : xs.length ≤ 1
  · go_enter Try.func10, Try.ntmps10
    go_wp2
    refine wp_loop_rounds 1 ?_
    rw [rounds_succ]
    go_wp2
    go_ret
    exact ⟨ans_yes rfl (fun j d e h => by omega), Below.refl _ _⟩
  go_enter Try.func10, Try.ntmps10
  go_wp2
  go_loopw [3] (fun i wr => ∃ (k : Nat), 1 ≤ k ∧ k ≤ xs.length ∧ i = .int .i64 k ∧ Hid (AscTo xs k) ∧ Hid (Below w.heap.size w wr)) (fun i _ => xs.length - (intOf i).toNat)
  case atStart => exact ⟨1, by omega, by omega, rfl, (show AscTo _ _ from fun j d e h => by omega), Below.refl _ _⟩
  case round =>
    obtain ⟨k, hk1, hk, rfl, H, HB⟩ := hrel
    by_cases hlt : k < xs.length
    · obtain ⟨e, he⟩ := at_of hlt
      obtain ⟨d, hd⟩ := at_of (show k - 1 < xs.length by omega)
      obtain ⟨b, off, rfl, hb, c0, _, _⟩ := DA.out k e he
      obtain ⟨b', off', hao, hb', c0', _, _⟩ := DA.out (k - 1) d hd
      simp only [Option.some.injEq, Addr.mk.injEq] at hao
      obtain ⟨rfl, rfl, _⟩ := hao
      obtain ⟨m, rfl⟩ : ∃ m, k = m + 1 := ⟨k - 1, by omega⟩
      simp only [Nat.add_sub_cancel] at c0' hd
      have g0 : wr.cell? ⟨b, off + (m + 1) * 3, none⟩ = some (.string e.nm) := (HB.out.cell (p := ⟨b, off + (m + 1) * 3, none⟩) hb).trans c0
      have g1 : wr.cell? ⟨b, off + m * 3, none⟩ = some (.string d.nm) := (HB.out.cell (p := ⟨b, off + m * 3, none⟩) hb).trans c0'
      have HE : Hid _ := he
      have HD : Hid _ := hd
      clear he hd c0 c0'
      have hkm : ((m : Int) + 1) < (xs.length : Int) := by omega
      have hkm2 : (m : Int) < (xs.length : Int) := by omega
      go_wp2
      cases hlt2 : Op.bytesLess d.nm.toList e.nm.toList
      · go_quiet (fail)
        go_wp2
        go_ret
        exact ⟨ans_no rfl, below_drewN HB.out _⟩
      · go_quiet (fail)
        go_wp2
        go_roundw
        case rel =>
          have hn : AscTo xs (m + 1 + 1) := fun j x y hj hx hy => by
            rcases Nat.lt_or_ge (j + 1) (m + 1) with h3 | h3
            · exact H.out j x y h3 hx hy
            · obtain rfl : j = m := by omega
              rw [HD.out] at hx; rw [HE.out] at hy; cases hx; cases hy; exact hlt2
          exact ⟨m + 1 + 1, by omega, by omega, by go_num, hn, below_drewN HB.out _⟩
        case measure => simp [intOf]; omega
    · go_wp2
      go_ret
      obtain rfl : k = xs.length := by omega
      exact ⟨ans_yes rfl H.out, HB.out⟩
end Go.Proofs.Qxb6618884a.Nt
