import Derived.Test.Qxb6618870aProg
import Derived.Test.Qxb6618870aMtPlain
import Derived.WalkKit
import Derived.WalkSpells
import Derived.WalkLawsBesides
import Derived.Lib.Strings
namespace Go.Proofs.Qxb6618870a.Mt
open Go.RowKit

def Oz (zs : List Int) (i : Nat) : Nat := (zs.getD i 0).toNat
def Pb (ps : List ByteArray) (i : Nat) : List UInt8 := (ps.getD i ByteArray.empty).data.toList

def IntsIn (w : World) (ao : Option Addr) (n : Nat) (zs : List Int) : Prop :=
  ∀ j, j < n → ∃ b off z, ao = some ⟨b, off, none⟩ ∧ b < w.heap.size ∧ w.cell? ⟨b, off + j, none⟩ = some (.int .i64 z) ∧ zs[j]? = some z
def StrsIn (w : World) (ao : Option Addr) (n : Nat) (ps : List ByteArray) : Prop :=
  ∀ j, j < n → ∃ b off s, ao = some ⟨b, off, none⟩ ∧ b < w.heap.size ∧ w.cell? ⟨b, off + j, none⟩ = some (.string s) ∧ ps[j]? = some s

/-- A bool came back; where it is true, Q holds. -/
def Ans (e : Ending) (Q : Prop) : Prop := ∃ b, e = .returned (.bool b) ∧ (b = true → Q)
/-- What mtUsesStandInSrc's yes says. -/
def Stands (src : ByteArray) (zs : List Int) (ps : List ByteArray) (n : Nat) : Prop :=
  Stand src.data.toList (Oz zs) (Pb ps) n ∧ ∀ j, j < n → 0 ≤ zs.getD j 0

theorem ans_no {e : Ending} {Q : Prop} (h : e = .returned (.bool false)) : Ans e Q := ⟨false, h, by simp⟩
theorem ans_yes {e : Ending} {Q : Prop} (h : e = .returned (.bool true)) (q : Q) : Ans e Q := ⟨true, h, fun _ => q⟩

theorem Oz_of {zs : List Int} {k o : Nat} (h : zs[k]? = some (o : Int)) : Oz zs k = o := by simp [Oz, h]
theorem Pb_of {ps : List ByteArray} {k : Nat} {s : ByteArray} (h : ps[k]? = some s) : Pb ps k = s.data.toList := by simp [Pb, h]

theorem stands_succ {src : ByteArray} {zs : List Int} {ps : List ByteArray} {k o : Nat} {s q : ByteArray} (h : Stands src zs ps k) (hz : zs[k]? = some (o : Int)) (hp : ps[k]? = some s)
    (h1 : E (Oz zs) (Pb ps) k ≤ o) (h2 : o + s.size ≤ src.size) (hq : q = src.extract o (o + s.size)) (he : q.toList = s.toList) : Stands src zs ps (k + 1) := by
  refine ⟨fun i hi => ?_, fun i hi => ?_⟩
  · rcases Nat.lt_or_ge i k with h3 | h3
    · exact h.1 i h3
    · obtain rfl : i = k := by omega
      rw [Oz_of hz, Pb_of hp]
      refine ⟨h1, by simpa using h2, ?_⟩
      have e1 : q.data.toList = s.data.toList := by
        rwa [Lib.toList_data, Lib.toList_data] at he
      rw [← e1, hq, Lib.extract_data]
      simp
  · rcases Nat.lt_or_ge i k with h3 | h3
    · exact h.2 i h3
    · obtain rfl : i = k := by omega
      simp [hz]


/-- A total that fits the bound that the laws lay. -/
def Fits (x : Nat) : Prop := x ≤ 1048576
theorem tot_succ {ps : List ByteArray} {k : Nat} {s : ByteArray} (h : ps[k]? = some s) : tot (Pb ps) (k + 1) = tot (Pb ps) k + s.size := by
  simp [tot, Pb_of h]
theorem tot_mono {M : Nat → List UInt8} {j k : Nat} (h : j ≤ k) : tot M j ≤ tot M k := by
  induction k with
  | zero => rw [show j = 0 by omega]; exact Nat.le_refl _
  | succ k ih =>
    rcases Nat.lt_or_ge j (k + 1) with h1 | h1
    · have := ih (by omega); simp only [tot]; omega
    · rw [show j = k + 1 by omega]; exact Nat.le_refl _
set_option maxRecDepth 100000 in
set_option maxHeartbeats 800000 in
theorem f13 (src : ByteArray) (ao ap : Option Addr) (n m co cp : Nat) (zs : List Int) (ps : List ByteArray) (w : World) (hs : src.size ≤ 1048576) (hn : n ≤ 1048576) (hm : m ≤ 1048576) (hnm : n ≤ m)
    (hz : IntsIn w ao n zs) (hp : StrsIn w ap m ps) (hlen : ∀ s ∈ ps, s.size ≤ 1048576) :
    Calls Try.prog 13 #[.string src, .slice ao n co, .slice ap m cp] w fun e w' => Ans e (Stands src zs ps n) ∧ w' = w := by
  have HZ : Hid _ := hz
  have HP : Hid _ := hp
  have HL : Hid _ := hlen
  clear hz hp hlen
  go_enter Try.func13, Try.ntmps13
  go_wp2
  go_loop [7, 8] (fun t i => ∃ (k e : Nat), k ≤ n ∧ i = .int .i64 k ∧ t = .int .i64 e ∧ e ≤ src.size ∧ Hid (e = E (Oz zs) (Pb ps) k ∧ Stands src zs ps k)) (fun _ i => n - (intOf i).toNat)
  case atStart => exact ⟨0, 0, by omega, rfl, rfl, by omega, (show _ ∧ _ from ⟨rfl, fun _ h => by omega, fun _ h => by omega⟩)⟩
  case round =>
    obtain ⟨k, e, hk, rfl, rfl, he, H⟩ := hrel
    by_cases hlt : k < n
    · obtain ⟨b, off, z, rfl, hb, hcz, hzk⟩ := HZ.out k hlt
      obtain ⟨b', off', s, rfl, hb', hcs, hsk⟩ := HP.out k (by omega)
      have hsl := HL.out s (List.mem_of_getElem? hsk)
      have HZK : Hid _ := hzk
      have HSK : Hid _ := hsk
      clear hzk hsk
      have hkm : (k : Int) < (m : Int) := by omega
      have hkn : (k : Int) < (n : Int) := by omega
      by_cases h1 : z < e
      · go_wp2
        go_ret
        exact ⟨ans_no rfl, rfl⟩
      · obtain ⟨o, rfl⟩ := Int.eq_ofNat_of_zero_le (show 0 ≤ z by omega)
        by_cases h2 : src.size < o
        · go_wp2
          go_ret
          exact ⟨ans_no rfl, rfl⟩
        · by_cases h3 : src.size - o < s.size
          · go_wp2
            go_ret
            exact ⟨ans_no rfl, rfl⟩
          · have h4 : o + s.size ≤ src.size := by omega
            have hd : decide ((src.size : Int) - (o : Int) < (s.size : Int)) = false := decide_eq_false (by omega)
            generalize hq : src.extract o (o + s.size) = q
            have hsl : ∀ wx, (Instr.slice 9 (.string src) (some (.int .i64 (o : Int))) (some (.int .i64 ((o : Int) + (s.size : Int)))) none).run Try.prog wx = .ok (.string q) wx := fun wx => by
              rw [run_slice_string wx 9 src .i64 .i64 o (o + s.size) Try.underlying9 (by omega) (by omega) (by omega), ← hq]
              rfl
            have HQ : Hid _ := hq
            clear hq
            by_cases he : q.toList = s.toList
            · have hn : (q.toList == s.toList) = true := by simp [he]
              have HE : Hid _ := he
              clear he
              go_wp2
              go_round
              case rel => 
                have h5 := stands_succ H.out.2 HZK.out HSK.out (by have := H.out.1; omega) h4 HQ.out.symm HE.out
                exact ⟨k + 1, o + s.size, by omega, by go_num, by go_num, by omega, (show _ ∧ _ from ⟨by rw [E_succ, Oz_of HZK.out, Pb_of HSK.out]; simp, h5⟩)⟩
              case measure => simp [intOf]; omega
            · have hn : (q.toList == s.toList) = false := by simp [he]
              go_wp2
              go_ret
              exact ⟨ans_no rfl, rfl⟩
    · go_wp2
      go_ret
      obtain rfl : k = n := by omega
      exact ⟨ans_yes rfl H.out.2, rfl⟩

set_option maxRecDepth 100000 in
set_option maxHeartbeats 1000000 in
theorem f11 (src : ByteArray) (ao ap : Option Addr) (n m co cp : Nat) (ps : List ByteArray) (w : World) (hs : src.size ≤ maxLen) (hn : n ≤ maxLen) (hm : m ≤ maxLen) (hp : StrsIn w ap m ps) (hlen : ∀ s ∈ ps, s.size ≤ maxLen) :
    Calls Try.prog 11 #[.string src, .slice ao n co, .slice ap m cp] w fun e w' => Ans e (Fits (src.size + n + m + tot (Pb ps) m)) ∧ w' = w := by
  unfold maxLen at hs hn hm
  have HP : Hid _ := hp
  have HL : Hid _ := hlen
  clear hp hlen
  by_cases h1 : src.size ≤ 1048576
  rotate_left
  · go_enter Try.func11, Try.ntmps11
    go_wp2
    go_ret
    exact ⟨ans_no rfl, rfl⟩
  by_cases h2 : n ≤ 1048576
  rotate_left
  · go_enter Try.func11, Try.ntmps11
    go_wp2
    go_ret
    exact ⟨ans_no rfl, rfl⟩
  by_cases h3 : src.size + n ≤ 1048576
  rotate_left
  · go_enter Try.func11, Try.ntmps11
    go_wp2
    go_ret
    exact ⟨ans_no rfl, rfl⟩
  by_cases h4 : m ≤ 1048576
  rotate_left
  · go_enter Try.func11, Try.ntmps11
    go_wp2
    go_ret
    exact ⟨ans_no rfl, rfl⟩
  by_cases h5 : src.size + n + m ≤ 1048576
  rotate_left
  · go_enter Try.func11, Try.ntmps11
    go_wp2
    go_ret
    exact ⟨ans_no rfl, rfl⟩
  go_enter Try.func11, Try.ntmps11
  go_wp2
  go_loop [7, 8] (fun t i => ∃ (k x : Nat), k ≤ m ∧ i = .int .i64 k ∧ t = .int .i64 x ∧ x ≤ 1048576 ∧ Hid (x = src.size + n + m + tot (Pb ps) k)) (fun _ i => m - (intOf i).toNat)
  case atStart => exact ⟨0, src.size + n + m, by omega, rfl, by go_num, h5, rfl⟩
  case round =>
    obtain ⟨k, x, hk, rfl, rfl, hx, H⟩ := hrel
    by_cases hlt : k < m
    · obtain ⟨b', off', s, rfl, hb', hcs, hsk⟩ := HP.out k hlt
      have hsl := HL.out s (List.mem_of_getElem? hsk)
      unfold maxLen at hsl
      have HSK : Hid _ := hsk
      clear hsk
      have hkm : (k : Int) < (m : Int) := by omega
      by_cases h6 : s.size ≤ 1048576
      · by_cases h7 : x + s.size ≤ 1048576
        · go_wp2
          go_round
          case rel => exact ⟨k + 1, x + s.size, by omega, by go_num, by go_num, h7, (show _ = _ from by rw [tot_succ HSK.out, H.out]; omega)⟩
          case measure => simp [intOf]; omega
        · go_wp2
          go_ret
          exact ⟨ans_no rfl, rfl⟩
      · go_wp2
        go_ret
        exact ⟨ans_no rfl, rfl⟩
    · go_wp2
      go_ret
      obtain rfl : k = m := by omega
      exact ⟨ans_yes rfl (show _ ≤ _ from by rw [← H.out]; exact hx), rfl⟩

set_option maxRecDepth 100000 in
set_option maxHeartbeats 1000000 in
theorem f17 (src : ByteArray) (ao ap aq : Option Addr) (n m l co cp cq : Nat) (ps ms : List ByteArray) (w : World) (hs : src.size ≤ maxLen) (hn : n ≤ maxLen) (hm : m ≤ maxLen) (hl : l ≤ maxLen) (hp : StrsIn w ap m ps) (hlen : ∀ s ∈ ps, s.size ≤ maxLen) (hq : StrsIn w aq l ms) (hlenq : ∀ s ∈ ms, s.size ≤ maxLen) :
    Calls Try.prog 17 #[.string src, .slice ao n co, .slice ap m cp, .slice aq l cq] w fun e w' => Ans e (Fits (src.size + n + m + tot (Pb ps) m + l + tot (Pb ms) l)) ∧ w' = w := by
  unfold maxLen at hs hn hm hl
  have HP : Hid _ := hp
  have HL : Hid _ := hlen
  have HQ : Hid _ := hq
  have HLQ : Hid _ := hlenq
  clear hp hlen hq hlenq
  by_cases h1 : src.size ≤ 1048576
  rotate_left
  · go_enter Try.func17, Try.ntmps17
    go_wp2
    go_ret
    exact ⟨ans_no rfl, rfl⟩
  by_cases h2 : n ≤ 1048576
  rotate_left
  · go_enter Try.func17, Try.ntmps17
    go_wp2
    go_ret
    exact ⟨ans_no rfl, rfl⟩
  by_cases h3 : src.size + n ≤ 1048576
  rotate_left
  · go_enter Try.func17, Try.ntmps17
    go_wp2
    go_ret
    exact ⟨ans_no rfl, rfl⟩
  by_cases h4 : m ≤ 1048576
  rotate_left
  · go_enter Try.func17, Try.ntmps17
    go_wp2
    go_ret
    exact ⟨ans_no rfl, rfl⟩
  by_cases h5 : src.size + n + m ≤ 1048576
  rotate_left
  · go_enter Try.func17, Try.ntmps17
    go_wp2
    go_ret
    exact ⟨ans_no rfl, rfl⟩
  go_enter Try.func17, Try.ntmps17
  go_wp2
  go_loop [9, 10] (fun t i => ∃ (k x : Nat), k ≤ m ∧ i = .int .i64 k ∧ t = .int .i64 x ∧ x ≤ 1048576 ∧ Hid (x = src.size + n + m + tot (Pb ps) k)) (fun _ i => m - (intOf i).toNat)
  case atStart => exact ⟨0, src.size + n + m, by omega, rfl, by go_num, h5, rfl⟩
  case round =>
    obtain ⟨k, x, hk, rfl, rfl, hx, H⟩ := hrel
    by_cases hlt : k < m
    · obtain ⟨b', off', s, rfl, hb', hcs, hsk⟩ := HP.out k hlt
      have hsl := HL.out s (List.mem_of_getElem? hsk)
      unfold maxLen at hsl
      have HSK : Hid _ := hsk
      clear hsk
      have hkm : (k : Int) < (m : Int) := by omega
      by_cases h6 : s.size ≤ 1048576
      · by_cases h7 : x + s.size ≤ 1048576
        · go_wp2
          go_round
          case rel => exact ⟨k + 1, x + s.size, by omega, by go_num, by go_num, h7, (show _ = _ from by rw [tot_succ HSK.out, H.out]; omega)⟩
          case measure => simp [intOf]; omega
        · go_wp2
          go_ret
          exact ⟨ans_no rfl, rfl⟩
      · go_wp2
        go_ret
        exact ⟨ans_no rfl, rfl⟩
    · obtain rfl : k = m := by omega
      by_cases g1 : l ≤ 1048576
      rotate_left
      · go_wp2
        go_ret
        exact ⟨ans_no rfl, rfl⟩
      by_cases g2 : x + l ≤ 1048576
      rotate_left
      · go_wp2
        go_ret
        exact ⟨ans_no rfl, rfl⟩
      go_wp2
      go_loop [9, 11] (fun t i => ∃ (j y : Nat), j ≤ l ∧ i = .int .i64 j ∧ t = .int .i64 y ∧ y ≤ 1048576 ∧ Hid (y = x + l + tot (Pb ms) j)) (fun _ i => l - (intOf i).toNat)
      case atStart => exact ⟨0, x + l, by omega, rfl, by go_num, g2, rfl⟩
      case round =>
        obtain ⟨j, y, hj, rfl, rfl, hy, H2⟩ := hrel
        by_cases hlt2 : j < l
        · obtain ⟨b', off', s, rfl, hb', hcs, hsk⟩ := HQ.out j hlt2
          have hsl := HLQ.out s (List.mem_of_getElem? hsk)
          unfold maxLen at hsl
          have HSK : Hid _ := hsk
          clear hsk
          have hkm : (j : Int) < (l : Int) := by omega
          by_cases h6 : s.size ≤ 1048576
          · by_cases h7 : y + s.size ≤ 1048576
            · go_wp2
              go_round
              case rel => exact ⟨j + 1, y + s.size, by omega, by go_num, by go_num, h7, (show _ = _ from by rw [tot_succ HSK.out, H2.out]; omega)⟩
              case measure => simp [intOf]; omega
            · go_wp2
              go_ret
              exact ⟨ans_no rfl, rfl⟩
          · go_wp2
            go_ret
            exact ⟨ans_no rfl, rfl⟩
        · go_wp2
          go_ret
          obtain rfl : j = l := by omega
          exact ⟨ans_yes rfl (show _ ≤ _ from by rw [← H.out, ← H2.out]; exact hy), rfl⟩

set_option maxRecDepth 100000 in
set_option maxHeartbeats 1000000 in
theorem f12 (src : ByteArray) (ao ap aq : Option Addr) (n m l co cp cq : Nat) (ps ms : List ByteArray) (w : World) (hs : src.size ≤ 1048576) (hn : n ≤ 1048576) (hm : m ≤ 1048576) (hl : l ≤ 1048576) (hp : StrsIn w ap m ps) (hlen : ∀ s ∈ ps, s.size ≤ 1048576) (hq : StrsIn w aq l ms) (hlenq : ∀ s ∈ ms, s.size ≤ 1048576) :
    Calls Try.prog 12 #[.string src, .slice ao n co, .slice ap m cp, .slice aq l cq] w fun e w' => Ans e True ∧ w' = w := by
  have HP : Hid _ := hp
  have HL : Hid _ := hlen
  have HQ : Hid _ := hq
  have HLQ : Hid _ := hlenq
  clear hp hlen hq hlenq
  by_cases h2 : n ≤ 131072
  rotate_left
  · go_enter Try.func12, Try.ntmps12
    go_wp2
    go_ret
    exact ⟨ans_yes rfl trivial, rfl⟩
  by_cases h3 : src.size + 8 * n ≤ 1048576
  rotate_left
  · go_enter Try.func12, Try.ntmps12
    go_wp2
    go_ret
    exact ⟨ans_yes rfl trivial, rfl⟩
  go_enter Try.func12, Try.ntmps12
  go_wp2
  go_loop [9, 10] (fun t i => ∃ (k x : Nat), k ≤ m ∧ i = .int .i64 k ∧ t = .int .i64 x ∧ x ≤ 1048576) (fun _ i => m - (intOf i).toNat)
  case atStart => exact ⟨0, src.size + 8 * n, by omega, rfl, by go_num, h3⟩
  case round =>
    obtain ⟨k, x, hk, rfl, rfl, hx⟩ := hrel
    by_cases hlt : k < m
    · obtain ⟨b', off', s, rfl, hb', hcs, hsk⟩ := HP.out k hlt
      have hsl := HL.out s (List.mem_of_getElem? hsk)
      clear hsk
      have hkm : (k : Int) < (m : Int) := by omega
      by_cases h7 : x + (16 + s.size) ≤ 1048576
      · go_wp2
        go_round
        case rel => exact ⟨k + 1, x + (16 + s.size), by omega, by go_num, by go_num, h7⟩
        case measure => simp [intOf]; omega
      · go_wp2
        go_ret
        exact ⟨ans_yes rfl trivial, rfl⟩
    · go_wp2
      go_loop [9, 11] (fun t i => ∃ (j y : Nat), j ≤ l ∧ i = .int .i64 j ∧ t = .int .i64 y ∧ y ≤ 1048576) (fun _ i => l - (intOf i).toNat)
      case atStart => exact ⟨0, x, by omega, rfl, rfl, hx⟩
      case round =>
        obtain ⟨j, y, hj, rfl, rfl, hy⟩ := hrel
        by_cases hlt2 : j < l
        · obtain ⟨b', off', s, rfl, hb', hcs, hsk⟩ := HQ.out j hlt2
          have hsl := HLQ.out s (List.mem_of_getElem? hsk)
          clear hsk
          have hkm : (j : Int) < (l : Int) := by omega
          by_cases h7 : y + (16 + s.size) ≤ 1048576
          · go_wp2
            go_round
            case rel => exact ⟨j + 1, y + (16 + s.size), by omega, by go_num, by go_num, h7⟩
            case measure => simp [intOf]; omega
          · go_wp2
            go_ret
            exact ⟨ans_yes rfl trivial, rfl⟩
        · go_wp2
          go_ret
          exact ⟨ans_no rfl, rfl⟩
end Go.Proofs.Qxb6618870a.Mt
