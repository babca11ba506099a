/-
  math/bits.Len AT THIS DUMP (the laying is what the guide's lay-shelf.mjs and lay-plain.mjs wrote for this program), and spanBits by its contract.
-/
import Derived.Shelf.Small.Bits
import Derived.Test.Qxb6618884aProg
import Derived.WalkKit
import Derived.Lib.ItoaNum
namespace Go.Proofs.Qxb6618884a.Sb
open Go.Shelf Go.RowKit
def lays125_ren : Ren := ⟨fun | 125 => 29 | 128 => 33 | 129 => 34 | n => n, fun | 46 => 22 | 3 => 3 | 51 => 73 | 53 => 24 | 4 => 4 | 5 => 5 | 9 => 9 | n => n, fun | n => n⟩
theorem lays125 : Lays.n125 Try.prog lays125_ren := {
  mixed := by kernel_rfl
  f125 := Try.func29.trans (congrArg some (by kernel_rfl))
  f128 := Try.func33.trans (congrArg some (by kernel_rfl))
  f129 := Try.func34.trans (congrArg some (by kernel_rfl))
  t3 := Try.underlying3
  a3 := Try.isAgg3
  z3 := Try.sizeOf3
  v3 := Try.zeroValue3
  t4 := Try.underlying4
  a4 := Try.isAgg4
  z4 := Try.sizeOf4
  v4 := Try.zeroValue4
  t5 := Try.underlying5
  a5 := Try.isAgg5
  z5 := Try.sizeOf5
  v5 := Try.zeroValue5
  t9 := Try.underlying9
  a9 := Try.isAgg9
  z9 := Try.sizeOf9
  v9 := Try.zeroValue9
  t46 := Try.underlying22
  a46 := Try.isAgg22
  z46 := Try.sizeOf22
  v46 := Try.zeroValue22
  t51 := Try.underlying73
  a51 := Try.isAgg73
  z51 := Try.sizeOf73
  v51 := Try.zeroValue73
  t53 := Try.underlying24
  a53 := Try.isAgg24
  z53 := Try.sizeOf24
  v53 := Try.zeroValue24 }
theorem bits_Len (x : Int) (w : World) (h0 : 0 ≤ x) (h1 : x ≤ 18446744073709551615) :
    Calls Try.prog 29 #[.int .u64 x] w fun e w' => e = .returned (.int .i64 (Lib.bitLen x.toNat)) ∧ w' = w := Any.bits_Len lays125 x w h0 h1

/-- How many bits n wants. -/
def bl (n : Nat) : Nat := Lib.bitLen n

theorem bl_bounds (n : Nat) (h : n < 9223372036854775808) : bl n ≤ 63 ∧ n < 2 ^ bl n ∧ (0 < bl n → 2 ^ (bl n - 1) ≤ n) := by
  unfold bl
  have hle := Lib.bitLen_le n 63 (by omega) (by simpa using h)
  refine ⟨hle, ?_⟩
  by_cases h0 : n = 0
  · subst h0
    have : Lib.bitLen 0 = 0 := by decide
    rw [this]; simp
  · have hb := Lib.bitLenAux_bounds 64 n (by have : (2:Nat) ^ 64 = 18446744073709551616 := by decide
                                             omega) h0
    exact ⟨hb.2.2, fun _ => hb.2.1⟩

theorem bl_half (n : Nat) (h : 2 * n + 1 < 18446744073709551616) : bl (2 * n + 1) = bl n + 1 := by
  unfold bl
  rw [Lib.bitLen_half (2 * n + 1) (by omega) (by have : (2:Nat) ^ 64 = 18446744073709551616 := by decide
                                                 omega)]
  rw [show (2 * n + 1) / 2 = n by omega]; omega

set_option maxRecDepth 100000 in
set_option maxHeartbeats 1000000 in
theorem f7 (n : Int) (w : World) (h0 : 0 ≤ n) (h1 : n ≤ 9223372036854775807) :
    Calls Try.prog 7 #[.int .i64 n] w fun e w' => e = .returned (.int .u64 (bl n.toNat : Int)) ∧ w' = w := by
  have hb : bl n.toNat ≤ 63 := (bl_bounds n.toNat (by omega)).1
  have HL : ∀ wx, Calls Try.prog 29 #[.int .u64 n] wx fun e w' => e = .returned (.int .i64 (bl n.toNat : Int)) ∧ w' = wx := fun wx => bits_Len n wx h0 (by omega)
  generalize bl n.toNat = k at *
  go_enter Try.func7, Try.ntmps7
  go_wp2_with (first | (go_at_call 29; refine (HL _).mono ?_; rintro e w' ⟨rfl, rfl⟩) | go_in)
  go_ret
  exact ⟨rfl, rfl⟩

theorem pow_wrap {k : Nat} (hk : k ≤ 63) : IntKind.u64.wrap ((2 : Int) ^ k) = ((2 ^ k : Nat) : Int) := by
  have h1 : (2 : Nat) ^ k ≤ 2 ^ 63 := Nat.pow_le_pow_right (by omega) hk
  have h2 : (2 : Nat) ^ 63 = 9223372036854775808 := by decide
  have h3 : ((2 ^ k : Nat) : Int) = (2 : Int) ^ k := by simp
  rw [← h3]
  simp only [IntKind.wrap, IntKind.bits, IntKind.signed]
  simp only [Bool.false_and, Bool.false_eq_true, if_false]
  generalize (2 : Nat) ^ k = x at *
  omega

set_option maxRecDepth 100000 in
set_option maxHeartbeats 1000000 in
theorem f3 (a : Int) (w : World) :
    Calls Try.prog 3 #[.int .i64 a] w fun e w' => e = .returned (.bool true) ∧ w' = w := by
  by_cases h0 : a < 0
  · go_enter Try.func3, Try.ntmps3
    go_wp2
    go_ret
    exact ⟨rfl, rfl⟩
  by_cases h1 : 4611686018427387903 < a
  · go_enter Try.func3, Try.ntmps3
    go_wp2
    go_ret
    exact ⟨rfl, rfl⟩
  have hb := bl_bounds a.toNat (by omega)
  have H1 := fun wx => f7 a wx (by omega) (by omega)
  have H2 := fun wx => f7 (2 * a + 1) wx (by omega) (by omega)
  have e2 : bl (2 * a + 1).toNat = bl a.toNat + 1 := by rw [show (2 * a + 1).toNat = 2 * a.toNat + 1 by omega]; exact bl_half _ (by omega)
  rw [e2] at H2
  clear e2
  generalize bl a.toNat = k at *
  obtain ⟨hk, hu, hl⟩ := hb
  obtain ⟨p, hp⟩ : ∃ p : Int, IntKind.u64.wrap ((2 : Int) ^ k) = p := ⟨_, rfl⟩
  have hap : a < p := by rw [← hp, pow_wrap hk]; omega
  by_cases hk0 : 0 < k
  · obtain ⟨p1, hp1⟩ : ∃ p1 : Int, IntKind.u64.wrap ((2 : Int) ^ (k - 1)) = p1 := ⟨_, rfl⟩
    have hap1 : p1 ≤ a := by rw [← hp1, pow_wrap (by omega)]; have := hl hk0; omega
    clear hu hl
    go_enter Try.func3, Try.ntmps3
    go_wp2_with fail
    refine (H1 _).mono ?_
    rintro e w' ⟨rfl, hw⟩
    obtain rfl := hw.symm
    clear hw H1
    go_wp2_with fail
    refine (H2 _).mono ?_
    rintro e w' ⟨rfl, hw⟩
    obtain rfl := hw.symm
    clear hw H2
    go_wp2
    go_ret
    exact ⟨rfl, rfl⟩
  · clear hu hl
    go_enter Try.func3, Try.ntmps3
    go_wp2_with fail
    refine (H1 _).mono ?_
    rintro e w' ⟨rfl, hw⟩
    obtain rfl := hw.symm
    clear hw H1
    go_wp2_with fail
    refine (H2 _).mono ?_
    rintro e w' ⟨rfl, hw⟩
    obtain rfl := hw.symm
    clear hw H2
    go_wp2
    go_ret
    exact ⟨rfl, rfl⟩

/-- The second law's plain heart. -/
theorem bl_mono {a b : Nat} (h : a ≤ b) (hb : b < 9223372036854775808) : bl a ≤ bl b ∧ (bl a = bl b ↔ b < 2 ^ bl a) := by
  obtain ⟨a1, a2, a3⟩ := bl_bounds a (by omega)
  obtain ⟨b1, b2, b3⟩ := bl_bounds b hb
  have key : ∀ x y : Nat, x < y → (2 : Nat) ^ x ≤ 2 ^ (y - 1) := fun x y hxy => Nat.pow_le_pow_right (by omega) (by omega)
  have h1 : bl a ≤ bl b := by
    rcases Nat.lt_or_ge (bl b) (bl a) with h2 | h2
    · have := key _ _ h2; have := a3 (by omega); omega
    · exact h2
  refine ⟨h1, fun e => by rw [e]; exact b2, fun h2 => ?_⟩
  rcases Nat.lt_or_ge (bl a) (bl b) with h3 | h3
  · have := key _ _ h3; have := b3 (by omega); omega
  · omega

set_option maxRecDepth 100000 in
set_option maxHeartbeats 1000000 in
theorem f4le (a b : Int) (h0 : 0 ≤ a) (hab : a ≤ b) (hb : b ≤ 9223372036854775807) (w : World) :
    Calls Try.prog 4 #[.int .i64 a, .int .i64 b] w fun e w' => e = .returned (.bool true) ∧ w' = w := by
  have hm := bl_mono (a := a.toNat) (b := b.toNat) (by omega) (by omega)
  have ha := bl_bounds a.toNat (by omega)
  have hbb := bl_bounds b.toNat (by omega)
  have H1 := fun wx => f7 a wx (by omega) (by omega)
  have H2 := fun wx => f7 b wx (by omega) (by omega)
  generalize bl a.toNat = k at *
  generalize bl b.toNat = l at *
  obtain ⟨hk, -, -⟩ := ha
  obtain ⟨hl, hbl, -⟩ := hbb
  obtain ⟨hkl, hiff⟩ := hm
  obtain ⟨p, hp⟩ : ∃ p : Int, IntKind.u64.wrap ((2 : Int) ^ l) = p := ⟨_, rfl⟩
  have hbp : b < p := by rw [← hp, pow_wrap hl]; omega
  obtain ⟨q, hq⟩ : ∃ q : Int, IntKind.u64.wrap ((2 : Int) ^ k) = q := ⟨_, rfl⟩
  have hbq : ((k : Int) == (l : Int)) = decide (b < q) := by
    rw [← hq, pow_wrap hk, Bool.eq_iff_iff, beq_iff_eq, decide_eq_true_eq]
    constructor
    · intro e; have := hiff.1 (by omega); omega
    · intro e; have := hiff.2 (by omega); omega
  clear hbl hiff
  cases hd : decide (b < q)
  all_goals
    rw [hd] at hbq
    go_enter Try.func4, Try.ntmps4
    go_wp2_with fail
    refine (H1 _).mono ?_
    rintro e w' ⟨rfl, hw⟩
    obtain rfl := hw.symm
    clear hw H1
    go_wp2_with fail
    refine (H2 _).mono ?_
    rintro e w' ⟨rfl, hw⟩
    obtain rfl := hw.symm
    clear hw H2
    go_wp2
    go_ret
    exact ⟨rfl, rfl⟩

set_option maxRecDepth 100000 in
set_option maxHeartbeats 1000000 in
theorem f4gt (a b : Int) (h0 : 0 ≤ a) (hab : a < b) (hb : b ≤ 9223372036854775807) (w : World) :
    Calls Try.prog 4 #[.int .i64 b, .int .i64 a] w fun e w' => e = .returned (.bool true) ∧ w' = w := by
  have hm := bl_mono (a := a.toNat) (b := b.toNat) (by omega) (by omega)
  have ha := bl_bounds a.toNat (by omega)
  have hbb := bl_bounds b.toNat (by omega)
  have H1 := fun wx => f7 a wx (by omega) (by omega)
  have H2 := fun wx => f7 b wx (by omega) (by omega)
  generalize bl a.toNat = k at *
  generalize bl b.toNat = l at *
  obtain ⟨hk, -, -⟩ := ha
  obtain ⟨hl, hbl, -⟩ := hbb
  obtain ⟨hkl, hiff⟩ := hm
  obtain ⟨p, hp⟩ : ∃ p : Int, IntKind.u64.wrap ((2 : Int) ^ l) = p := ⟨_, rfl⟩
  have hbp : b < p := by rw [← hp, pow_wrap hl]; omega
  obtain ⟨q, hq⟩ : ∃ q : Int, IntKind.u64.wrap ((2 : Int) ^ k) = q := ⟨_, rfl⟩
  have hbq : ((k : Int) == (l : Int)) = decide (b < q) := by
    rw [← hq, pow_wrap hk, Bool.eq_iff_iff, beq_iff_eq, decide_eq_true_eq]
    constructor
    · intro e; have := hiff.1 (by omega); omega
    · intro e; have := hiff.2 (by omega); omega
  clear hbl hiff
  cases hd : decide (b < q)
  all_goals
    rw [hd] at hbq
    go_enter Try.func4, Try.ntmps4
    go_wp2_with fail
    refine (H1 _).mono ?_
    rintro e w' ⟨rfl, hw⟩
    obtain rfl := hw.symm
    clear hw H1
    go_wp2_with fail
    refine (H2 _).mono ?_
    rintro e w' ⟨rfl, hw⟩
    obtain rfl := hw.symm
    clear hw H2
    go_wp2
    go_ret
    exact ⟨rfl, rfl⟩

theorem f4 (a b : Int) (ha : a ≤ 9223372036854775807) (hb : b ≤ 9223372036854775807) (w : World) :
    Calls Try.prog 4 #[.int .i64 a, .int .i64 b] w fun e w' => e = .returned (.bool true) ∧ w' = w := by
  by_cases h0 : a < 0
  · go_enter Try.func4, Try.ntmps4
    go_wp2
    go_ret
    exact ⟨rfl, rfl⟩
  by_cases h1 : b < 0
  · go_enter Try.func4, Try.ntmps4
    go_wp2
    go_ret
    exact ⟨rfl, rfl⟩
  by_cases h2 : a ≤ b
  · exact f4le a b (by omega) h2 hb w
  · exact f4gt b a (by omega) (by omega) ha w

theorem le_of_wf {a : Int} (h : (Lit.int .i64 a).wf = true) : a ≤ 9223372036854775807 := by
  simp [Lit.wf, IntKind.min, IntKind.max, IntKind.bits, IntKind.signed] at h
  omega
end Go.Proofs.Qxb6618884a.Sb
