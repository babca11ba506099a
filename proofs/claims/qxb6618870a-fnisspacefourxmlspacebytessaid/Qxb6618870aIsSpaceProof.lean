/-
  A PROOF OF 'Rows.FnIsSpaceFourXMLSpaceBytesSaid' ('example.com/yangstream/yangstream/zzlaws_xpath_b1.FnIsSpaceFourXMLSpaceBytes'), its frame by the guide's proof-skeleton.mjs.
-/
import Derived.Test.Qxb6618870aRows
import Derived.WalkKit
import Derived.ProofKit
import Derived.OpenShut
import Derived.ShutString
import Derived.WalkLawsBesides
namespace Go.Proofs.Qxb6618870a.fnIsSpaceFourXMLSpaceBytes
open Go.ChangeShapes Go.WideShapes Go.ChangeAt Go.RowKit
open Go.ChangeMaps (open_string shut_string)
set_option linter.unusedVariables false      -- a walk need not use every 'w<i>' (that an integer argument fits its kind)

theorem own : ownKnob Try.prog.godebug = none := by kernel_rfl

/-! ### THE WALK: the Go text returns true -/
theorem f18_yes (c : Int) (h : c = 32 ∨ c = 9 ∨ c = 10 ∨ c = 13) (w : World) :
    Calls Try.prog 7 #[.int .u8 c] w fun e w' => e = .returned (.bool true) ∧ w' = w := by
  rcases h with rfl | rfl | rfl | rfl <;>
  · go_enter Try.func7, Try.ntmps7
    go_wp2
    go_ret
    exact ⟨rfl, rfl⟩

theorem f18_no (c : Int) (h : ¬ (c = 32 ∨ c = 9 ∨ c = 10 ∨ c = 13)) (w : World) :
    Calls Try.prog 7 #[.int .u8 c] w fun e w' => e = .returned (.bool false) ∧ w' = w := by
  have h1 : (c == 32) = false := beq_eq_false_iff_ne.2 (by omega)
  have h2 : (c == 9) = false := beq_eq_false_iff_ne.2 (by omega)
  have h3 : (c == 10) = false := beq_eq_false_iff_ne.2 (by omega)
  have h4 : (c == 13) = false := beq_eq_false_iff_ne.2 (by omega)
  clear h
  go_enter Try.func7, Try.ntmps7
  go_wp2
  go_ret
  exact ⟨rfl, rfl⟩

def isSpB (c : Int) : Bool := decide (c = 32 ∨ c = 9 ∨ c = 10 ∨ c = 13)
theorem f7_any (c : Int) (w : World) :
    Calls Try.prog 7 #[.int .u8 c] w fun e w' => e = .returned (.bool (isSpB c)) ∧ w' = w := by
  by_cases h : c = 32 ∨ c = 9 ∨ c = 10 ∨ c = 13
  · rw [show isSpB c = true from decide_eq_true h]; exact f18_yes c h w
  · rw [show isSpB c = false from decide_eq_false h]; exact f18_no c h w

def nTo (k : Nat) : Int := if k ≤ 9 then 0 else if k ≤ 10 then 1 else if k ≤ 13 then 2 else if k ≤ 32 then 3 else 4
def loTo (k : Nat) : Int := if k ≤ 9 then 256 else 9
def hiTo (k : Nat) : Int := if k ≤ 9 then -1 else if k ≤ 10 then 9 else if k ≤ 13 then 10 else if k ≤ 32 then 13 else 32
theorem step (n lo hi : Int) (k : Nat) (h : n = nTo k ∧ lo = loTo k ∧ hi = hiTo k) (hk : k < 256) :
   (0 ≤ n ∧ n ≤ 4) ∧ (isSpB k = true → (lo : Int) = (if (k:Int) < lo then 256 else 9) ∧ (k : Int) > hi ∧ n + 1 = nTo (k+1) ∧ (if (k:Int) < lo then (k : Int) else lo) = loTo (k+1) ∧ (k : Int) = hiTo (k+1)) ∧ (isSpB k = false → n = nTo (k+1) ∧ lo = loTo (k+1) ∧ hi = hiTo (k+1)) := by
  obtain ⟨rfl, rfl, rfl⟩ := h
  simp only [nTo, loTo, hiTo, isSpB, decide_eq_true_eq, decide_eq_false_iff_not]
  refine ⟨?_, ?_, ?_⟩
  · split <;> (try split) <;> (try split) <;> (try split) <;> omega
  · intro h
    have : k = 32 ∨ k = 9 ∨ k = 10 ∨ k = 13 := by omega
    rcases this with rfl | rfl | rfl | rfl <;> simp
  · intro h
    have : k ≠ 32 ∧ k ≠ 9 ∧ k ≠ 10 ∧ k ≠ 13 := by omega
    refine ⟨?_, ?_, ?_⟩
    all_goals (repeat' split) <;> omega

set_option maxRecDepth 100000 in
set_option maxHeartbeats 800000 in
theorem walk (a0 : Int) (w0 : (Lit.int .u8 a0).wf = true) (w : World) :
    Calls Try.prog 3 #[.int .u8 a0] w fun e w' => e = .returned (.bool true) ∧ Grown w w' := by
  go_enter Try.func3, Try.ntmps3
  go_wp2
  go_loop [3, 4, 5, 6] (fun n lo hi i => ∃ (k : Nat) (n' lo' hi' : Int), k ≤ 256 ∧ i = .int .i64 k ∧ n = .int .i64 n' ∧ lo = .int .i64 lo' ∧ hi = .int .i64 hi' ∧ Hid (n' = nTo k ∧ lo' = loTo k ∧ hi' = hiTo k)) (fun _ _ _ i => 256 - (intOf i).toNat)
  case atStart => exact ⟨0, 0, 256, -1, by omega, rfl, rfl, rfl, rfl, (show _ ∧ _ ∧ _ from by decide)⟩
  case round =>
    obtain ⟨k, n, lo, hi, hk, rfl, rfl, rfl, rfl, H⟩ := hrel
    by_cases hlt : k < 256
    · have hs := step n lo hi k H.out hlt
      obtain ⟨hn, hy, hno⟩ := hs
      cases hb : isSpB k
      · have HN : Hid _ := hno hb
        clear hy hno
        go_wp2_with (go_at_call 7; refine (f7_any _ _).mono ?_; rintro e w' ⟨rfl, rfl⟩)
        go_round
        case rel => exact ⟨k + 1, n, lo, hi, by omega, by go_num, rfl, rfl, rfl, HN.out⟩
        case measure => simp [intOf]; omega
      · obtain ⟨h1, h2, h3⟩ := hy hb
        have HN : Hid _ := h3
        clear hy hno h3
        by_cases hl : (k : Int) < lo
        · have HL : Hid _ := h1
          clear h1
          go_wp2_with (go_at_call 7; refine (f7_any _ _).mono ?_; rintro e w' ⟨rfl, rfl⟩)
          go_round
          case rel => exact ⟨k + 1, n + 1, k, k, by omega, by go_num, rfl, rfl, rfl, (show _ ∧ _ ∧ _ from ⟨HN.out.1, by have := HN.out.2.1; rwa [if_pos hl] at this, HN.out.2.2⟩)⟩
          case measure => simp [intOf]; omega
        · have HL : Hid _ := h1
          clear h1
          go_wp2_with (go_at_call 7; refine (f7_any _ _).mono ?_; rintro e w' ⟨rfl, rfl⟩)
          go_round
          case rel => exact ⟨k + 1, n + 1, lo, k, by omega, by go_num, rfl, rfl, rfl, (show _ ∧ _ ∧ _ from ⟨HN.out.1, by have := HN.out.2.1; rwa [if_neg (by omega)] at this, HN.out.2.2⟩)⟩
          case measure => simp [intOf]; omega
    · obtain rfl : k = 256 := by omega
      obtain ⟨rfl, rfl, rfl⟩ := H.out
      have e1 : nTo 256 = 4 := by decide
      have e2 : loTo 256 = 9 := by decide
      have e3 : hiTo 256 = 32 := by decide
      rw [e1, e2, e3]
      clear H e1 e2 e3
      have s1 : isSpB 11 = false := by decide
      have s2 : isSpB 12 = false := by decide
      have s3 : isSpB 133 = false := by decide
      have s4 : isSpB 160 = false := by decide
      cases hb : isSpB a0
      · go_wp2_with (go_at_call 7; refine (f7_any _ _).mono ?_; rintro e w' ⟨rfl, rfl⟩)
        go_ret
        exact ⟨rfl, Grown.refl _⟩
      · have hr : a0 = 32 ∨ a0 = 9 ∨ a0 = 10 ∨ a0 = 13 := of_decide_eq_true hb
        have h1 : 9 ≤ a0 := by omega
        have h2 : a0 ≤ 32 := by omega
        clear hr
        go_wp2_with (go_at_call 7; refine (f7_any _ _).mono ?_; rintro e w' ⟨rfl, rfl⟩)
        go_ret
        exact ⟨rfl, Grown.refl _⟩

/-! ### THE ROW's STEP: WRITTEN OUT: LEAVE IT -/
set_option maxRecDepth 100000 in
theorem lifted (os : Os) (started : os.Started) (H : Type) (enc : TypeId × Value → H) :
    ReturnsInHanded {} Try.checked os 3 .any (Rows.fnIsSpaceFourXMLSpaceBytesSpec.pre6 enc Try.prog Try.f3 Rows.fnIsSpaceFourXMLSpaceBytesRow.domain false) (Rows.fnIsSpaceFourXMLSpaceBytesSpec.post enc Try.prog Try.f3 false true false false) := by
  refine returnsInHanded_of_change (C := Try.checked) own started (by kernel_rfl) Try.func3
    (ChangeSpec.witness6 (enc := enc) (C := Try.checked) false ⟨#[], #[.int .u8 0], []⟩ 8 (by kernel_rfl) (by kernel_rfl) (by kernel_rfl) (by kernel_rfl)) ?_
  intro W base args ds gs before hval0 hW hcnd _
  have hval : ∀ (j : Nat) t v, Try.f3.params[j]? = some t → args[j]? = some v → Value.okWide Try.prog W .any base t v := hval0
  have hW' := hW
  obtain ⟨p, q, hA0, hV, rfl, hfz, hnd⟩ := hW
  have hA : DataW.TrodAll enc Try.prog W 0 (fun _ => true) true Try.f3.params.toList args.toList ds p := hA0
  rw [Try.params3] at hA hval
  obtain ⟨v0, vs0, d0, ds0, p0, q0, hargs, rfl, rfl, h0, r0⟩ := trodAll_cons hA
  obtain ⟨rfl, rfl, rfl⟩ := trodAll_nil r0
  obtain rfl : args = #[v0] := by cases args; simp_all
  obtain ⟨rfl, rfl⟩ := trodVars_none hV
  obtain ⟨a0, rfl, rfl, rfl, w0⟩ := open_int Try.underlying5 (hval 0 5 v0 rfl rfl) h0
  clear hA0 hval0
  simp only [List.append_nil] at hW'
  refine (walk a0 w0 W).mono fun e W' ⟨he, hg⟩ => ?_
  subst he
  exact ⟨_, rfl, post_of_same (pa := []) (pv := []) hW' (fun _ _ _ => (trodAll_cons_mk (shut_bool Try.underlying4 _) trodAll_mk0)) (fun sp _ => (trodAll_cons_mk (shut_int Try.underlying5 w0) trodAll_mk0)) (fun _ _ => rfl) rfl
    (hg.frame _) hg.2.1 (ok_one (by kernel_rfl) rfl (okWide_bool_mk Try.underlying4 _))⟩

theorem over : Rows.fnIsSpaceFourXMLSpaceBytesRow.holds Try.pinned (OpenSpec.ofChange Rows.fnIsSpaceFourXMLSpaceBytesSpec) :=
  OpenClaim.holds_of_wide 3 Try.f3 rfl rfl rfl rfl rfl rfl rfl ⟨rfl, rfl, rfl, rfl, rfl⟩ rfl rfl rfl rfl rfl (by kernel_rfl) Try.func3 (by kernel_rfl)
    (of_decide_eq_true (by kernel_rfl)) (by unfold Func.isWrapper; first | (rw [if_pos (by decide +kernel)]; kernel_rfl) | (rw [if_neg (by decide +kernel)]; exact ⟨rfl, rfl⟩))
    (fun os started H enc _ => lifted os started H enc)

/-- ████ THE STATEMENT ████ -/
theorem proved : Rows.FnIsSpaceFourXMLSpaceBytesSaid :=
  over
#print axioms proved
end Go.Proofs.Qxb6618870a.fnIsSpaceFourXMLSpaceBytes
