/-
  A PROOF OF 'Rows.FnLiteralTypeHangsOnKindAloneSaid'. The frame goes after the guide's proof-skeleton.mjs, turned by hand to two strings, two ints and two floats.
-/
import Derived.Test.Qxb6618870aRows
import Derived.WalkKit
import Derived.ProofKit
import Derived.OpenShut
import Derived.ShutString
import Derived.WalkLawsBesides
import Derived.Laws.Cover2
namespace Go.Proofs.Qxb6618870a.fnLiteralTypeHangsOnKindAlone
open Go.ChangeShapes Go.WideShapes Go.ChangeAt Go.RowKit
open Go.ChangeMaps (open_string shut_string)
set_option linter.unusedVariables false

theorem own : ownKnob Try.prog.godebug = none := by kernel_rfl

/-! ### THE CALLEES -/
theorem ta_s (s : ByteArray) (w : World) : (Instr.typeAssert (.iface 9 (.string s)) 35 9 true).run Try.prog w = .ok (.tuple #[.string s, .bool true]) w := by kernel_rfl
theorem ta_f (b : Nat) (w : World) : (Instr.typeAssert (.iface 23 (.float .f64 b)) 35 9 true).run Try.prog w = .ok (.tuple #[.string ⟨#[]⟩, .bool false]) w := by kernel_rfl
set_option maxRecDepth 100000 in
theorem f9 (s : ByteArray) (a : Int) (w : World) :
    Calls Try.prog 9 #[.string s, .int .i64 a] w fun e w' => e = .returned (.int .i64 3) ∧ Grown w w' := by
  have h := ta_s s
  go_enter Try.func9, Try.ntmps9
  go_wp2
  go_ret
  exact ⟨rfl, by repeat (first | exact Grown.refl _ | apply Grown.drew | apply Grown.alloc)⟩
set_option maxRecDepth 100000 in
theorem f10 (b : Nat) (w : World) :
    Calls Try.prog 10 #[.float .f64 b] w fun e w' => e = .returned (.int .i64 2) ∧ Grown w w' := by
  have h := ta_f b
  go_enter Try.func10, Try.ntmps10
  go_wp2
  go_ret
  exact ⟨rfl, by repeat (first | exact Grown.refl _ | apply Grown.drew | apply Grown.alloc)⟩
theorem f8 (s t : ByteArray) (a b : Int) (f g : Nat) (w : World) (hs : s.size ≤ maxLen) (ht : t.size ≤ maxLen) :
    Calls Try.prog 8 #[.string s, .string t, .int .i64 a, .int .i64 b, .float .f64 f, .float .f64 g] w fun e w' => e = .returned (.bool (decide (s.size + t.size ≤ 1048576))) ∧ w' = w := by
  unfold maxLen at hs ht
  by_cases h1 : s.size ≤ 1048576
  · by_cases h2 : t.size ≤ 1048576
    · by_cases h3 : s.size + t.size ≤ 1048576
      · rw [decide_eq_true h3]
        go_enter Try.func8, Try.ntmps8
        go_wp2
        go_ret
        exact ⟨rfl, rfl⟩
      · rw [decide_eq_false h3]
        go_enter Try.func8, Try.ntmps8
        go_wp2
        go_ret
        exact ⟨rfl, rfl⟩
    · rw [decide_eq_false (by omega)]
      go_enter Try.func8, Try.ntmps8
      go_wp2
      go_ret
      exact ⟨rfl, rfl⟩
  · rw [decide_eq_false (by omega)]
    go_enter Try.func8, Try.ntmps8
    go_wp2
    go_ret
    exact ⟨rfl, rfl⟩

/-! ### THE LAW's WALK -/
theorem grown_trans {a b c : World} (h : Grown a b) (h' : Grown b c) : Grown a c :=
  ⟨World.keptBut_trans h.1 h'.1, fun x => (h'.2.1 x).trans (h.2.1 x), Nat.le_trans h.2.2 h'.2.2⟩
theorem f8_no (s t : ByteArray) (a b : Int) (f g : Nat) (w : World) (hs : s.size ≤ maxLen) (ht : t.size ≤ maxLen) (h : ¬ s.size + t.size ≤ 1048576) :
    Calls Try.prog 8 #[.string s, .string t, .int .i64 a, .int .i64 b, .float .f64 f, .float .f64 g] w fun e w' => e = .returned (.bool false) ∧ w' = w := by
  have := f8 s t a b f g w hs ht
  rwa [decide_eq_false h] at this
theorem f8_yes (s t : ByteArray) (a b : Int) (f g : Nat) (w : World) (hs : s.size ≤ maxLen) (ht : t.size ≤ maxLen) (h : s.size + t.size ≤ 1048576) :
    Calls Try.prog 8 #[.string s, .string t, .int .i64 a, .int .i64 b, .float .f64 f, .float .f64 g] w fun e w' => e = .returned (.bool true) ∧ w' = w := by
  have := f8 s t a b f g w hs ht
  rwa [decide_eq_true h] at this
set_option maxHeartbeats 800000 in
set_option maxRecDepth 100000 in
theorem walk (s t : ByteArray) (a b : Int) (f g : Nat) (w : World) (hs : s.size ≤ maxLen) (ht : t.size ≤ maxLen) :
    Calls Try.prog 4 #[.string s, .string t, .int .i64 a, .int .i64 b, .float .f64 f, .float .f64 g] w fun e w' => e = .returned (.bool true) ∧ Grown w w' := by
  by_cases h : s.size + t.size ≤ 1048576
  · have H8 := f8_yes s t a b f g w hs ht h
    clear hs ht
    go_enter Try.func4, Try.ntmps4
    go_wp2_with (first | (go_at_call 8; refine H8.mono ?_; rintro e w' ⟨rfl, rfl⟩) | (go_at_call 9; refine (f9 _ _ _).mono ?_; rintro e w' ⟨rfl, hg⟩) | (go_at_call 10; refine (f10 _ _).mono ?_; rintro e w' ⟨rfl, hg⟩))
    go_ret
    exact ⟨rfl, by repeat (first | exact Grown.refl _ | assumption | refine grown_trans ?_ (by assumption))⟩
  · have H8 := f8_no s t a b f g w hs ht h
    clear hs ht
    go_enter Try.func4, Try.ntmps4
    go_wp2_with (first | (go_at_call 8; refine H8.mono ?_; rintro e w' ⟨rfl, rfl⟩))
    go_ret
    exact ⟨rfl, Grown.refl _⟩

/-! ### THE ROW's STEP -/
set_option maxRecDepth 100000 in
theorem lifted (os : Os) (started : os.Started) (H : Type) (enc : TypeId × Value → H) :
    ReturnsInHanded {} Try.checked os 4 .any (Rows.fnLiteralTypeHangsOnKindAloneSpec.pre6 enc Try.prog Try.f4 Rows.fnLiteralTypeHangsOnKindAloneRow.domain false) (Rows.fnLiteralTypeHangsOnKindAloneSpec.post enc Try.prog Try.f4 false true false false) := by
  refine returnsInHanded_of_change (C := Try.checked) own started (by kernel_rfl) Try.func4
    (ChangeSpec.witness6 (enc := enc) (C := Try.checked) false ⟨#[], #[.string ⟨#[]⟩, .string ⟨#[]⟩, .int .i64 0, .int .i64 0, .float .f64 0, .float .f64 0], []⟩ 8 (by kernel_rfl) (by kernel_rfl) (by kernel_rfl) (by kernel_rfl)) ?_
  intro W base args ds gs before hval0 hW hcnd _
  have hval : ∀ (j : Nat) t v, Try.f4.params[j]? = some t → args[j]? = some v → Value.okWide Try.prog W .any base t v := hval0
  have hW' := hW
  obtain ⟨p, q, hA0, hV, rfl, hfz, hnd⟩ := hW
  have hA : DataW.TrodAll enc Try.prog W 0 (fun _ => true) true Try.f4.params.toList args.toList ds p := hA0
  rw [Try.params4] at hA hval
  obtain ⟨v0, vs0, d0, ds0, p0, q0, hargs, rfl, rfl, h0, r0⟩ := trodAll_cons hA
  obtain ⟨v1, vs1, d1, ds1, p1, q1, rfl, rfl, rfl, h1, r1⟩ := trodAll_cons r0
  obtain ⟨v2, vs2, d2, ds2, p2, q2, rfl, rfl, rfl, h2, r2⟩ := trodAll_cons r1
  obtain ⟨v3, vs3, d3, ds3, p3, q3, rfl, rfl, rfl, h3, r3⟩ := trodAll_cons r2
  obtain ⟨v4, vs4, d4, ds4, p4, q4, rfl, rfl, rfl, h4, r4⟩ := trodAll_cons r3
  obtain ⟨v5, vs5, d5, ds5, p5, q5, rfl, rfl, rfl, h5, r5⟩ := trodAll_cons r4
  obtain ⟨rfl, rfl, rfl⟩ := trodAll_nil r5
  obtain rfl : args = #[v0, v1, v2, v3, v4, v5] := by cases args; simp_all
  obtain ⟨rfl, rfl⟩ := trodVars_none hV
  obtain ⟨s, rfl, rfl, rfl, w0⟩ := open_string Try.underlying9 (hval 0 9 v0 rfl rfl) h0
  obtain ⟨t, rfl, rfl, rfl, w1⟩ := open_string Try.underlying9 (hval 1 9 v1 rfl rfl) h1
  obtain ⟨a, rfl, rfl, rfl, w2⟩ := open_int Try.underlying3 (hval 2 3 v2 rfl rfl) h2
  obtain ⟨b, rfl, rfl, rfl, w3⟩ := open_int Try.underlying3 (hval 3 3 v3 rfl rfl) h3
  obtain ⟨f, rfl, rfl, rfl, w4⟩ := open_float Try.underlying23 (hval 4 23 v4 rfl rfl) h4
  obtain ⟨g, rfl, rfl, rfl, w5⟩ := open_float Try.underlying23 (hval 5 23 v5 rfl rfl) h5
  clear hA0 hval0
  simp only [List.append_nil] at hW'
  refine (walk s t a b f g W w0 w1).mono fun e W' ⟨he, hg⟩ => ?_
  subst he
  exact ⟨_, rfl, post_of_same (pa := []) (pv := []) hW' (fun _ _ _ => (trodAll_cons_mk (shut_bool Try.underlying4 _) trodAll_mk0)) (fun sp _ => (trodAll_cons_mk (shut_string Try.underlying9 w0) (trodAll_cons_mk (shut_string Try.underlying9 w1) (trodAll_cons_mk (shut_int Try.underlying3 w2) (trodAll_cons_mk (shut_int Try.underlying3 w3) (trodAll_cons_mk (shut_float Try.underlying23 w4) (trodAll_cons_mk (shut_float Try.underlying23 w5) trodAll_mk0))))))) (fun _ _ => rfl) rfl
    (hg.frame _) hg.2.1 (ok_one (by kernel_rfl) rfl (okWide_bool_mk Try.underlying4 _))⟩

theorem over : Rows.fnLiteralTypeHangsOnKindAloneRow.holds Try.pinned (OpenSpec.ofChange Rows.fnLiteralTypeHangsOnKindAloneSpec) :=
  OpenClaim.holds_of_wide 4 Try.f4 rfl rfl rfl rfl rfl rfl rfl ⟨rfl, rfl, rfl, rfl, rfl⟩ rfl rfl rfl rfl rfl (by kernel_rfl) Try.func4 (by kernel_rfl)
    (of_decide_eq_true (by kernel_rfl)) (by unfold Func.isWrapper; first | (rw [if_pos (by decide +kernel)]; kernel_rfl) | (rw [if_neg (by decide +kernel)]; exact ⟨rfl, rfl⟩))
    (fun os started H enc _ => lifted os started H enc)

/-- THE STATEMENT -/
theorem proved : Rows.FnLiteralTypeHangsOnKindAloneSaid :=
  over
#print axioms proved
end Go.Proofs.Qxb6618870a.fnLiteralTypeHangsOnKindAlone
