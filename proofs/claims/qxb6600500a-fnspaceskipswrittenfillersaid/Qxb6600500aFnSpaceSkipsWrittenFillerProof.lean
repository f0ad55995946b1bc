/-
  Seat b6600500a: the proof of Rows.FnSpaceSkipsWrittenFillerSaid: the shell of the kit, its walk filled.
-/
import Derived.Test.Qxb6600500aRows
import Derived.WalkKit
import Derived.ProofKit
import Derived.OpenShut
import Derived.ShutString
import Derived.Test.Qxb6600500aSpace
import Derived.Test.Qxb6600500aModel
import Derived.Test.Qxb6600500aFill
namespace Go.Proofs.Qxb6600500a.fnSpaceSkipsWrittenFiller
open Go.ChangeShapes Go.WideShapes Go.ChangeAt Go.RowKit
open Go.ChangeMaps (open_string shut_string)
set_option linter.unusedVariables false      -- a walk need not use every 'w<i>' (that an integer argument fits its kind)

theorem own : ownKnob Try.prog.godebug = none := by kernel_rfl

theorem bytes_yes (a0 a1 a2 a3 : ByteArray) (w : World) (h : a0.size + a1.size + a2.size + a3.size ≤ 1048576) :
    Calls Try.prog 11 #[.string a0, .string a1, .string a2, .string a3] w fun e w' => e = .returned (.bool true) ∧ w' = w := by
  go_enter Try.func11, Try.ntmps11
  go_wp2
  go_ret
  exact ⟨rfl, rfl⟩
theorem bytes_no (a0 a1 a2 a3 : ByteArray) (w : World) (h : 1048576 < a0.size + a1.size + a2.size + a3.size) :
    Calls Try.prog 11 #[.string a0, .string a1, .string a2, .string a3] w fun e w' => e = .returned (.bool false) ∧ w' = w := by
  go_enter Try.func11, Try.ntmps11
  go_wp2
  all_goals (go_ret; exact ⟨rfl, rfl⟩)

theorem below_scan {w w1 : World} (h : Below w.heap.size w w1) (s : ByteArray) (k : Nat) (v : Value) (n : Nat) : Below w.heap.size w (scan w1 s k v n) := by
  have := h.alloc h.size (.cells #[.string s, .int .i64 k, v] 33)
  exact ⟨this.os, this.tape, this.output, this.size, this.block⟩

theorem opens_of (t : ByteArray) (h : t.size = 0 ∨ (0 < t.size ∧ bt t 0 ≠ 32 ∧ bt t 0 ≠ 9 ∧ bt t 0 ≠ 13 ∧ bt t 0 ≠ 10 ∧ bt t 0 ≠ 35)) : opens t.data.toList := by
  rcases h with h | ⟨h, h1, h2, h3, h4, h5⟩
  · have e : t.data.toList = [] := List.eq_nil_of_length_eq_zero (by simpa using h)
    rw [e]; trivial
  · have e := drop_at t 0 h
    rw [List.drop_zero] at e
    rw [e]
    exact ⟨fun x => h1 ((bt_is t 0 32 h (by omega)).2 x), fun x => h2 ((bt_is t 0 9 h (by omega)).2 x), fun x => h3 ((bt_is t 0 13 h (by omega)).2 x), fun x => h4 ((bt_is t 0 10 h (by omega)).2 x), fun x => h5 ((bt_is t 0 35 h (by omega)).2 x)⟩

set_option maxHeartbeats 400000 in
theorem case_big (a0 a1 a2 a3 : ByteArray) (w : World) (hz : 1048576 < a0.size + a1.size + a2.size + a3.size) :
    Calls Try.prog 4 #[.string a0, .string a1, .string a2, .string a3] w fun e w' => e = .returned (.bool true) ∧ Below w.heap.size w w' := by
  go_enter Try.func4, Try.ntmps4
  go_wp2_with (first | (go_at_call 11; refine (bytes_no a0 a1 a2 a3 _ hz).mono ?_; rintro e w' ⟨rfl, rfl⟩))
  go_ret
  exact ⟨rfl, Below.refl _ _⟩

set_option maxHeartbeats 400000 in
theorem case_lay (a0 a1 a2 a3 : ByteArray) (w : World) (hz : a0.size + a1.size + a2.size + a3.size ≤ 1048576) (h1 : 65536 < a1.size) :
    Calls Try.prog 4 #[.string a0, .string a1, .string a2, .string a3] w fun e w' => e = .returned (.bool true) ∧ Below w.heap.size w w' := by
  go_enter Try.func4, Try.ntmps4
  go_wp2_with (first | (go_at_call 11; refine (bytes_yes a0 a1 a2 a3 _ hz).mono ?_; rintro e w' ⟨rfl, rfl⟩))
  go_ret
  exact ⟨rfl, Below.refl _ _⟩

set_option maxHeartbeats 400000 in
theorem case_notes (a0 a1 a2 a3 : ByteArray) (w : World) (hz : a0.size + a1.size + a2.size + a3.size ≤ 1048576) (h1 : a1.size ≤ 65536) (h2 : 65536 < a2.size) :
    Calls Try.prog 4 #[.string a0, .string a1, .string a2, .string a3] w fun e w' => e = .returned (.bool true) ∧ Below w.heap.size w w' := by
  go_enter Try.func4, Try.ntmps4
  go_wp2_with (first | (go_at_call 11; refine (bytes_yes a0 a1 a2 a3 _ hz).mono ?_; rintro e w' ⟨rfl, rfl⟩))
  go_ret
  exact ⟨rfl, Below.refl _ _⟩

set_option maxHeartbeats 400000 in
theorem case_none (a0 a1 a2 a3 : ByteArray) (w : World) (hz : a0.size + a1.size + a2.size + a3.size ≤ 1048576) (h1 : a1.size ≤ 65536) (h2 : a2.size ≤ 65536) (h0 : ¬ 0 < a3.size) :
    Calls Try.prog 4 #[.string a0, .string a1, .string a2, .string a3] w fun e w' => e = .returned (.bool true) ∧ Below w.heap.size w w' := by
  obtain ⟨fb, hfb⟩ : ∃ fb : ByteArray, fb = ⟨(fill a1.data.toList a2.data.toList).toArray⟩ := ⟨_, rfl⟩
  have HT : Hid (stop (a0 ++ fb ++ a3) false a0.size = a0.size + fb.size) := stop_filler a0 fb a3 a1.data.toList a2.data.toList (by rw [hfb]) (opens_of a3 (.inl (by omega)))
  have hfs : fb.size ≤ 2 * a1.size + a2.size := by
    have := fill_le a1.data.toList a2.data.toList
    rw [hfb]; show (fill a1.data.toList a2.data.toList).toArray.size ≤ _; simpa using this
  have hts : (a0 ++ fb ++ a3).size ≤ 9223372036854775807 := by rw [ByteArray.size_append, ByteArray.size_append]; omega
  have HFB : Hid (fb = ⟨(fill a1.data.toList a2.data.toList).toArray⟩) := hfb
  clear hfb
  go_enter Try.func4, Try.ntmps4
  go_wp2_with (first | (go_at_call 11; refine (bytes_yes a0 a1 a2 a3 _ hz).mono ?_; rintro e w' ⟨rfl, rfl⟩) | (go_at_call 13; refine (fill_any a1 a2 _ (by omega) (by omega)).mono ?_; rintro e w5 ⟨rfl, hb5⟩; rw [← HFB.out]) | (go_at_call 9; refine (zzspace_any w5 _ _ hts (by omega)).mono ?_; rintro e w' ⟨rfl, n, rfl⟩; rw [HT.out]))
  go_ret
  exact ⟨rfl, below_scan hb5 _ _ _ _⟩

set_option maxHeartbeats 400000 in
theorem case_blank (a0 a1 a2 a3 : ByteArray) (w : World) (hz : a0.size + a1.size + a2.size + a3.size ≤ 1048576) (h1 : a1.size ≤ 65536) (h2 : a2.size ≤ 65536) (h0 : 0 < a3.size) (HB : Hid (bt a3 0 = 32 ∨ bt a3 0 = 9 ∨ bt a3 0 = 13 ∨ bt a3 0 = 10)) :
    Calls Try.prog 4 #[.string a0, .string a1, .string a2, .string a3] w fun e w' => e = .returned (.bool true) ∧ Below w.heap.size w w' := by
  have hbt := get_bt a3
  go_enter Try.func4, Try.ntmps4
  go_wp2_with (first | (go_at_call 11; refine (bytes_yes a0 a1 a2 a3 _ hz).mono ?_; rintro e w' ⟨rfl, rfl⟩) | (go_at_call 12; refine (blank_yes _ _ HB.out).mono ?_; rintro e w' ⟨rfl, rfl⟩))
  go_ret
  exact ⟨rfl, Below.refl _ _⟩

set_option maxHeartbeats 400000 in
theorem case_hash (a0 a1 a2 a3 : ByteArray) (w : World) (hz : a0.size + a1.size + a2.size + a3.size ≤ 1048576) (h1 : a1.size ≤ 65536) (h2 : a2.size ≤ 65536) (h0 : 0 < a3.size) (HB : Hid (bt a3 0 ≠ 32 ∧ bt a3 0 ≠ 9 ∧ bt a3 0 ≠ 13 ∧ bt a3 0 ≠ 10)) (h35 : bt a3 0 = 35) :
    Calls Try.prog 4 #[.string a0, .string a1, .string a2, .string a3] w fun e w' => e = .returned (.bool true) ∧ Below w.heap.size w w' := by
  have hbt := get_bt a3
  rw [h35] at HB
  go_enter Try.func4, Try.ntmps4
  go_wp2_with (first | (go_at_call 11; refine (bytes_yes a0 a1 a2 a3 _ hz).mono ?_; rintro e w' ⟨rfl, rfl⟩) | (go_at_call 12; refine (blank_no _ _ (by decide)).mono ?_; rintro e w' ⟨rfl, rfl⟩))
  go_ret
  exact ⟨rfl, Below.refl _ _⟩

set_option maxHeartbeats 400000 in
theorem case_token (a0 a1 a2 a3 : ByteArray) (w : World) (hz : a0.size + a1.size + a2.size + a3.size ≤ 1048576) (h1 : a1.size ≤ 65536) (h2 : a2.size ≤ 65536) (h0 : 0 < a3.size) (HB : Hid (bt a3 0 ≠ 32 ∧ bt a3 0 ≠ 9 ∧ bt a3 0 ≠ 13 ∧ bt a3 0 ≠ 10)) (h35 : bt a3 0 ≠ 35) :
    Calls Try.prog 4 #[.string a0, .string a1, .string a2, .string a3] w fun e w' => e = .returned (.bool true) ∧ Below w.heap.size w w' := by
  obtain ⟨fb, hfb⟩ : ∃ fb : ByteArray, fb = ⟨(fill a1.data.toList a2.data.toList).toArray⟩ := ⟨_, rfl⟩
  have HT : Hid (stop (a0 ++ fb ++ a3) false a0.size = a0.size + fb.size) := stop_filler a0 fb a3 a1.data.toList a2.data.toList (by rw [hfb]) (opens_of a3 (.inr ⟨h0, HB.out.1, HB.out.2.1, HB.out.2.2.1, HB.out.2.2.2, h35⟩))
  have hfs : fb.size ≤ 2 * a1.size + a2.size := by
    have := fill_le a1.data.toList a2.data.toList
    rw [hfb]; show (fill a1.data.toList a2.data.toList).toArray.size ≤ _; simpa using this
  have hts : (a0 ++ fb ++ a3).size ≤ 9223372036854775807 := by rw [ByteArray.size_append, ByteArray.size_append]; omega
  have HFB : Hid (fb = ⟨(fill a1.data.toList a2.data.toList).toArray⟩) := hfb
  clear hfb
  have hbt := get_bt a3
  go_enter Try.func4, Try.ntmps4
  go_wp2_with (first | (go_at_call 11; refine (bytes_yes a0 a1 a2 a3 _ hz).mono ?_; rintro e w' ⟨rfl, rfl⟩) | (go_at_call 12; refine (blank_no _ _ HB.out).mono ?_; rintro e w' ⟨rfl, rfl⟩) | (go_at_call 13; refine (fill_any a1 a2 _ (by omega) (by omega)).mono ?_; rintro e w5 ⟨rfl, hb5⟩; rw [← HFB.out]) | (go_at_call 9; refine (zzspace_any w5 _ _ hts (by omega)).mono ?_; rintro e w' ⟨rfl, n, rfl⟩; rw [HT.out]))
  go_ret
  exact ⟨rfl, below_scan hb5 _ _ _ _⟩

/-! ### The walk -/
set_option maxHeartbeats 4000000 in
theorem walk (a0 : ByteArray) (a1 : ByteArray) (a2 : ByteArray) (a3 : ByteArray) (w0 : a0.size ≤ maxLen) (w1 : a1.size ≤ maxLen) (w2 : a2.size ≤ maxLen) (w3 : a3.size ≤ maxLen) (w : World) :
    Calls Try.prog 4 #[.string a0, .string a1, .string a2, .string a3] w fun e w' => e = .returned (.bool true) ∧ Below w.heap.size w w' := by
  clear w0 w1 w2 w3
  by_cases hz : a0.size + a1.size + a2.size + a3.size ≤ 1048576
  · by_cases h1 : a1.size ≤ 65536
    · by_cases h2 : a2.size ≤ 65536
      · by_cases h0 : 0 < a3.size
        · by_cases hb : bt a3 0 = 32 ∨ bt a3 0 = 9 ∨ bt a3 0 = 13 ∨ bt a3 0 = 10
          · exact case_blank a0 a1 a2 a3 w hz h1 h2 h0 hb
          · have hb' : bt a3 0 ≠ 32 ∧ bt a3 0 ≠ 9 ∧ bt a3 0 ≠ 13 ∧ bt a3 0 ≠ 10 := by omega
            by_cases h35 : bt a3 0 = 35
            · exact case_hash a0 a1 a2 a3 w hz h1 h2 h0 hb' h35
            · exact case_token a0 a1 a2 a3 w hz h1 h2 h0 hb' h35
        · exact case_none a0 a1 a2 a3 w hz h1 h2 h0
      · exact case_notes a0 a1 a2 a3 w hz h1 (by omega)
    · exact case_lay a0 a1 a2 a3 w hz (by omega)
  · exact case_big a0 a1 a2 a3 w (by omega)

/-! ### THE ROW's STEP: WRITTEN OUT: LEAVE IT -/
set_option maxRecDepth 100000 in
theorem lifted (os : Os) (started : os.Started) (H : Type) (enc : TypeId × Value → H) :
    ReturnsInHanded {} Try.checked os 4 .any (Rows.fnSpaceSkipsWrittenFillerSpec.pre6 enc Try.prog Try.f4 Rows.fnSpaceSkipsWrittenFillerRow.domain false) (Rows.fnSpaceSkipsWrittenFillerSpec.post enc Try.prog Try.f4 false true false false) := by
  refine returnsInHanded_of_change (C := Try.checked) own started (by kernel_rfl) Try.func4
    (ChangeSpec.witness6 (enc := enc) (C := Try.checked) false ⟨#[], #[.string ByteArray.empty, .string ByteArray.empty, .string ByteArray.empty, .string ByteArray.empty], []⟩ 8 (by kernel_rfl) (by kernel_rfl) (by kernel_rfl) (by kernel_rfl)) ?_
  intro W base args ds gs before hval0 hW hcnd _
  have hval : ∀ (j : Nat) t v, Try.f4.params[j]? = some t → args[j]? = some v → Value.okWide Try.prog W .any base t v := hval0
  have hW' := hW
  obtain ⟨p, q, hA0, hV, rfl, hfz, hnd⟩ := hW
  have hA : DataW.TrodAll enc Try.prog W 0 (fun _ => true) true Try.f4.params.toList args.toList ds p := hA0
  rw [Try.params4] at hA hval
  obtain ⟨v0, vs0, d0, ds0, p0, q0, hargs, rfl, rfl, h0, r0⟩ := trodAll_cons hA
  obtain ⟨v1, vs1, d1, ds1, p1, q1, rfl, rfl, rfl, h1, r1⟩ := trodAll_cons r0
  obtain ⟨v2, vs2, d2, ds2, p2, q2, rfl, rfl, rfl, h2, r2⟩ := trodAll_cons r1
  obtain ⟨v3, vs3, d3, ds3, p3, q3, rfl, rfl, rfl, h3, r3⟩ := trodAll_cons r2
  obtain ⟨rfl, rfl, rfl⟩ := trodAll_nil r3
  obtain rfl : args = #[v0, v1, v2, v3] := by cases args; simp_all
  obtain ⟨rfl, rfl⟩ := trodVars_none hV
  obtain ⟨a0, rfl, rfl, rfl, w0⟩ := open_string Try.underlying9 (hval 0 9 v0 rfl rfl) h0
  obtain ⟨a1, rfl, rfl, rfl, w1⟩ := open_string Try.underlying9 (hval 1 9 v1 rfl rfl) h1
  obtain ⟨a2, rfl, rfl, rfl, w2⟩ := open_string Try.underlying9 (hval 2 9 v2 rfl rfl) h2
  obtain ⟨a3, rfl, rfl, rfl, w3⟩ := open_string Try.underlying9 (hval 3 9 v3 rfl rfl) h3
  clear hA0 hval0
  simp only [List.append_nil] at hW'
  refine (walk a0 a1 a2 a3 w0 w1 w2 w3 W).mono fun e W' ⟨he, hg⟩ => ?_
  subst he
  exact ⟨_, rfl, _, _, _, [], [], [], hW', trodAll_mk1 (shut_bool Try.underlying4 _), (trodAll_cons_mk (shut_string Try.underlying9 w0) (trodAll_cons_mk (shut_string Try.underlying9 w1) (trodAll_cons_mk (shut_string Try.underlying9 w2) (trodAll_cons_mk (shut_string Try.underlying9 w3) trodAll_mk0)))), rfl, hg.frame _, fun h => by cases h⟩

theorem over : Rows.fnSpaceSkipsWrittenFillerRow.holds Try.pinned (OpenSpec.ofChange Rows.fnSpaceSkipsWrittenFillerSpec) :=
  OpenClaim.holds_of_wide 4 Try.f4 rfl rfl rfl rfl rfl rfl rfl ⟨rfl, rfl, rfl, rfl, rfl⟩ rfl rfl rfl rfl rfl (by kernel_rfl) Try.func4 (by kernel_rfl)
    (of_decide_eq_true (by kernel_rfl)) (by unfold Func.isWrapper; first | (rw [if_pos (by decide +kernel)]; kernel_rfl) | (rw [if_neg (by decide +kernel)]; exact ⟨rfl, rfl⟩))
    (fun os started H enc _ => lifted os started H enc)

/-- ████ THE STATEMENT ████ -/
theorem proved : Rows.FnSpaceSkipsWrittenFillerSaid :=
  over
#print axioms proved
end Go.Proofs.Qxb6600500a.fnSpaceSkipsWrittenFiller
