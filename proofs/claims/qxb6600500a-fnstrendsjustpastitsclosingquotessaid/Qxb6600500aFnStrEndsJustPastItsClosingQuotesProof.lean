/-
  Seat b6600500a: the proof of Rows.FnStrEndsJustPastItsClosingQuotesSaid: the shell of the kit, its walk filled.
-/
import Derived.Test.Qxb6600500aRows
import Derived.WalkKit
import Derived.ProofKit
import Derived.OpenShut
import Derived.ShutString
import Derived.Test.Qxb6600500aStr
import Derived.Test.Qxb6600500aEos
namespace Go.Proofs.Qxb6600500a.fnStrEndsJustPastItsClosingQuotes
open Go.ChangeShapes Go.WideShapes Go.ChangeAt Go.RowKit
open Go.ChangeMaps (open_string shut_string)
set_option linter.unusedVariables false      -- a walk need not use every 'w<i>' (that an integer argument fits its kind)

theorem own : ownKnob Try.prog.godebug = none := by kernel_rfl

theorem eos_any (s : ByteArray) (q : UInt8) (at0 : Nat) (w : World) (hs : s.size ≤ 1048576) (ha : at0 < s.size) (HQ : Hid (bt s at0 = (q.toNat : Int))) :
    Calls Try.prog 17 #[.string s, .int .i64 at0] w fun e w' => e = .returned (.int .i64 (mend s q (opn s q at0) false (at0 + opn s q at0) : Nat)) ∧ w' = w := by
  have hq := HQ.out
  have e34 : (q = 34) ↔ bt s at0 = 34 := by rw [hq]; exact (byte_eq (c := q) (n := 34) (by omega)).symm
  unfold opn
  cases hp : preAt s q 3 at0 with
  | true =>
    rw [if_pos rfl]
    by_cases h : q = 34
    · exact eos3_q s q _ at0 w hs ha rfl hq hp h (by simpa using e34.1 h)
    · exact eos3_p s q _ at0 w hs ha rfl hq hp h (by simpa using fun x => h (e34.2 x))
  | false =>
    rw [if_neg Bool.false_ne_true]
    by_cases h : q = 34
    · exact eos1_q s q _ at0 w hs ha rfl hq hp h (by simpa using e34.1 h)
    · exact eos1_p s q _ at0 w hs ha rfl hq hp h (by simpa using fun x => h (e34.2 x))

/-! ### The walk -/
set_option maxHeartbeats 4000000 in
theorem walk (a0 : ByteArray) (a1 : Int) (w0 : a0.size ≤ maxLen) (w1 : (Lit.int .i64 a1).wf = true) (w : World) :
    Calls Try.prog 6 #[.string a0, .int .i64 a1] w fun e w' => e = .returned (.bool true) ∧ Below w.heap.size w w' := by
  have hb := bounds_i64 w1
  by_cases hz : (a0.size : Int) ≤ 1048576
  · by_cases hn : a1 < 0 ∨ (a0.size : Int) ≤ a1
    · clear w0 w1
      go_enter Try.func6, Try.ntmps6
      go_wp2
      all_goals (go_ret; exact ⟨rfl, Below.refl _ _⟩)
    · obtain ⟨k, rfl⟩ : ∃ k : Nat, a1 = k := ⟨a1.toNat, by omega⟩
      have hk : k < a0.size := by omega
      obtain ⟨q, hq⟩ : ∃ q, q = a0[k] := ⟨_, rfl⟩
      have HQ : Hid (bt a0 k = (q.toNat : Int)) := by rw [hq]; exact (get_bt a0 k hk).symm
      have HM : Hid (send a0 q (opn a0 q k) (k + opn a0 q k) = mend a0 q (opn a0 q k) false (k + opn a0 q k)) := send_me _ _ _ _ (by unfold opn; split <;> omega)
      obtain ⟨R, hR⟩ : ∃ R, R = mend a0 q (opn a0 q k) false (k + opn a0 q k) := ⟨_, rfl⟩
      have HR : Hid (R = mend a0 q (opn a0 q k) false (k + opn a0 q k)) := hR
      clear w0 w1 hn hq hR
      go_enter Try.func6, Try.ntmps6
      go_wp2_with (first | (go_at_call 16; refine (zzstr_any _ a0 q k (by omega) hk HQ).mono ?_; rintro e w5 ⟨rfl, hbel⟩; rw [HM.out, ← HR.out]) | (go_at_call 17; refine (eos_any a0 q k _ (by omega) hk HQ).mono ?_; rintro e w' ⟨rfl, rfl⟩; rw [← HR.out]) | go_in)
      go_ret
      exact ⟨rfl, hbel⟩
  · clear w0 w1
    go_enter Try.func6, Try.ntmps6
    go_wp2
    go_ret
    exact ⟨rfl, Below.refl _ _⟩

/-! ### THE ROW's STEP: WRITTEN OUT: LEAVE IT -/
set_option maxRecDepth 100000 in
theorem lifted (os : Os) (started : os.Started) (H : Type) (enc : TypeId × Value → H) :
    ReturnsInHanded {} Try.checked os 6 .any (Rows.fnStrEndsJustPastItsClosingQuotesSpec.pre6 enc Try.prog Try.f6 Rows.fnStrEndsJustPastItsClosingQuotesRow.domain false) (Rows.fnStrEndsJustPastItsClosingQuotesSpec.post enc Try.prog Try.f6 false true false false) := by
  refine returnsInHanded_of_change (C := Try.checked) own started (by kernel_rfl) Try.func6
    (ChangeSpec.witness6 (enc := enc) (C := Try.checked) false ⟨#[], #[.string ByteArray.empty, .int .i64 0], []⟩ 8 (by kernel_rfl) (by kernel_rfl) (by kernel_rfl) (by kernel_rfl)) ?_
  intro W base args ds gs before hval0 hW hcnd _
  have hval : ∀ (j : Nat) t v, Try.f6.params[j]? = some t → args[j]? = some v → Value.okWide Try.prog W .any base t v := hval0
  have hW' := hW
  obtain ⟨p, q, hA0, hV, rfl, hfz, hnd⟩ := hW
  have hA : DataW.TrodAll enc Try.prog W 0 (fun _ => true) true Try.f6.params.toList args.toList ds p := hA0
  rw [Try.params6] at hA hval
  obtain ⟨v0, vs0, d0, ds0, p0, q0, hargs, rfl, rfl, h0, r0⟩ := trodAll_cons hA
  obtain ⟨v1, vs1, d1, ds1, p1, q1, rfl, rfl, rfl, h1, r1⟩ := trodAll_cons r0
  obtain ⟨rfl, rfl, rfl⟩ := trodAll_nil r1
  obtain rfl : args = #[v0, v1] := by cases args; simp_all
  obtain ⟨rfl, rfl⟩ := trodVars_none hV
  obtain ⟨a0, rfl, rfl, rfl, w0⟩ := open_string Try.underlying9 (hval 0 9 v0 rfl rfl) h0
  obtain ⟨a1, rfl, rfl, rfl, w1⟩ := open_int Try.underlying3 (hval 1 3 v1 rfl rfl) h1
  clear hA0 hval0
  simp only [List.append_nil] at hW'
  refine (walk a0 a1 w0 w1 W).mono fun e W' ⟨he, hg⟩ => ?_
  subst he
  exact ⟨_, rfl, _, _, _, [], [], [], hW', trodAll_mk1 (shut_bool Try.underlying4 _), (trodAll_cons_mk (shut_string Try.underlying9 w0) (trodAll_cons_mk (shut_int Try.underlying3 w1) trodAll_mk0)), rfl, hg.frame _, fun h => by cases h⟩

theorem over : Rows.fnStrEndsJustPastItsClosingQuotesRow.holds Try.pinned (OpenSpec.ofChange Rows.fnStrEndsJustPastItsClosingQuotesSpec) :=
  OpenClaim.holds_of_wide 6 Try.f6 rfl rfl rfl rfl rfl rfl rfl ⟨rfl, rfl, rfl, rfl, rfl⟩ rfl rfl rfl rfl rfl (by kernel_rfl) Try.func6 (by kernel_rfl)
    (of_decide_eq_true (by kernel_rfl)) (by unfold Func.isWrapper; first | (rw [if_pos (by decide +kernel)]; kernel_rfl) | (rw [if_neg (by decide +kernel)]; exact ⟨rfl, rfl⟩))
    (fun os started H enc _ => lifted os started H enc)

/-- ████ THE STATEMENT ████ -/
theorem proved : Rows.FnStrEndsJustPastItsClosingQuotesSaid :=
  over
#print axioms proved
end Go.Proofs.Qxb6600500a.fnStrEndsJustPastItsClosingQuotes
