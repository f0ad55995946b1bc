/-
  Seat b6600500a: the proof of Rows.FnSpaceIsIdempotentAndLandsOnATokenSaid: the shell of the kit, its walk filled.
-/
import Derived.Test.Qxb6600500aRows
import Derived.WalkKit
import Derived.ProofKit
import Derived.OpenShut
import Derived.ShutString
import Derived.Test.Qxb6600500aSpace
import Derived.Test.Qxb6600500aModel
import Derived.Deep.RegionWith
namespace Go.Proofs.Qxb6600500a.fnSpaceIsIdempotentAndLandsOnAToken
open Go.ChangeShapes Go.WideShapes Go.ChangeAt Go.RowKit
open Go.ChangeMaps (open_string shut_string)
set_option linter.unusedVariables false      -- a walk need not use every 'w<i>' (that an integer argument fits its kind)

theorem own : ownKnob Try.prog.godebug = none := by kernel_rfl

theorem grown_scan (w : World) (s : ByteArray) (k : Nat) (v : Value) (n : Nat) : Grown w (scan w s k v n) := Grown.alloc (Grown.refl w) _ _
theorem grown_trans {a b c : World} (h : Grown a b) (k : Grown b c) : Grown a c :=
  ⟨World.keptBut_trans h.1 (World.keptBut_mono (fun _ f => f.elim) k.1), fun x => (k.2.1 x).trans (h.2.1 x), Nat.le_trans h.2.2 k.2.2⟩

/-! ### The walk -/
theorem walk (a0 : ByteArray) (a1 : Int) (w0 : a0.size ≤ maxLen) (w1 : (Lit.int .i64 a1).wf = true) (w : World) :
    Calls Try.prog 5 #[.string a0, .int .i64 a1] w fun e w' => e = .returned (.bool true) ∧ Grown w w' := by
  have hb := bounds_i64 w1
  by_cases hz : (a0.size : Int) ≤ 1048576
  · by_cases hn : a1 < 0
    · clear w0 w1
      go_enter Try.func5, Try.ntmps5
      go_wp2
      go_ret
      exact ⟨rfl, Grown.refl _⟩
    · obtain ⟨k, rfl⟩ : ∃ k : Nat, a1 = k := ⟨a1.toNat, by omega⟩
      have hge := stop_ge a0 false k
      have HS : Hid (stop a0 false (stop a0 false k) = stop a0 false k) := stop_stays a0 k
      have hle : stop a0 false k ≤ a0.size ∨ (a0.size < k ∧ stop a0 false k = k) := by
        by_cases h : k ≤ a0.size
        · exact .inl (stop_le a0 false k h)
        · exact .inr ⟨by omega, stop_past a0 false k (by omega)⟩
      have HL : Hid (stop a0 false k < a0.size → bt a0 (stop a0 false k) ≠ 32 ∧ bt a0 (stop a0 false k) ≠ 9 ∧ bt a0 (stop a0 false k) ≠ 13 ∧ bt a0 (stop a0 false k) ≠ 10 ∧ bt a0 (stop a0 false k) ≠ 35) := stop_lands a0 _ k false rfl
      have hbt := get_bt a0
      obtain ⟨r, hr⟩ : ∃ r, r = stop a0 false k := ⟨_, rfl⟩
      have HR : Hid (r = stop a0 false k) := hr
      rw [← hr] at hge HS hle HL
      have hrb : (r : Int) ≤ 9223372036854775807 := by omega
      clear hr w0 w1
      by_cases hr : r < a0.size
      · obtain ⟨n1, n2, n3, n4, n5⟩ := HL.out hr
        have HB : Hid (bt a0 r ≠ 32 ∧ bt a0 r ≠ 9 ∧ bt a0 r ≠ 13 ∧ bt a0 r ≠ 10) := ⟨n1, n2, n3, n4⟩
        clear HL n1 n2 n3 n4 hle
        go_enter Try.func5, Try.ntmps5
        go_wp2_with (first | (go_at_call_of 9 k; refine (zzspace_any _ a0 k (by omega) (by omega)).mono ?_; rintro e w' ⟨rfl, n, rfl⟩; rw [← HR.out]) | (go_at_call 9; refine (zzspace_any _ a0 r (by omega) (by omega)).mono ?_; rintro e w' ⟨rfl, n, rfl⟩; rw [HS.out]) | (go_at_call 12; refine (blank_no _ _ HB.out).mono ?_; rintro e w' ⟨rfl, rfl⟩) | go_in)
        go_ret
        exact ⟨rfl, grown_trans (grown_scan _ _ _ _ _) (grown_scan _ _ _ _ _)⟩
      · have hle' : (r : Int) ≤ (a0.size : Int) ∨ ((a0.size : Int) < (k : Int) ∧ r = k) := by omega
        clear HL
        rcases hle with hle | ⟨hle, rk⟩
        · go_enter Try.func5, Try.ntmps5
          go_wp2_with (first | (go_at_call_of 9 k; refine (zzspace_any _ a0 k (by omega) (by omega)).mono ?_; rintro e w' ⟨rfl, n, rfl⟩; rw [← HR.out]) | (go_at_call 9; refine (zzspace_any _ a0 r (by omega) (by omega)).mono ?_; rintro e w' ⟨rfl, n, rfl⟩; rw [HS.out]) | go_in)
          go_ret
          exact ⟨rfl, grown_trans (grown_scan _ _ _ _ _) (grown_scan _ _ _ _ _)⟩
        · subst rk
          go_enter Try.func5, Try.ntmps5
          go_wp2_with (first | (go_at_call 9; refine (zzspace_any _ a0 r (by omega) (by omega)).mono ?_; rintro e w' ⟨rfl, n, rfl⟩; rw [← HR.out]) | go_in)
          go_ret
          exact ⟨rfl, grown_trans (grown_scan _ _ _ _ _) (grown_scan _ _ _ _ _)⟩
  · clear w0 w1
    go_enter Try.func5, Try.ntmps5
    go_wp2
    go_ret
    exact ⟨rfl, Grown.refl _⟩

/-! ### THE ROW's STEP: WRITTEN OUT: LEAVE IT -/
set_option maxRecDepth 100000 in
theorem lifted (os : Os) (started : os.Started) (H : Type) (enc : TypeId × Value → H) :
    ReturnsInHanded {} Try.checked os 5 .any (Rows.fnSpaceIsIdempotentAndLandsOnATokenSpec.pre6 enc Try.prog Try.f5 Rows.fnSpaceIsIdempotentAndLandsOnATokenRow.domain false) (Rows.fnSpaceIsIdempotentAndLandsOnATokenSpec.post enc Try.prog Try.f5 false true false false) := by
  refine returnsInHanded_of_change (C := Try.checked) own started (by kernel_rfl) Try.func5
    (ChangeSpec.witness6 (enc := enc) (C := Try.checked) false ⟨#[], #[.string ByteArray.empty, .int .i64 0], []⟩ 8 (by kernel_rfl) (by kernel_rfl) (by kernel_rfl) (by kernel_rfl)) ?_
  intro W base args ds gs before hval0 hW hcnd _
  have hval : ∀ (j : Nat) t v, Try.f5.params[j]? = some t → args[j]? = some v → Value.okWide Try.prog W .any base t v := hval0
  have hW' := hW
  obtain ⟨p, q, hA0, hV, rfl, hfz, hnd⟩ := hW
  have hA : DataW.TrodAll enc Try.prog W 0 (fun _ => true) true Try.f5.params.toList args.toList ds p := hA0
  rw [Try.params5] at hA hval
  obtain ⟨v0, vs0, d0, ds0, p0, q0, hargs, rfl, rfl, h0, r0⟩ := trodAll_cons hA
  obtain ⟨v1, vs1, d1, ds1, p1, q1, rfl, rfl, rfl, h1, r1⟩ := trodAll_cons r0
  obtain ⟨rfl, rfl, rfl⟩ := trodAll_nil r1
  obtain rfl : args = #[v0, v1] := by cases args; simp_all
  obtain ⟨rfl, rfl⟩ := trodVars_none hV
  obtain ⟨a0, rfl, rfl, rfl, w0⟩ := open_string Try.underlying9 (hval 0 9 v0 rfl rfl) h0
  obtain ⟨a1, rfl, rfl, rfl, w1⟩ := open_int Try.underlying3 (hval 1 3 v1 rfl rfl) h1
  clear hA0 hval0
  simp only [List.append_nil] at hW'
  refine (walk a0 a1 w0 w1 W).mono fun e W' ⟨he, hg⟩ => ?_
  subst he
  exact ⟨_, rfl, post_of_same (pa := []) (pv := []) hW' (fun _ _ _ => (trodAll_cons_mk (shut_bool Try.underlying4 _) trodAll_mk0)) (fun sp _ => (trodAll_cons_mk (shut_string Try.underlying9 w0) (trodAll_cons_mk (shut_int Try.underlying3 w1) trodAll_mk0))) (fun _ _ => rfl) rfl
    (hg.frame _) hg.2.1 (ok_one (by kernel_rfl) rfl (okWide_bool_mk Try.underlying4 _))⟩

theorem over : Rows.fnSpaceIsIdempotentAndLandsOnATokenRow.holds Try.pinned (OpenSpec.ofChange Rows.fnSpaceIsIdempotentAndLandsOnATokenSpec) :=
  OpenClaim.holds_of_wide 5 Try.f5 rfl rfl rfl rfl rfl rfl rfl ⟨rfl, rfl, rfl, rfl, rfl⟩ rfl rfl rfl rfl rfl (by kernel_rfl) Try.func5 (by kernel_rfl)
    (of_decide_eq_true (by kernel_rfl)) (by unfold Func.isWrapper; first | (rw [if_pos (by decide +kernel)]; kernel_rfl) | (rw [if_neg (by decide +kernel)]; exact ⟨rfl, rfl⟩))
    (fun os started H enc _ => lifted os started H enc)

/-- ████ THE STATEMENT ████ -/
theorem proved : Rows.FnSpaceIsIdempotentAndLandsOnATokenSaid :=
  over
#print axioms proved
end Go.Proofs.Qxb6600500a.fnSpaceIsIdempotentAndLandsOnAToken
