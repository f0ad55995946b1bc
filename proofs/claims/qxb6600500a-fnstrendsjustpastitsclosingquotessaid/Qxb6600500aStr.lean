/-
  Seat b6600500a: the walks of (*scanner).str and ZZStr.
-/
import Derived.Test.Qxb6600500aRows
import Derived.Test.Qxb6600500aStrPlain
import Derived.Test.Qxb6600500aShelf
import Derived.WalkKit
import Derived.WalkSpells
import Derived.BigQuiet
import Derived.Deep.LoopGhost
import Derived.Lib.IndexBytes
import Derived.Lib.Repeat
namespace Go.Proofs.Qxb6600500a
open Go.RowKit

theorem setCell_drewN2 (w : World) (n : Nat) (a : Addr) (v : Value) : (w.drewN n).setCell a v = (w.setCell a v).drewN n := rfl
attribute [local go_sem] setCell_drewN2

/-- A scanner over s lies in block b of w, its offset is k; below b all is as W was. -/
structure Sc (W : World) (b : Nat) (s : ByteArray) (k : Nat) (w : World) : Prop where
  c0 : w.cell? ⟨b, 0, none⟩ = some (.string s)
  c1 : w.cell? ⟨b, 1, none⟩ = some (.int .i64 k)
  f1 : w.frozen? ⟨b, 1, none⟩ = false
  bel : Below b W w

theorem Sc.drewN {W w : World} {b : Nat} {s : ByteArray} {k : Nat} (h : Sc W b s k w) (n : Nat) : Sc W b s k (w.drewN n) :=
  ⟨h.c0, h.c1, h.f1, ⟨h.bel.os, h.bel.tape, h.bel.output, h.bel.size, h.bel.block⟩⟩
theorem Sc.set {W w : World} {b : Nat} {s : ByteArray} {k : Nat} (h : Sc W b s k w) (k' : Nat) : Sc W b s k' (w.setCell ⟨b, 1, none⟩ (.int .i64 k')) :=
  ⟨by rw [World.cell?_setCell_other _ _ _ _ (by simp)]; exact h.c0, World.cell?_setCell_same _ _ _ h.c1, by rw [World.frozen?_setCell]; exact h.f1, h.bel.setCell (Nat.le_refl _) _⟩
theorem Sc.below {W w w2 : World} {b : Nat} {s : ByteArray} {k : Nat} (h : Sc W b s k w) (hb : Below w.heap.size w w2) : Sc W b s k w2 := by
  have hlt : b < w.heap.size := World.block_lt_of_cell? w _ h.c0
  exact ⟨(hb.cell (p := ⟨b, 0, none⟩) hlt).trans h.c0, (hb.cell (p := ⟨b, 1, none⟩) hlt).trans h.c1, (hb.frozen (p := ⟨b, 1, none⟩) hlt).trans h.f1, h.bel.trans (hb.mono (Nat.le_of_lt hlt))⟩
theorem Sc.to {W w : World} {b : Nat} {s : ByteArray} {k k' : Nat} (h : Sc W b s k w) (e : k = k') : Sc W b s k' w := e ▸ h

/-- strings.HasPrefix(s[k:], C), C being n bytes q. -/
theorem hp_any (s C : ByteArray) (q : UInt8) (n k : Nat) (w : World) (hC : Hid (C.data.toList = List.replicate n q)) :
    Calls Try.prog 26 #[.string (s.extract k s.size), .string C] w fun e w' => e = .returned (.bool (preAt s q n k)) ∧ w' = w := by
  have h := Try.strings_HasPrefix (s.extract k s.size) C w
  have e : Lib.hasPrefix (s.extract k s.size).data.toList C.data.toList = preAt s q n k := by
    unfold Lib.hasPrefix
    rw [hC.out, Lib.extract_to_end, prefix_pre]
    rfl
  rw [e] at h
  exact h

theorem hp_is (s C : ByteArray) (q : UInt8) (n k : Nat) (B : Bool) (w : World) (hC : Hid (C.data.toList = List.replicate n q)) (hB : preAt s q n k = B) :
    Calls Try.prog 26 #[.string (s.extract k s.size), .string C] w fun e w' => e = .returned (.bool B) ∧ w' = w := hB ▸ hp_any s C q n k w hC

theorem q_same {P : Program} {f : FuncId} {args : Array Value} {w : World} {v : Value} {a b : Nat} (h : ∀ w', Calls P f args w' fun e w'' => e = .returned v ∧ w'' = w') :
    Calls P f args (w.drewN (a + b)) fun e w'' => e = .returned v ∧ ∃ n, w'' = w.drewN (a + n) := (h _).mono fun _ _ ⟨h1, h2⟩ => ⟨h1, b, h2⟩

/-- strings.Repeat(C, 3), C being the one byte q. -/
theorem rep_any (C : ByteArray) (q : UInt8) (w : World) (hC : Hid (C.data.toList = [q])) :
    Calls Try.prog 25 #[.string C, .int .i64 3] w fun e w' => ∃ T : ByteArray, e = .returned (.string T) ∧ T.size = 3 ∧ Hid (T.data.toList = List.replicate 3 q) ∧ Below w.heap.size w w' := by
  have hz : C.size = 1 := by
    have := congrArg List.length hC.out
    simpa using this
  refine (Try.strings_Repeat_main C 3 w (by omega) (by omega) (by omega) (by omega)).mono ?_
  rintro e w' ⟨rfl, hb⟩
  refine ⟨_, rfl, ?_, ?_, hb⟩
  · show (Lib.repeatL C.data.toList 3).toArray.size = 3
    rw [hC.out]; rfl
  · show (Lib.repeatL C.data.toList 3).toArray.toList = _
    rw [hC.out]; rfl

theorem one_byte (s : ByteArray) (k : Nat) (h : k < s.size) (q : UInt8) (hq : bt s k = (q.toNat : Int)) : (s.extract k (k + 1)).data.toList = [q] ∧ (s.extract k (k + 1)).size = 1 := by
  have e : (s.extract k (k + 1)).data.toList = [q] := by
    rw [Lib.extract_data, drop_at s k h, (bt_q s k h q).1 hq, show k + 1 - k = 1 by omega]; rfl
  refine ⟨e, ?_⟩
  have h := congrArg List.length e
  rw [Array.length_toList] at h
  exact h

set_option maxRecDepth 100000 in
set_option maxHeartbeats 4000000 in
theorem str1_q (W w : World) (b : Nat) (s : ByteArray) (q : UInt8) (Q : Int) (at0 : Nat) (hs : s.size ≤ 4194304) (ha : at0 < s.size) (hQ : bt s at0 = Q) (HQ : Hid (Q = (q.toNat : Int))) (hp : preAt s q 3 at0 = false) (h34 : Hid (q = 34)) (hq34 : (Q == 34) = true)
    (hSc : Sc W b s at0 w) :
    Calls Try.prog 23 #[.pointer (some ⟨b, 0, none⟩)] w fun e w' => e = .returned (.tuple #[]) ∧ Sc W b s (send s q 1 (at0 + 1)) w' := by
  have hb := get_bt s
  have c0 := hSc.c0
  have c1 := hSc.c1
  have HO := one_byte s at0 ha q (hQ.trans HQ.out)
  obtain ⟨C, hC⟩ : ∃ C, C = s.extract at0 (at0 + 1) := ⟨_, rfl⟩
  rw [← hC] at HO
  have HC : Hid (C.data.toList = List.replicate 1 q) := HO.1
  have hC1 : C.size = 1 := HO.2
  have HCC : Hid (C = s.extract at0 (at0 + 1)) := hC
  clear HO hC
  go_enter Try.func23, Try.ntmps23
  go_wp2
  go_quiet (fail)
  go_wp2
  go_quiet (fail)
  go_wp2_with fail
  rw [← HCC.out]
  refine (rep_any C q _ HC).mono ?_
  rintro e w2 ⟨T, rfl, hT3, HT, hb2⟩
  have hS2 := (hSc.drewN _).below hb2
  clear c0 c1 hSc hb2
  have c0 := hS2.c0
  have c1 := hS2.c1
  have f1 := hS2.f1
  go_wp2
  go_quiet ((go_at_call 26; exact Calls.quiet_of_same (hp_is s T q 3 at0 _ _ HT hp)))
  go_wp2
  go_loopg [] (s.size + 1) (fun g wr => ∃ k, k ≤ s.size + 1 ∧ s.size + 1 - k ≤ g ∧ Sc W b s k wr ∧ Hid (send s q 1 k = send s q 1 (at0 + 1)))
  case atStart => exact ⟨at0 + 1, by omega, by omega, (hS2.drewN _).set _, rfl⟩
  case round =>
    clear c0 c1 f1 hS2
    obtain ⟨k, hk, hg, hS, HR⟩ := hrel
    have c0 := hS.c0
    have c1 := hS.c1
    have f1 := hS.f1
    by_cases hlt : k < s.size
    · have hk1 : k ≤ s.size := by omega
      by_cases hbs : bt s k = 92
      · have HE : Hid (send s q 1 (k + 2) = send s q 1 (at0 + 1)) := (send_esc s q 1 k hlt h34.out hbs).trans HR.out
        have hbs' : (bt s k == 92) = true := by simpa using hbs
        clear HR hbs
        go_wp2
        go_quiet (fail)
        go_wp2
        go_quiet (fail)
        go_wp2
        go_roundg (gk - 1)
        case measure => omega
        case rel => exact ⟨k + 2, by omega, by omega, (hS.drewN _).set _, HE⟩
      · have hne : q ≠ 34 ∨ bt s k ≠ 92 := .inr hbs
        have hbs' : (bt s k == 92) = false := by simpa using hbs
        clear hbs
        by_cases hpk : preAt s q 1 k = true
        · have HE : Hid (send s q 1 (at0 + 1) = k + 1) := by rw [← HR.out, send_shut s q 1 k hlt hne hpk]; exact rfl
          have hfit : k + 1 ≤ s.size := pre_fits s q 1 k (by omega) hpk
          clear HR
          go_wp2
          go_quiet (fail)
          go_wp2
          go_quiet (fail)
          go_wp2
          go_quiet ((go_at_call 26; exact q_same (fun _ => hp_is s C q 1 k _ _ HC hpk)))
          go_wp2
          go_loopg [5] 1 (fun g x wr => x = .int .i64 0 ∧ Sc W b s (k + 1) wr)
          case atStart => exact ⟨rfl, (hS.drewN _).set _⟩
          case round =>
            clear c0 c1 f1 hS
            obtain ⟨rfl, hS⟩ := hrel
            have c0 := hS.c0
            have c1 := hS.c1
            go_wp2
            go_quiet (fail)
            go_wp2
            refine bodyPost_ret (results_none rfl _ _ _) rfl ?_
            exact ⟨rfl, (hS.drewN _).to HE.out.symm⟩
        · have hpk' : preAt s q 1 k = false := by simpa using hpk
          have HE : Hid (send s q 1 (k + 1) = send s q 1 (at0 + 1)) := (send_on s q 1 k hlt hne hpk').trans HR.out
          clear HR hpk
          go_wp2
          go_quiet (fail)
          go_wp2
          go_quiet (fail)
          go_wp2
          go_quiet ((go_at_call 26; exact q_same (fun _ => hp_is s C q 1 k _ _ HC hpk')))
          go_wp2
          go_roundg (gk - 1)
          case measure => omega
          case rel => exact ⟨k + 1, by omega, by omega, (hS.drewN _).set _, HE⟩
    · have HE : Hid (send s q 1 (at0 + 1) = k) := by rw [← HR.out, send_past s q 1 k (by omega)]; exact rfl
      clear HR
      go_wp2
      go_quiet (fail)
      go_wp2
      go_end0
      exact ⟨rfl, (hS.drewN _).to HE.out.symm⟩

set_option maxRecDepth 100000 in
set_option maxHeartbeats 4000000 in
theorem str1_p (W w : World) (b : Nat) (s : ByteArray) (q : UInt8) (Q : Int) (at0 : Nat) (hs : s.size ≤ 4194304) (ha : at0 < s.size) (hQ : bt s at0 = Q) (HQ : Hid (Q = (q.toNat : Int))) (hp : preAt s q 3 at0 = false) (h34 : Hid (q ≠ 34)) (hq34 : (Q == 34) = false)
    (hSc : Sc W b s at0 w) :
    Calls Try.prog 23 #[.pointer (some ⟨b, 0, none⟩)] w fun e w' => e = .returned (.tuple #[]) ∧ Sc W b s (send s q 1 (at0 + 1)) w' := by
  have hb := get_bt s
  have c0 := hSc.c0
  have c1 := hSc.c1
  have HO := one_byte s at0 ha q (hQ.trans HQ.out)
  obtain ⟨C, hC⟩ : ∃ C, C = s.extract at0 (at0 + 1) := ⟨_, rfl⟩
  rw [← hC] at HO
  have HC : Hid (C.data.toList = List.replicate 1 q) := HO.1
  have hC1 : C.size = 1 := HO.2
  have HCC : Hid (C = s.extract at0 (at0 + 1)) := hC
  clear HO hC
  go_enter Try.func23, Try.ntmps23
  go_wp2
  go_quiet (fail)
  go_wp2
  go_quiet (fail)
  go_wp2_with fail
  rw [← HCC.out]
  refine (rep_any C q _ HC).mono ?_
  rintro e w2 ⟨T, rfl, hT3, HT, hb2⟩
  have hS2 := (hSc.drewN _).below hb2
  clear c0 c1 hSc hb2
  have c0 := hS2.c0
  have c1 := hS2.c1
  have f1 := hS2.f1
  go_wp2
  go_quiet ((go_at_call 26; exact Calls.quiet_of_same (hp_is s T q 3 at0 _ _ HT hp)))
  go_wp2
  go_loopg [] (s.size + 1) (fun g wr => ∃ k, k ≤ s.size + 1 ∧ s.size + 1 - k ≤ g ∧ Sc W b s k wr ∧ Hid (send s q 1 k = send s q 1 (at0 + 1)))
  case atStart => exact ⟨at0 + 1, by omega, by omega, (hS2.drewN _).set _, rfl⟩
  case round =>
    clear c0 c1 f1 hS2
    obtain ⟨k, hk, hg, hS, HR⟩ := hrel
    have c0 := hS.c0
    have c1 := hS.c1
    have f1 := hS.f1
    by_cases hlt : k < s.size
    · have hk1 : k ≤ s.size := by omega
      have hne : q ≠ 34 ∨ bt s k ≠ 92 := .inl h34.out
      by_cases hpk : preAt s q 1 k = true
      · have HE : Hid (send s q 1 (at0 + 1) = k + 1) := by rw [← HR.out, send_shut s q 1 k hlt hne hpk]; exact rfl
        have hfit : k + 1 ≤ s.size := pre_fits s q 1 k (by omega) hpk
        clear HR
        go_wp2
        go_quiet (fail)
        go_wp2
        go_quiet (fail)
        go_wp2
        go_quiet ((go_at_call 26; exact q_same (fun _ => hp_is s C q 1 k _ _ HC hpk)))
        go_wp2
        go_loopg [5] 1 (fun g x wr => x = .int .i64 0 ∧ Sc W b s (k + 1) wr)
        case atStart => exact ⟨rfl, (hS.drewN _).set _⟩
        case round =>
          clear c0 c1 f1 hS
          obtain ⟨rfl, hS⟩ := hrel
          have c0 := hS.c0
          have c1 := hS.c1
          go_wp2
          go_quiet (fail)
          go_wp2
          refine bodyPost_ret (results_none rfl _ _ _) rfl ?_
          exact ⟨rfl, (hS.drewN _).to HE.out.symm⟩
      · have hpk' : preAt s q 1 k = false := by simpa using hpk
        have HE : Hid (send s q 1 (k + 1) = send s q 1 (at0 + 1)) := (send_on s q 1 k hlt hne hpk').trans HR.out
        clear HR hpk
        go_wp2
        go_quiet (fail)
        go_wp2
        go_quiet (fail)
        go_wp2
        go_quiet ((go_at_call 26; exact q_same (fun _ => hp_is s C q 1 k _ _ HC hpk')))
        go_wp2
        go_roundg (gk - 1)
        case measure => omega
        case rel => exact ⟨k + 1, by omega, by omega, (hS.drewN _).set _, HE⟩
    · have HE : Hid (send s q 1 (at0 + 1) = k) := by rw [← HR.out, send_past s q 1 k (by omega)]; exact rfl
      clear HR
      go_wp2
      go_quiet (fail)
      go_wp2
      go_end0
      exact ⟨rfl, (hS.drewN _).to HE.out.symm⟩

set_option maxRecDepth 100000 in
set_option maxHeartbeats 4000000 in
theorem str3_q (W w : World) (b : Nat) (s : ByteArray) (q : UInt8) (Q : Int) (at0 : Nat) (hs : s.size ≤ 4194304) (ha : at0 < s.size) (hQ : bt s at0 = Q) (HQ : Hid (Q = (q.toNat : Int))) (hp : preAt s q 3 at0 = true) (h34 : Hid (q = 34)) (hq34 : (Q == 34) = true)
    (hSc : Sc W b s at0 w) :
    Calls Try.prog 23 #[.pointer (some ⟨b, 0, none⟩)] w fun e w' => e = .returned (.tuple #[]) ∧ Sc W b s (send s q 3 (at0 + 3)) w' := by
  have hb := get_bt s
  have c0 := hSc.c0
  have c1 := hSc.c1
  have HO := one_byte s at0 ha q (hQ.trans HQ.out)
  obtain ⟨C, hC⟩ : ∃ C, C = s.extract at0 (at0 + 1) := ⟨_, rfl⟩
  rw [← hC] at HO
  have HC : Hid (C.data.toList = List.replicate 1 q) := HO.1
  have hC1 : C.size = 1 := HO.2
  have HCC : Hid (C = s.extract at0 (at0 + 1)) := hC
  have hfit0 : at0 + 3 ≤ s.size := pre_fits s q 3 at0 (by omega) hp
  clear HO hC
  go_enter Try.func23, Try.ntmps23
  go_wp2
  go_quiet (fail)
  go_wp2
  go_quiet (fail)
  go_wp2_with fail
  rw [← HCC.out]
  refine (rep_any C q _ HC).mono ?_
  rintro e w2 ⟨T, rfl, hT3, HT, hb2⟩
  have hS2 := (hSc.drewN _).below hb2
  clear c0 c1 hSc hb2
  have c0 := hS2.c0
  have c1 := hS2.c1
  have f1 := hS2.f1
  go_wp2
  go_quiet ((go_at_call 26; exact Calls.quiet_of_same (hp_is s T q 3 at0 _ _ HT hp)))
  go_wp2
  go_loopg [] (s.size + 1) (fun g wr => ∃ k, k ≤ s.size + 1 ∧ s.size + 1 - k ≤ g ∧ Sc W b s k wr ∧ Hid (send s q 3 k = send s q 3 (at0 + 3)))
  case atStart => exact ⟨at0 + 3, by omega, by omega, (hS2.drewN _).set _, rfl⟩
  case round =>
    clear c0 c1 f1 hS2
    obtain ⟨k, hk, hg, hS, HR⟩ := hrel
    have c0 := hS.c0
    have c1 := hS.c1
    have f1 := hS.f1
    by_cases hlt : k < s.size
    · have hk1 : k ≤ s.size := by omega
      by_cases hbs : bt s k = 92
      · have HE : Hid (send s q 3 (k + 2) = send s q 3 (at0 + 3)) := (send_esc s q 3 k hlt h34.out hbs).trans HR.out
        have hbs' : (bt s k == 92) = true := by simpa using hbs
        clear HR hbs
        go_wp2
        go_quiet (fail)
        go_wp2
        go_quiet (fail)
        go_wp2
        go_roundg (gk - 1)
        case measure => omega
        case rel => exact ⟨k + 2, by omega, by omega, (hS.drewN _).set _, HE⟩
      · have hne : q ≠ 34 ∨ bt s k ≠ 92 := .inr hbs
        have hbs' : (bt s k == 92) = false := by simpa using hbs
        clear hbs
        by_cases hpk : preAt s q 3 k = true
        · have HE : Hid (extAt s q (2 - 0) (k + 3) = send s q 3 (at0 + 3)) := by rw [← HR.out, send_shut s q 3 k hlt hne hpk]; exact rfl
          have hfit : k + 3 ≤ s.size := pre_fits s q 3 k (by omega) hpk
          clear HR
          go_wp2
          go_quiet (fail)
          go_wp2
          go_quiet (fail)
          go_wp2
          go_quiet ((go_at_call 26; exact q_same (fun _ => hp_is s T q 3 k _ _ HT hpk)))
          go_wp2
          go_loopg [5] 2 (fun g x wr => ∃ x' m : Nat, x = .int .i64 x' ∧ x' ≤ 2 ∧ 2 - x' ≤ g ∧ m ≤ s.size ∧ Sc W b s m wr ∧ Hid (extAt s q (2 - x') m = send s q 3 (at0 + 3)))
          case atStart => exact ⟨0, k + 3, rfl, by omega, by omega, by omega, (hS.drewN _).set _, HE⟩
          case round =>
            clear c0 c1 f1 hS HE
            obtain ⟨x', m, rfl, hx, hgx, hm, hS, HX⟩ := hrel
            have c0 := hS.c0
            have c1 := hS.c1
            have f1 := hS.f1
            by_cases hx2 : x' < 2
            · have hd1 : decide ((x' : Int) < 2) = true := by simpa using (by omega : (x' : Int) < 2)
              by_cases hms : m < s.size
              · have hd2 : decide ((m : Int) < (s.size : Int)) = true := by simpa using hms
                by_cases hc : bt s m = Q
                · have HY : Hid (extAt s q (2 - (x' + 1)) (m + 1) = send s q 3 (at0 + 3)) := by
                    rw [ext_step s q _ m hms (hc.trans HQ.out), ← HX.out, show 2 - x' = 2 - (x' + 1) + 1 by omega]; exact rfl
                  have hc' : (bt s m == Q) = true := by simpa using hc
                  clear HX hc
                  go_wp2
                  go_quiet (fail)
                  go_wp2
                  go_roundg (gk - 1)
                  case measure => omega
                  case rel => exact ⟨x' + 1, m + 1, by go_num, by omega, by omega, by omega, (hS.drewN _).set _, HY⟩
                · have HY : Hid (send s q 3 (at0 + 3) = m) := by
                    rw [← HX.out]; exact ext_stop s q _ m (.inr (.inr (fun h => hc (h.trans HQ.out.symm))))
                  have hc' : (bt s m == Q) = false := by simpa using hc
                  clear HX hc
                  go_wp2
                  go_quiet (fail)
                  go_wp2
                  refine bodyPost_ret (results_none rfl _ _ _) rfl ?_
                  exact ⟨rfl, (hS.drewN _).to HY.out.symm⟩
              · have hd2 : decide ((m : Int) < (s.size : Int)) = false := by simpa using hms
                have HY : Hid (send s q 3 (at0 + 3) = m) := by
                  rw [← HX.out]; exact ext_stop s q _ m (.inr (.inl (by omega)))
                clear HX
                go_wp2
                go_quiet (fail)
                go_wp2
                refine bodyPost_ret (results_none rfl _ _ _) rfl ?_
                exact ⟨rfl, (hS.drewN _).to HY.out.symm⟩
            · have hd1 : decide ((x' : Int) < 2) = false := by simpa using (by omega : (2 : Int) ≤ (x' : Int))
              have HY : Hid (send s q 3 (at0 + 3) = m) := by
                rw [← HX.out]; exact ext_stop s q _ m (.inl (by omega))
              clear HX
              go_wp2
              go_quiet (fail)
              go_wp2
              refine bodyPost_ret (results_none rfl _ _ _) rfl ?_
              exact ⟨rfl, (hS.drewN _).to HY.out.symm⟩
        · have hpk' : preAt s q 3 k = false := by simpa using hpk
          have HE : Hid (send s q 3 (k + 1) = send s q 3 (at0 + 3)) := (send_on s q 3 k hlt hne hpk').trans HR.out
          clear HR hpk
          go_wp2
          go_quiet (fail)
          go_wp2
          go_quiet (fail)
          go_wp2
          go_quiet ((go_at_call 26; exact q_same (fun _ => hp_is s T q 3 k _ _ HT hpk')))
          go_wp2
          go_roundg (gk - 1)
          case measure => omega
          case rel => exact ⟨k + 1, by omega, by omega, (hS.drewN _).set _, HE⟩
    · have HE : Hid (send s q 3 (at0 + 3) = k) := by rw [← HR.out, send_past s q 3 k (by omega)]; exact rfl
      clear HR
      go_wp2
      go_quiet (fail)
      go_wp2
      go_end0
      exact ⟨rfl, (hS.drewN _).to HE.out.symm⟩

set_option maxRecDepth 100000 in
set_option maxHeartbeats 4000000 in
theorem str3_p (W w : World) (b : Nat) (s : ByteArray) (q : UInt8) (Q : Int) (at0 : Nat) (hs : s.size ≤ 4194304) (ha : at0 < s.size) (hQ : bt s at0 = Q) (HQ : Hid (Q = (q.toNat : Int))) (hp : preAt s q 3 at0 = true) (h34 : Hid (q ≠ 34)) (hq34 : (Q == 34) = false)
    (hSc : Sc W b s at0 w) :
    Calls Try.prog 23 #[.pointer (some ⟨b, 0, none⟩)] w fun e w' => e = .returned (.tuple #[]) ∧ Sc W b s (send s q 3 (at0 + 3)) w' := by
  have hb := get_bt s
  have c0 := hSc.c0
  have c1 := hSc.c1
  have HO := one_byte s at0 ha q (hQ.trans HQ.out)
  obtain ⟨C, hC⟩ : ∃ C, C = s.extract at0 (at0 + 1) := ⟨_, rfl⟩
  rw [← hC] at HO
  have HC : Hid (C.data.toList = List.replicate 1 q) := HO.1
  have hC1 : C.size = 1 := HO.2
  have HCC : Hid (C = s.extract at0 (at0 + 1)) := hC
  have hfit0 : at0 + 3 ≤ s.size := pre_fits s q 3 at0 (by omega) hp
  clear HO hC
  go_enter Try.func23, Try.ntmps23
  go_wp2
  go_quiet (fail)
  go_wp2
  go_quiet (fail)
  go_wp2_with fail
  rw [← HCC.out]
  refine (rep_any C q _ HC).mono ?_
  rintro e w2 ⟨T, rfl, hT3, HT, hb2⟩
  have hS2 := (hSc.drewN _).below hb2
  clear c0 c1 hSc hb2
  have c0 := hS2.c0
  have c1 := hS2.c1
  have f1 := hS2.f1
  go_wp2
  go_quiet ((go_at_call 26; exact Calls.quiet_of_same (hp_is s T q 3 at0 _ _ HT hp)))
  go_wp2
  go_loopg [] (s.size + 1) (fun g wr => ∃ k, k ≤ s.size + 1 ∧ s.size + 1 - k ≤ g ∧ Sc W b s k wr ∧ Hid (send s q 3 k = send s q 3 (at0 + 3)))
  case atStart => exact ⟨at0 + 3, by omega, by omega, (hS2.drewN _).set _, rfl⟩
  case round =>
    clear c0 c1 f1 hS2
    obtain ⟨k, hk, hg, hS, HR⟩ := hrel
    have c0 := hS.c0
    have c1 := hS.c1
    have f1 := hS.f1
    by_cases hlt : k < s.size
    · have hk1 : k ≤ s.size := by omega
      have hne : q ≠ 34 ∨ bt s k ≠ 92 := .inl h34.out
      by_cases hpk : preAt s q 3 k = true
      · have HE : Hid (extAt s q (2 - 0) (k + 3) = send s q 3 (at0 + 3)) := by rw [← HR.out, send_shut s q 3 k hlt hne hpk]; exact rfl
        have hfit : k + 3 ≤ s.size := pre_fits s q 3 k (by omega) hpk
        clear HR
        go_wp2
        go_quiet (fail)
        go_wp2
        go_quiet (fail)
        go_wp2
        go_quiet ((go_at_call 26; exact q_same (fun _ => hp_is s T q 3 k _ _ HT hpk)))
        go_wp2
        go_loopg [5] 2 (fun g x wr => ∃ x' m : Nat, x = .int .i64 x' ∧ x' ≤ 2 ∧ 2 - x' ≤ g ∧ m ≤ s.size ∧ Sc W b s m wr ∧ Hid (extAt s q (2 - x') m = send s q 3 (at0 + 3)))
        case atStart => exact ⟨0, k + 3, rfl, by omega, by omega, by omega, (hS.drewN _).set _, HE⟩
        case round =>
          clear c0 c1 f1 hS HE
          obtain ⟨x', m, rfl, hx, hgx, hm, hS, HX⟩ := hrel
          have c0 := hS.c0
          have c1 := hS.c1
          have f1 := hS.f1
          by_cases hx2 : x' < 2
          · have hd1 : decide ((x' : Int) < 2) = true := by simpa using (by omega : (x' : Int) < 2)
            by_cases hms : m < s.size
            · have hd2 : decide ((m : Int) < (s.size : Int)) = true := by simpa using hms
              by_cases hc : bt s m = Q
              · have HY : Hid (extAt s q (2 - (x' + 1)) (m + 1) = send s q 3 (at0 + 3)) := by
                  rw [ext_step s q _ m hms (hc.trans HQ.out), ← HX.out, show 2 - x' = 2 - (x' + 1) + 1 by omega]; exact rfl
                have hc' : (bt s m == Q) = true := by simpa using hc
                clear HX hc
                go_wp2
                go_quiet (fail)
                go_wp2
                go_roundg (gk - 1)
                case measure => omega
                case rel => exact ⟨x' + 1, m + 1, by go_num, by omega, by omega, by omega, (hS.drewN _).set _, HY⟩
              · have HY : Hid (send s q 3 (at0 + 3) = m) := by
                  rw [← HX.out]; exact ext_stop s q _ m (.inr (.inr (fun h => hc (h.trans HQ.out.symm))))
                have hc' : (bt s m == Q) = false := by simpa using hc
                clear HX hc
                go_wp2
                go_quiet (fail)
                go_wp2
                refine bodyPost_ret (results_none rfl _ _ _) rfl ?_
                exact ⟨rfl, (hS.drewN _).to HY.out.symm⟩
            · have hd2 : decide ((m : Int) < (s.size : Int)) = false := by simpa using hms
              have HY : Hid (send s q 3 (at0 + 3) = m) := by
                rw [← HX.out]; exact ext_stop s q _ m (.inr (.inl (by omega)))
              clear HX
              go_wp2
              go_quiet (fail)
              go_wp2
              refine bodyPost_ret (results_none rfl _ _ _) rfl ?_
              exact ⟨rfl, (hS.drewN _).to HY.out.symm⟩
          · have hd1 : decide ((x' : Int) < 2) = false := by simpa using (by omega : (2 : Int) ≤ (x' : Int))
            have HY : Hid (send s q 3 (at0 + 3) = m) := by
              rw [← HX.out]; exact ext_stop s q _ m (.inl (by omega))
            clear HX
            go_wp2
            go_quiet (fail)
            go_wp2
            refine bodyPost_ret (results_none rfl _ _ _) rfl ?_
            exact ⟨rfl, (hS.drewN _).to HY.out.symm⟩
      · have hpk' : preAt s q 3 k = false := by simpa using hpk
        have HE : Hid (send s q 3 (k + 1) = send s q 3 (at0 + 3)) := (send_on s q 3 k hlt hne hpk').trans HR.out
        clear HR hpk
        go_wp2
        go_quiet (fail)
        go_wp2
        go_quiet (fail)
        go_wp2
        go_quiet ((go_at_call 26; exact q_same (fun _ => hp_is s T q 3 k _ _ HT hpk')))
        go_wp2
        go_roundg (gk - 1)
        case measure => omega
        case rel => exact ⟨k + 1, by omega, by omega, (hS.drewN _).set _, HE⟩
    · have HE : Hid (send s q 3 (at0 + 3) = k) := by rw [← HR.out, send_past s q 3 k (by omega)]; exact rfl
      clear HR
      go_wp2
      go_quiet (fail)
      go_wp2
      go_end0
      exact ⟨rfl, (hS.drewN _).to HE.out.symm⟩

/-- How many quotes open the string. -/
def opn (s : ByteArray) (q : UInt8) (k : Nat) : Nat := if preAt s q 3 k = true then 3 else 1

theorem str_any (W w : World) (b : Nat) (s : ByteArray) (q : UInt8) (at0 : Nat) (hs : s.size ≤ 4194304) (ha : at0 < s.size) (hq : bt s at0 = (q.toNat : Int)) (hSc : Sc W b s at0 w) :
    Calls Try.prog 23 #[.pointer (some ⟨b, 0, none⟩)] w fun e w' => e = .returned (.tuple #[]) ∧ Sc W b s (send s q (opn s q at0) (at0 + opn s q at0)) w' := by
  have e34 : (q = 34) ↔ bt s at0 = 34 := by rw [hq]; exact (byte_eq (c := q) (n := 34) (by omega)).symm
  unfold opn
  cases hp : preAt s q 3 at0 with
  | true =>
    rw [if_pos rfl]
    by_cases h : q = 34
    · exact str3_q W w b s q _ at0 hs ha rfl hq hp h (by simpa using e34.1 h) hSc
    · exact str3_p W w b s q _ at0 hs ha rfl hq hp h (by simpa using fun x => h (e34.2 x)) hSc
  | false =>
    rw [if_neg Bool.false_ne_true]
    by_cases h : q = 34
    · exact str1_q W w b s q _ at0 hs ha rfl hq hp h (by simpa using e34.1 h) hSc
    · exact str1_p W w b s q _ at0 hs ha rfl hq hp h (by simpa using fun x => h (e34.2 x)) hSc

/-- ZZStr: the scanner is a new block. -/
theorem zzstr_any (W : World) (s : ByteArray) (q : UInt8) (at0 : Nat) (hs : s.size ≤ 4194304) (ha : at0 < s.size) (HQ : Hid (bt s at0 = (q.toNat : Int))) :
    Calls Try.prog 16 #[.string s, .int .i64 at0] W fun e w' => e = .returned (.int .i64 (send s q (opn s q at0) (at0 + opn s q at0) : Nat)) ∧ Below W.heap.size W w' := by
  have h0 : Sc W W.heap.size s at0 (W.alloc (.cells #[.string s, .int .i64 at0, .slice none 0 0] 33)) :=
    ⟨World.cell?_alloc_at _ _ _ _ rfl, World.cell?_alloc_at _ _ _ _ rfl, World.frozen?_alloc_at _ _ _ _ rfl, (Below.refl _ _).alloc (Nat.le_refl _) _⟩
  have HS : Hid (Sc W W.heap.size s at0 (W.alloc (.cells #[.string s, .int .i64 at0, .slice none 0 0] 33))) := h0
  clear h0
  go_enter Try.func16, Try.ntmps16
  go_wp2_with fail
  refine (str_any W _ W.heap.size s q at0 hs ha HQ.out HS.out).mono ?_
  rintro e w' ⟨rfl, hS⟩
  have c1 := hS.c1
  go_wp2
  go_ret
  exact ⟨rfl, hS.bel⟩

end Go.Proofs.Qxb6600500a
