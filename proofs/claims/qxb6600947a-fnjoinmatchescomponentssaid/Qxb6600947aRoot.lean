/-
  Seat b6600947a: the walks of (*pieces).root and its wrapper.
-/
import Derived.Test.Qxb6600947aRows
import Derived.Test.Qxb6600947aMem
import Derived.WalkKit
import Derived.WalkSpells
import Derived.BigRegion
import Derived.BigQuiet
import Derived.Deep.LoopGhost
namespace Go.Proofs.Qxb6600947a
open Go.RowKit

/-- One round of root. -/
theorem root_step {n : Nat} {Q : Nat → Nat} {m j r : Nat} (hB : ∀ x, x < n → Q x < n) (hj : j < n) (hd : Dp Q (m + 1) j r) :
    (∀ x, x < n → upd Q j (Q (Q j)) x < n) ∧ Dp (upd Q j (Q (Q j))) (m - 1) (Q (Q j)) r ∧ halve (upd Q j (Q (Q j))) (m - 1) (Q (Q j)) = halve Q (m + 1) j := by
  refine ⟨fun x hx => ?_, ?_, ?_⟩
  · unfold upd
    split
    · exact hB _ (hB _ hj)
    · exact hB x hx
  · match m, hd with
    | 0, hd =>
      have h1 : Q (Q j) = Q j := hd.2.1
      rw [h1]
      exact ⟨by rw [upd_other Q j _ hd.1]; exact h1, hd.2.2⟩
    | m + 1, hd => exact Dp.turn hd _ hd.2.2 (by omega)
  · match m with
    | 0 => rfl
    | m + 1 => rfl

theorem ret_nat {a b : Nat} (h : a = b) : Ending.returned (.int .i64 (a : Int)) = .returned (.int .i64 (b : Int)) := by rw [h]

set_option maxHeartbeats 1000000 in
theorem root_any (b g n : Nat) (P : Nat → Nat) (c : Int) (k i r : Nat) (w : World) (hF : Forest n P) (hi : i < n) (hd : Dp P k i r) (hp : Pc b g n P c w) :
    Calls Try.prog 18 #[.pointer (some ⟨b, 0, none⟩), .int .i64 i] w fun e w' => e = .returned (.int .i64 (r : Nat)) ∧ Pc b g n (halve P k i) c w' ∧ Fr (fun x => x = g) w w' := by
  have HF : Hid (Forest n P) := hF
  have HD : Hid (Dp P k i r) := hd
  have HP : Hid (Pc b g n P c w) := hp
  clear hF hd hp
  go_enter Try.func18, Try.ntmps18
  go_wp2
  go_loopg [1] k (fun gk v wr => ∃ (j : Nat) (Q : Nat → Nat), v = .int .i64 j ∧ j < n ∧ Hid (∀ x, x < n → Q x < n) ∧ Hid (Dp Q gk j r) ∧ Hid (halve Q gk j = halve P k i) ∧ Hid (Pc b g n Q c wr) ∧ Hid (Fr (fun x => x = g) w wr))
  case atStart => exact ⟨i, P, rfl, hi, HF.out.lt, HD, rfl, HP, Fr.refl _ _⟩
  case round =>
    obtain ⟨j, Q, rfl, hj, HB, HDj, HH, HPj, HFr⟩ := hrel
    have c0 := HPj.out.c0
    have cj := HPj.out.at hj
    have hqn : Q j < n := HB.out j hj
    have cq := HPj.out.at hqn
    have fj := HPj.out.fz j
    have hne := HPj.out.ne
    by_cases hr : Q j = j
    · have hr' : (((Q j : Nat) : Int) != (j : Int)) = false := by simp; omega
      obtain ⟨e1, e2⟩ := Dp.zero HDj.out hr
      have HE : Hid (j = r ∧ gk = 0) := ⟨e2.symm, e1⟩
      clear hr e1 e2
      go_wp2
      go_ret
      obtain ⟨e1, e2⟩ := HE.out
      have h := HH.out
      rw [e2] at h
      exact ⟨ret_nat e1, HPj.out.to h, HFr.out⟩
    · obtain ⟨m, e, hm⟩ := Dp.pos HDj.out hr
      have HE : Hid (gk = m + 1) := e
      have hd1 : Dp Q (m + 1) j r := by rw [← e]; exact HDj.out
      have HS : Hid ((∀ x, x < n → upd Q j (Q (Q j)) x < n) ∧ Dp (upd Q j (Q (Q j))) (m - 1) (Q (Q j)) r ∧ halve (upd Q j (Q (Q j))) (m - 1) (Q (Q j)) = halve Q (m + 1) j) := root_step HB.out hj hd1
      have hr' : (((Q j : Nat) : Int) != (j : Int)) = true := by simp; omega
      have hqq : Q (Q j) < n := HB.out _ hqn
      clear hr hm hd1 e
      go_wp2
      go_region
      go_wp2
      go_roundg (m - 1)
      case measure => have := HE.out; omega
      case rel =>
        have h := HH.out
        rw [HE.out] at h
        exact ⟨Q (Q j), upd Q j (Q (Q j)), rfl, hqq, HS.out.1, HS.out.2.1, HS.out.2.2.trans h, (HPj.out.set j (Q (Q j))).drew, (HFr.out.setCell rfl _).drew⟩

/-- ZZRoot. -/
theorem zzroot_any (b g n : Nat) (P : Nat → Nat) (c : Int) (k i r : Nat) (w : World) (hF : Forest n P) (hi : i < n) (hd : Dp P k i r) (hp : Pc b g n P c w) :
    Calls Try.prog 11 #[.pointer (some ⟨b, 0, none⟩), .int .i64 i] w fun e w' => e = .returned (.int .i64 (r : Nat)) ∧ Pc b g n (halve P k i) c w' ∧ Fr (fun x => x = g) w w' := by
  have HC := root_any b g n P c k i r w hF hi hd hp
  have HH : Hid (Calls Try.prog 18 #[.pointer (some ⟨b, 0, none⟩), .int .i64 i] w fun e w' => e = .returned (.int .i64 (r : Nat)) ∧ Pc b g n (halve P k i) c w' ∧ Fr (fun x => x = g) w w') := HC
  clear HC hp hd hF
  go_enter Try.func11, Try.ntmps11
  go_wp2_with fail
  refine HH.out.mono ?_
  rintro e w' ⟨rfl, h1, h2⟩
  have H1 : Hid (Pc b g n (halve P k i) c w') := h1
  have H2 : Hid (Fr (fun x => x = g) w w') := h2
  clear h1 h2 HH
  go_wp2
  go_ret
  exact ⟨rfl, H1, H2⟩
end Go.Proofs.Qxb6600947a
