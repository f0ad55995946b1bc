/-
  Seat b6600947a: the plain laws of the adjacency rows.
-/
import Derived.Test.Qxb6600947aCompPlain
namespace Go.Proofs.Qxb6600947a

def validB (n : Nat) (a b : Int) : Bool := decide ((0 ≤ a ∧ a < n) ∧ (0 ≤ b ∧ b < n))
theorem validB_iff (n : Nat) (a b : Int) : validB n a b = true ↔ valid n a b := by unfold validB valid; simp

/-- How many ends the first k edges have at v. -/
def cE (n : Nat) (A B : Nat → Int) (v : Nat) : Nat → Nat
  | 0 => 0
  | k + 1 => cE n A B v k + if validB n (A k) (B k) = true then (if (A k).toNat = v then 1 else 0) + (if (B k).toNat = v then 1 else 0) else 0
theorem cE_le (n : Nat) (A B : Nat → Int) (v : Nat) : ∀ k, cE n A B v k ≤ 2 * k
  | 0 => by simp [cE]
  | k + 1 => by
    have := cE_le n A B v k
    unfold cE
    split
    · split <;> split <;> omega
    · omega
theorem cE_mono (n : Nat) (A B : Nat → Int) (v : Nat) {k : Nat} : ∀ m, k ≤ m → cE n A B v k ≤ cE n A B v m
  | 0, h => by have : k = 0 := by omega
               subst this; exact Nat.le_refl _
  | m + 1, h => by
    by_cases e : k = m + 1
    · rw [e]; exact Nat.le_refl _
    · have := cE_mono n A B v m (k := k) (by omega)
      have h2 : cE n A B v (m + 1) = cE n A B v m + if validB n (A m) (B m) = true then (if (A m).toNat = v then 1 else 0) + (if (B m).toNat = v then 1 else 0) else 0 := rfl
      omega
theorem cE_skip {n : Nat} {A B : Nat → Int} {k : Nat} (h : ¬ valid n (A k) (B k)) (v : Nat) : cE n A B v (k + 1) = cE n A B v k := by
  show cE n A B v k + (if validB n (A k) (B k) = true then (if (A k).toNat = v then 1 else 0) + (if (B k).toNat = v then 1 else 0) else 0) = cE n A B v k
  rw [if_neg (fun e => h ((validB_iff _ _ _).1 e))]
  rfl
/-- An edge raises the count at its first end, then at its second. -/
theorem cE_step {n : Nat} {A B : Nat → Int} {k x y : Nat} (h : valid n (A k) (B k)) (hx : A k = x) (hy : B k = y) (v : Nat) :
    upd (upd (fun v => cE n A B v k) x (cE n A B x k + 1)) y (upd (fun v => cE n A B v k) x (cE n A B x k + 1) y + 1) v = cE n A B v (k + 1) := by
  have h2 : cE n A B v (k + 1) = cE n A B v k + ((if x = v then 1 else 0) + (if y = v then 1 else 0)) := by
    show cE n A B v k + _ = _
    rw [if_pos ((validB_iff _ _ _).2 h), hx, hy]
    rfl
  rw [h2]
  by_cases e1 : v = y
  · have a2 : (if y = v then (1 : Nat) else 0) = 1 := if_pos e1.symm
    rw [a2, ← e1, upd_same]
    by_cases e2 : v = x
    · have a1 : (if x = v then (1 : Nat) else 0) = 1 := if_pos e2.symm
      rw [a1, ← e2, upd_same]
    · have a1 : (if x = v then (1 : Nat) else 0) = 0 := if_neg (fun q => e2 q.symm)
      rw [a1, upd_other _ _ _ e2]
  · have a2 : (if y = v then (1 : Nat) else 0) = 0 := if_neg (fun q => e1 q.symm)
    rw [a2, upd_other _ _ _ e1]
    by_cases e2 : v = x
    · have a1 : (if x = v then (1 : Nat) else 0) = 1 := if_pos e2.symm
      rw [a1, ← e2, upd_same]
    · have a1 : (if x = v then (1 : Nat) else 0) = 0 := if_neg (fun q => e2 q.symm)
      rw [a1, upd_other _ _ _ e2]; rfl
theorem cE_lt1 {n : Nat} {A B : Nat → Int} {k m x y : Nat} (h : valid n (A k) (B k)) (hx : A k = x) (hy : B k = y) (hk : k < m) : cE n A B x k < cE n A B x m := by
  have h1 := cE_step h hx hy x
  have h2 := cE_mono n A B x m (k := k + 1) (by omega)
  rw [← h1] at h2
  unfold upd at h2
  by_cases e : x = y
  · rw [if_pos e, if_pos e.symm] at h2; omega
  · rw [if_neg e, if_pos rfl] at h2; omega
theorem cE_lt2 {n : Nat} {A B : Nat → Int} {k m x y : Nat} (h : valid n (A k) (B k)) (hx : A k = x) (hy : B k = y) (hk : k < m) : upd (fun v => cE n A B v k) x (cE n A B x k + 1) y < cE n A B y m := by
  have h1 := cE_step h hx hy y
  have h2 := cE_mono n A B y m (k := k + 1) (by omega)
  rw [← h1, upd_same] at h2
  omega

/-- Where v's entries begin. -/
def stt (d : Nat → Nat) : Nat → Nat
  | 0 => 0
  | v + 1 => stt d v + d v
theorem stt_mono (d : Nat → Nat) {u : Nat} : ∀ v, u ≤ v → stt d u ≤ stt d v
  | 0, h => by have : u = 0 := by omega
               subst this; exact Nat.le_refl _
  | v + 1, h => by
    by_cases e : u = v + 1
    · rw [e]; exact Nat.le_refl _
    · have := stt_mono d v (u := u) (by omega)
      show stt d u ≤ stt d v + d v
      omega
theorem stt_own (d : Nat → Nat) {u v e : Nat} (h1 : stt d u ≤ e) (h2 : e < stt d (u + 1)) (h3 : stt d v ≤ e) (h4 : e < stt d (v + 1)) : u = v := by
  rcases Nat.lt_trichotomy u v with h | h | h
  · have := stt_mono d (u := u + 1) v (by omega); omega
  · exact h
  · have := stt_mono d (u := v + 1) u (by omega); omega
theorem stt_le (d : Nat → Nat) (c : Nat) (h : ∀ v, d v ≤ c) : ∀ v, stt d v ≤ v * c
  | 0 => by simp [stt]
  | v + 1 => by
    have := stt_le d c h v
    have h2 := h v
    rw [Nat.succ_mul]
    show stt d v + d v ≤ v * c + c
    omega

/-- The entries that have been laid. -/
structure Fi (n : Nat) (d q adj : Nat → Nat) (S : Nat → Nat → Prop) : Prop where
  le : ∀ v, q v ≤ d v
  g1 : ∀ v, v < n → ∀ e, stt d v ≤ e → e < stt d v + q v → S v (adj e)
  g2 : ∀ v u, S v u → ∃ e, stt d v ≤ e ∧ e < stt d v + q v ∧ adj e = u

theorem Fi.push {n : Nat} {d q adj : Nat → Nat} {S : Nat → Nat → Prop} (h : Fi n d q adj S) {x u : Nat} (hq : q x < d x) : Fi n d (upd q x (q x + 1)) (upd adj (stt d x + q x) u) (fun a b => S a b ∨ (a = x ∧ b = u)) := by
  have hin : ∀ v e, stt d v ≤ e → e < stt d v + q v → e ≠ stt d x + q x := fun v e h1 h2 e3 => by
    have hl := h.le v
    have e4 : v = x := stt_own d (e := e) h1 (by show e < stt d v + d v; omega) (by omega) (by show e < stt d x + d x; omega)
    subst e4
    omega
  refine ⟨fun v => ?_, fun v hv e h1 h2 => ?_, fun v b hs => ?_⟩
  · by_cases e : v = x
    · subst e; rw [upd_same]; omega
    · rw [upd_other _ _ _ e]; exact h.le v
  · by_cases e3 : v = x
    · subst e3
      rw [upd_same] at h2
      by_cases e4 : e = stt d v + q v
      · rw [e4, upd_same]; exact .inr ⟨rfl, rfl⟩
      · rw [upd_other _ _ _ e4]; exact .inl (h.g1 v hv e h1 (by omega))
    · rw [upd_other _ _ _ e3] at h2
      rw [upd_other _ _ _ (hin v e h1 h2)]
      exact .inl (h.g1 v hv e h1 h2)
  · rcases hs with hs | ⟨rfl, rfl⟩
    · obtain ⟨e, h1, h2, h3⟩ := h.g2 v b hs
      refine ⟨e, h1, ?_, ?_⟩
      · by_cases e3 : v = x
        · subst e3; rw [upd_same]; omega
        · rw [upd_other _ _ _ e3]; exact h2
      · rw [upd_other _ _ _ (hin v e h1 h2)]; exact h3
    · exact ⟨stt d v + q v, by omega, by rw [upd_same]; omega, upd_same _ _ _⟩
theorem Fi.iff {n : Nat} {d q adj : Nat → Nat} {S T : Nat → Nat → Prop} (h : Fi n d q adj S) (e : ∀ a b, S a b ↔ T a b) : Fi n d q adj T :=
  ⟨h.le, fun v hv x h1 h2 => (e _ _).1 (h.g1 v hv x h1 h2), fun v u hs => h.g2 v u ((e _ _).2 hs)⟩
theorem Fi.to {n : Nat} {d q q' adj : Nat → Nat} {S : Nat → Nat → Prop} (h : Fi n d q adj S) (e : ∀ v, q v = q' v) : Fi n d q' adj S := by
  have : q = q' := funext e
  rw [← this]; exact h

/-- The directed edges of the first k. -/
def Sk (n : Nat) (A B : Nat → Int) (k a b : Nat) : Prop := ∃ j, j < k ∧ valid n (A j) (B j) ∧ (((A j).toNat = a ∧ (B j).toNat = b) ∨ ((B j).toNat = a ∧ (A j).toNat = b))
theorem Sk_skip {n : Nat} {A B : Nat → Int} {k : Nat} (h : ¬ valid n (A k) (B k)) (a b : Nat) : Sk n A B k a b ↔ Sk n A B (k + 1) a b := by
  constructor
  · rintro ⟨j, h1, h2⟩; exact ⟨j, by omega, h2⟩
  · rintro ⟨j, h1, h2, h3⟩
    have : j ≠ k := fun e => h (e ▸ h2)
    exact ⟨j, by omega, h2, h3⟩
theorem Sk_step {n : Nat} {A B : Nat → Int} {k x y : Nat} (h : valid n (A k) (B k)) (hx : A k = x) (hy : B k = y) (a b : Nat) : ((Sk n A B k a b ∨ (a = x ∧ b = y)) ∨ (a = y ∧ b = x)) ↔ Sk n A B (k + 1) a b := by
  have ex : (A k).toNat = x := by rw [hx]; rfl
  have ey : (B k).toNat = y := by rw [hy]; rfl
  constructor
  · rintro ((⟨j, h1, h2⟩ | ⟨rfl, rfl⟩) | ⟨rfl, rfl⟩)
    · exact ⟨j, by omega, h2⟩
    · exact ⟨k, by omega, h, .inl ⟨ex, ey⟩⟩
    · exact ⟨k, by omega, h, .inr ⟨ey, ex⟩⟩
  · rintro ⟨j, h1, h2, h3⟩
    by_cases e : j = k
    · subst e
      rcases h3 with ⟨h4, h5⟩ | ⟨h4, h5⟩
      · exact .inl (.inr ⟨by omega, by omega⟩)
      · exact .inr ⟨by omega, by omega⟩
    · exact .inl (.inl ⟨j, by omega, h2, h3⟩)

theorem Fi.start (n : Nat) (A B : Nat → Int) (m : Nat) (adj : Nat → Nat) : Fi n (fun v => cE n A B v m) (fun v => cE n A B v 0) adj (Sk n A B 0) :=
  ⟨fun v => cE_mono n A B v m (Nat.zero_le _), fun v _ e h1 h2 => by have : cE n A B v 0 = 0 := rfl
                                                                     omega, fun v u ⟨j, hj, _⟩ => by omega⟩

theorem Fi.adj {n : Nat} {A B : Nat → Int} {m : Nat} {adj : Nat → Nat} (h : Fi n (fun v => cE n A B v m) (fun v => cE n A B v m) adj (Sk n A B m)) : Adj n A B m (stt (fun v => cE n A B v m)) adj := by
  have hs : ∀ v, v < n → ∀ e, stt (fun v => cE n A B v m) v ≤ e → e < stt (fun v => cE n A B v m) (v + 1) → Sk n A B m v (adj e) := fun v hv e h1 h2 => h.g1 v hv e h1 h2
  refine ⟨fun v hv e h1 h2 => ?_, fun v hv e h1 h2 => ?_, fun L hL v hv e h1 h2 => ?_, fun k hk hv => ?_⟩
  · obtain ⟨j, _, hv2, h3⟩ := hs v hv e h1 h2
    have := hv2.1
    have := hv2.2
    omega
  · obtain ⟨j, hj, hv2, h3⟩ := hs v hv e h1 h2
    exact h.g2 (adj e) v ⟨j, hj, hv2, by rcases h3 with ⟨q1, q2⟩ | ⟨q1, q2⟩; exact .inr ⟨q2, q1⟩; exact .inl ⟨q2, q1⟩⟩
  · obtain ⟨j, hj, hv2, h3⟩ := hs v hv e h1 h2
    have := hL j hj hv2
    rcases h3 with ⟨q1, q2⟩ | ⟨q1, q2⟩
    · rw [← q1, ← q2]; exact this.symm
    · rw [← q1, ← q2]; exact this
  · exact h.g2 _ _ ⟨k, hk, hv, .inl ⟨rfl, rfl⟩⟩
end Go.Proofs.Qxb6600947a
