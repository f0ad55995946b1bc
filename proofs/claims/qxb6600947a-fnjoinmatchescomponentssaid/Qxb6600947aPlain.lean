/-
  Seat b6600947a: the plain laws of a forest of parents (nothing of the program's translation is imported here).
-/
import Derived.WalkKit
namespace Go.Proofs.Qxb6600947a

/-- The parents with one entry more. -/
def upd (P : Nat → Nat) (i v : Nat) : Nat → Nat := fun j => if j = i then v else P j
theorem upd_same (P : Nat → Nat) (i v : Nat) : upd P i v i = v := if_pos rfl
theorem upd_other (P : Nat → Nat) (i v : Nat) {j : Nat} (h : j ≠ i) : upd P i v j = P j := if_neg h

/-- From i the root r is k steps away. -/
def Dp (P : Nat → Nat) : Nat → Nat → Nat → Prop
  | 0, i, r => P i = i ∧ r = i
  | k + 1, i, r => P i ≠ i ∧ Dp P k (P i) r

theorem Dp.root {P : Nat → Nat} : ∀ {k i r : Nat}, Dp P k i r → P r = r
  | 0, _, _, h => by obtain ⟨h1, rfl⟩ := h; exact h1
  | _ + 1, _, _, h => Dp.root h.2

theorem Dp.unique {P : Nat → Nat} : ∀ {k i r k' r' : Nat}, Dp P k i r → Dp P k' i r' → k = k' ∧ r = r'
  | 0, _, _, 0, _, h, h' => ⟨rfl, h.2.trans h'.2.symm⟩
  | 0, _, _, _ + 1, _, h, h' => absurd h.1 h'.1
  | _ + 1, _, _, 0, _, h, h' => absurd h'.1 h.1
  | k + 1, i, r, k' + 1, r', h, h' => by
    obtain ⟨e1, e2⟩ := Dp.unique h.2 h'.2
    exact ⟨by omega, e2⟩

theorem Dp.zero {P : Nat → Nat} {k i r : Nat} (h : Dp P k i r) (hp : P i = i) : k = 0 ∧ r = i := by
  cases k with
  | zero => exact ⟨rfl, h.2⟩
  | succ k => exact absurd hp h.1
theorem Dp.pos {P : Nat → Nat} {k i r : Nat} (h : Dp P k i r) (hp : P i ≠ i) : ∃ m, k = m + 1 ∧ Dp P m (P i) r := by
  cases k with
  | zero => exact absurd h.1 hp
  | succ k => exact ⟨k, rfl, h.2⟩

/-- A node that lies deeper may be turned: the way from here to the root stays. -/
theorem Dp.turn {P : Nat → Nat} {ki i ri : Nat} (hi : Dp P ki i ri) (v : Nat) : ∀ {k j r : Nat}, Dp P k j r → k < ki → Dp (upd P i v) k j r
  | 0, j, r, h, hlt => by
    have hne : j ≠ i := fun e => by subst e; have := (Dp.unique h hi).1; omega
    exact ⟨by rw [upd_other P i v hne]; exact h.1, h.2⟩
  | k + 1, j, r, h, hlt => by
    have hne : j ≠ i := fun e => by subst e; have := (Dp.unique h hi).1; omega
    refine ⟨by rw [upd_other P i v hne]; exact h.1, ?_⟩
    rw [upd_other P i v hne]
    exact Dp.turn hi v h.2 (by omega)

/-- The new parent is the old grandparent: each node keeps its root and gets no deeper. -/
theorem Dp.halved {P : Nat → Nat} {ki i ri : Nat} (hi : Dp P ki i ri) (hr : P i ≠ i) : ∀ {k j r : Nat}, Dp P k j r → ∃ k', k' ≤ k ∧ Dp (upd P i (P (P i))) k' j r
  | 0, j, r, h => by
    have hne : j ≠ i := fun e => by subst e; exact hr h.1
    exact ⟨0, Nat.le_refl _, by rw [upd_other P i _ hne]; exact h.1, h.2⟩
  | k + 1, j, r, h => by
    by_cases e : j = i
    · subst e
      obtain ⟨e1, e2⟩ := Dp.unique h hi
      subst e1 e2
      cases k with
      | zero =>
        have h1 : P (P j) = P j := h.2.1
        refine ⟨1, Nat.le_refl _, ?_, ?_⟩
        · rw [upd_same, h1]; exact hr
        · rw [upd_same, h1]
          refine ⟨?_, h.2.2⟩
          rw [upd_other P j _ hr, h1]
      | succ k =>
        have h2 : Dp P k (P (P j)) r := h.2.2
        have h3 := Dp.turn hi (P (P j)) h2 (by omega)
        refine ⟨k + 1, by omega, ?_, ?_⟩
        · rw [upd_same]
          intro e
          rw [e] at h2
          have := (Dp.unique h2 hi).1; omega
        · rw [upd_same]; exact h3
    · obtain ⟨k', hk, h'⟩ := Dp.halved hi hr h.2
      exact ⟨k' + 1, by omega, by rw [upd_other P i _ e]; exact h.1, by rw [upd_other P i _ e]; exact h'⟩

/-- What root leaves of the parents: k the depth of i. -/
def halve (P : Nat → Nat) : Nat → Nat → (Nat → Nat)
  | 0, _ => P
  | 1, i => upd P i (P (P i))
  | k + 2, i => halve (upd P i (P (P i))) k (P (P i))

theorem halve_keeps : ∀ (m k : Nat), k ≤ m → ∀ {P : Nat → Nat} {i ri : Nat}, Dp P k i ri → ∀ {kj j rj : Nat}, Dp P kj j rj → ∃ k', k' ≤ kj ∧ Dp (halve P k i) k' j rj
  | _, 0, _, _, _, _, _, kj, _, _, hj => ⟨kj, Nat.le_refl _, hj⟩
  | _, 1, _, P, i, ri, hi, kj, j, rj, hj => Dp.halved hi hi.1 hj
  | 0, k + 2, h, _, _, _, _, _, _, _, _ => by omega
  | m + 1, k + 2, h, P, i, ri, hi, kj, j, rj, hj => by
    obtain ⟨k1, h1, hj1⟩ := Dp.halved hi hi.1 hj
    have h2 : Dp P k (P (P i)) ri := hi.2.2
    have h3 := Dp.turn hi (P (P i)) h2 (by omega)
    obtain ⟨k2, h4, h5⟩ := halve_keeps m k (by omega) h3 hj1
    exact ⟨k2, by omega, h5⟩

theorem halve_bound (n : Nat) : ∀ (m k : Nat), k ≤ m → ∀ {P : Nat → Nat} {i ri : Nat}, Dp P k i ri → i < n → (∀ j, j < n → P j < n) → ∀ j, j < n → halve P k i j < n
  | _, 0, _, _, _, _, _, _, hb, j, hj => hb j hj
  | _, 1, _, P, i, ri, hi, hin, hb, j, hj => by
    show upd P i (P (P i)) j < n
    unfold upd
    split
    · exact hb _ (hb _ hin)
    · exact hb j hj
  | 0, k + 2, h, _, _, _, _, _, _, _, _ => by omega
  | m + 1, k + 2, h, P, i, ri, hi, hin, hb, j, hj => by
    have h2 : Dp P k (P (P i)) ri := hi.2.2
    have h3 := Dp.turn hi (P (P i)) h2 (by omega)
    refine halve_bound n m k (by omega) h3 (hb _ (hb _ hin)) (fun x hx => ?_) j hj
    unfold upd
    split
    · exact hb _ (hb _ hin)
    · exact hb x hx

/-- Nodes that lie as deep as i or deeper, and are not i, are left alone. -/
theorem halve_deep : ∀ (m k : Nat), k ≤ m → ∀ {P : Nat → Nat} {i ri : Nat}, Dp P k i ri → ∀ {kj j rj : Nat}, Dp P kj j rj → k ≤ kj → j ≠ i → halve P k i j = P j
  | _, 0, _, _, _, _, _, _, _, _, _, _, _ => rfl
  | _, 1, _, P, i, ri, hi, kj, j, rj, hj, hk, hne => upd_other P i _ hne
  | 0, k + 2, h, _, _, _, _, _, _, _, _, _, _ => by omega
  | m + 1, k + 2, h, P, i, ri, hi, kj, j, rj, hj, hk, hne => by
    have h2 : Dp P k (P (P i)) ri := hi.2.2
    have h3 := Dp.turn hi (P (P i)) h2 (by omega)
    have hne2 : j ≠ P (P i) := fun e => by subst e; have := (Dp.unique hj h2).1; omega
    by_cases hc : P j = j
    · have := (Dp.zero hj hc).1; omega
    · obtain ⟨k1, h1, hj1⟩ := Dp.halved hi hi.1 hj
      -- the depth of j behind the one turn is at least k: it is kj or less by at most one
      have key : ∀ {kj j rj : Nat}, Dp P kj j rj → ∀ {k1 : Nat}, Dp (upd P i (P (P i))) k1 j rj → kj ≤ k1 + 1 ∧ (kj ≤ k + 1 → k1 = kj) := by
        intro kj
        induction kj with
        | zero =>
          intro j rj hj k1 hj1
          have hne : j ≠ i := fun e => by subst e; exact hi.1 hj.1
          have h0 : upd P i (P (P i)) j = j := by rw [upd_other P i _ hne]; exact hj.1
          have := (Dp.zero hj1 h0).1
          exact ⟨by omega, fun _ => this⟩
        | succ kj ih =>
          intro j rj hj k1 hj1
          by_cases e : j = i
          · subst e
            have e1 := (Dp.unique hj hi).1
            have hq : upd P j (P (P j)) j ≠ j := by
              rw [upd_same]; intro e; rw [e] at h2; have := (Dp.unique h2 hi).1; omega
            obtain ⟨m1, e2, h5⟩ := Dp.pos hj1 hq
            rw [upd_same] at h5
            have := (Dp.unique h5 h3).1
            exact ⟨by omega, fun hx => by omega⟩
          · have hq : upd P i (P (P i)) j ≠ j := by rw [upd_other P i _ e]; exact hj.1
            obtain ⟨m1, e2, h5⟩ := Dp.pos hj1 hq
            rw [upd_other P i _ e] at h5
            have h6 := ih hj.2 h5
            exact ⟨by omega, fun hx => by have := h6.2 (by omega); omega⟩
      have hk1 := key hj hj1
      rw [halve, halve_deep m k (by omega) h3 hj1 (by omega) hne2, upd_other P i _ hne]

/-- x's new parent is its old grandparent. -/
theorem halve_self (k : Nat) {P : Nat → Nat} {i ri : Nat} (hi : Dp P k i ri) : halve P k i i = P (P i) := by
  match k, hi with
  | 0, hi => rw [halve, hi.1]; exact hi.1.symm
  | 1, hi => exact upd_same _ _ _
  | k + 2, hi =>
    have h2 : Dp P k (P (P i)) ri := hi.2.2
    have h3 := Dp.turn hi (P (P i)) h2 (by omega)
    have hne : i ≠ P (P i) := fun e => by rw [← e] at h2; have := (Dp.unique h2 hi).1; omega
    have h4 : ∃ k1, k ≤ k1 ∧ Dp (upd P i (P (P i))) k1 i ri := by
      refine ⟨k + 1, by omega, ?_, ?_⟩
      · rw [upd_same]; exact fun e => hne e.symm
      · rw [upd_same]; exact h3
    obtain ⟨k1, hk1, h5⟩ := h4
    rw [halve, halve_deep k k (Nat.le_refl _) h3 h5 hk1 hne, upd_same]

/-- x's depth is halved, rounded up. -/
theorem halve_depth : ∀ (m k : Nat), k ≤ m → ∀ {P : Nat → Nat} {i ri : Nat}, Dp P k i ri → Dp (halve P k i) ((k + 1) / 2) i ri
  | _, 0, _, _, _, _, hi => hi
  | _, 1, _, P, i, ri, hi => by
    have h1 : P (P i) = P i := hi.2.1
    show Dp (upd P i (P (P i))) 1 i ri
    rw [h1]
    refine ⟨?_, ?_⟩
    · rw [upd_same]; exact hi.1
    · rw [upd_same]
      exact ⟨by rw [upd_other P i _ hi.1]; exact h1, hi.2.2⟩
  | 0, k + 2, h, _, _, _, _ => by omega
  | m + 1, k + 2, h, P, i, ri, hi => by
    have h2 : Dp P k (P (P i)) ri := hi.2.2
    have h3 := Dp.turn hi (P (P i)) h2 (by omega)
    have ih := halve_depth m k (by omega) h3
    have hs := halve_self (k + 2) hi
    have hne : P (P i) ≠ i := fun e => by rw [e] at h2; have := (Dp.unique h2 hi).1; omega
    rw [show (k + 2 + 1) / 2 = (k + 1) / 2 + 1 by omega]
    refine ⟨by rw [hs]; exact hne, ?_⟩
    rw [hs]
    exact ih

/-! ### A forest over n nodes -/
structure Forest (n : Nat) (P : Nat → Nat) : Prop where
  lt : ∀ i, i < n → P i < n
  ends : ∀ i, i < n → ∃ k r, Dp P k i r

theorem Dp.lt {P : Nat → Nat} {n : Nat} (hb : ∀ i, i < n → P i < n) : ∀ {k i r : Nat}, Dp P k i r → i < n → r < n
  | 0, _, _, h, hi => by rw [h.2]; exact hi
  | _ + 1, _, _, h, hi => Dp.lt hb h.2 (hb _ hi)

/-- A list of different numbers below n has at most n of them. -/
theorem nodup_lt : ∀ (n : Nat) (l : List Nat), l.Nodup → (∀ x ∈ l, x < n) → l.length ≤ n
  | 0, l, _, h => by
    cases l with
    | nil => simp
    | cons a l => have := h a (by simp); omega
  | n + 1, l, hd, h => by
    by_cases hm : n ∈ l
    · have h1 : (l.erase n).length = l.length - 1 := List.length_erase_of_mem hm
      have h2 := nodup_lt n (l.erase n) (hd.erase n) (fun x hx => by
        have h3 := (List.Nodup.mem_erase_iff hd).1 hx
        have := h x h3.2
        have := h3.1
        omega)
      omega
    · have := nodup_lt n l hd (fun x hx => by
        have h1 := h x hx
        have h2 : x ≠ n := fun e => hm (e ▸ hx)
        omega)
      omega

/-- The nodes on the way from i to its root. -/
def way (P : Nat → Nat) : Nat → Nat → List Nat
  | 0, i => [i]
  | k + 1, i => i :: way P k (P i)
theorem way_length (P : Nat → Nat) : ∀ k i, (way P k i).length = k + 1
  | 0, _ => rfl
  | k + 1, i => by rw [way, List.length_cons, way_length P k]
theorem way_lt {P : Nat → Nat} {n : Nat} (hb : ∀ i, i < n → P i < n) : ∀ k i, i < n → ∀ x ∈ way P k i, x < n
  | 0, i, hi, x, hx => by simp [way] at hx; omega
  | k + 1, i, hi, x, hx => by
    rw [way, List.mem_cons] at hx
    rcases hx with rfl | hx
    · exact hi
    · exact way_lt hb k (P i) (hb i hi) x hx
theorem way_depth {P : Nat → Nat} : ∀ {k i r : Nat}, Dp P k i r → ∀ x ∈ way P k i, ∃ m, m ≤ k ∧ Dp P m x r
  | 0, i, r, h, x, hx => by simp [way] at hx; subst hx; exact ⟨0, Nat.le_refl _, h⟩
  | k + 1, i, r, h, x, hx => by
    rw [way, List.mem_cons] at hx
    rcases hx with rfl | hx
    · exact ⟨k + 1, Nat.le_refl _, h⟩
    · obtain ⟨m, hm, h'⟩ := way_depth h.2 x hx
      exact ⟨m, by omega, h'⟩
theorem way_nodup {P : Nat → Nat} : ∀ {k i r : Nat}, Dp P k i r → (way P k i).Nodup
  | 0, _, _, _ => by simp [way]
  | k + 1, i, r, h => by
    rw [way, List.nodup_cons]
    refine ⟨fun hx => ?_, way_nodup h.2⟩
    obtain ⟨m, hm, h'⟩ := way_depth h.2 _ hx
    have := (Dp.unique h' h).1
    omega
/-- NO WAY IS LONGER THAN THE NODES. -/
theorem Dp.short {P : Nat → Nat} {n : Nat} (hb : ∀ i, i < n → P i < n) {k i r : Nat} (h : Dp P k i r) (hi : i < n) : k < n := by
  have := nodup_lt n (way P k i) (way_nodup h) (way_lt hb k i hi)
  rw [way_length] at this
  omega

theorem Forest.halve {n : Nat} {P : Nat → Nat} (h : Forest n P) {k i r : Nat} (hi : Dp P k i r) (hin : i < n) : Forest n (halve P k i) :=
  ⟨halve_bound n k k (Nat.le_refl _) hi hin h.lt, fun j hj => by
    obtain ⟨kj, rj, hd⟩ := h.ends j hj
    obtain ⟨k', _, h'⟩ := halve_keeps k k (Nat.le_refl _) hi hd
    exact ⟨k', rj, h'⟩⟩

/-- The two have the same roots over n nodes. -/
def Same (n : Nat) (P Q : Nat → Nat) : Prop := ∀ i, i < n → ∀ k r, Dp P k i r → ∃ k', Dp Q k' i r
theorem Same.refl (n : Nat) (P : Nat → Nat) : Same n P P := fun _ _ k _ h => ⟨k, h⟩
theorem Same.trans {n : Nat} {P Q R : Nat → Nat} (h : Same n P Q) (h' : Same n Q R) : Same n P R := fun i hi k r hd => by
  obtain ⟨k1, h1⟩ := h i hi k r hd
  exact h' i hi k1 r h1
theorem Same.halve {n : Nat} {P : Nat → Nat} {k i r : Nat} (hi : Dp P k i r) : Same n P (halve P k i) := fun j _ kj rj hd => by
  obtain ⟨k', _, h'⟩ := halve_keeps k k (Nat.le_refl _) hi hd
  exact ⟨k', h'⟩
theorem Same.root_iff {n : Nat} {P Q : Nat → Nat} (hP : Forest n P) (h : Same n P Q) {i : Nat} (hi : i < n) : Q i = i ↔ P i = i := by
  obtain ⟨k, r, hd⟩ := hP.ends i hi
  obtain ⟨k', hd'⟩ := h i hi k r hd
  constructor
  · intro e
    have e1 := (Dp.zero hd' e).2
    have e2 := Dp.root hd
    rw [e1] at e2; exact e2
  · intro e
    have e1 := (Dp.zero hd e).2
    have e2 := Dp.root hd'
    rw [e1] at e2; exact e2

/-- The number of roots. -/
def cnt (P : Nat → Nat) : Nat → Nat
  | 0 => 0
  | n + 1 => cnt P n + if P n = n then 1 else 0
theorem cnt_le (P : Nat → Nat) : ∀ n, cnt P n ≤ n
  | 0 => Nat.le_refl _
  | n + 1 => by have := cnt_le P n; unfold cnt; split <;> omega
theorem cnt_congr {P Q : Nat → Nat} : ∀ n, (∀ i, i < n → (Q i = i ↔ P i = i)) → cnt Q n = cnt P n
  | 0, _ => rfl
  | n + 1, h => by
    have h1 := cnt_congr n (fun i hi => h i (by omega))
    have h2 := h n (by omega)
    unfold cnt
    rw [h1]
    by_cases e : P n = n
    · rw [if_pos e, if_pos (h2.2 e)]
    · rw [if_neg e, if_neg (fun x => e (h2.1 x))]
theorem cnt_upd {P : Nat → Nat} {a v : Nat} (ha : P a = a) (hv : v ≠ a) : ∀ n, cnt (upd P a v) n + (if a < n then 1 else 0) = cnt P n
  | 0 => by simp [cnt]
  | n + 1 => by
    have ih := cnt_upd ha hv n
    unfold cnt
    by_cases e : n = a
    · subst e
      rw [upd_same, if_neg hv, if_pos ha, if_pos (by omega)]
      rw [if_neg (by omega)] at ih
      omega
    · rw [upd_other P a v e]
      have : (if a < n + 1 then 1 else 0) = (if a < n then 1 else 0) := by
        by_cases h : a < n
        · rw [if_pos h, if_pos (by omega)]
        · rw [if_neg h, if_neg (by omega)]
      rw [this]; omega
theorem cnt_id : ∀ n, cnt (fun i => i) n = n
  | 0 => rfl
  | n + 1 => by unfold cnt; rw [cnt_id n]; simp

/-- Joining two roots. -/
theorem Dp.join {P : Nat → Nat} {a b : Nat} (ha : P a = a) (hb : P b = b) (hne : a ≠ b) : ∀ {k i r : Nat}, Dp P k i r → if r = a then Dp (upd P a b) (k + 1) i b else Dp (upd P a b) k i r
  | 0, i, r, h => by
    obtain ⟨h1, rfl⟩ := h
    split
    · rename_i e
      subst e
      refine ⟨by rw [upd_same]; exact fun e => hne e.symm, ?_⟩
      rw [upd_same]
      exact ⟨by rw [upd_other P r b (fun e => hne e.symm)]; exact hb, rfl⟩
    · rename_i e
      exact ⟨by rw [upd_other P a b e]; exact h1, rfl⟩
  | k + 1, i, r, h => by
    have ih := Dp.join ha hb hne h.2
    have hne2 : i ≠ a := fun e => by subst e; exact h.1 ha
    split
    · rename_i e
      rw [if_pos e] at ih
      exact ⟨by rw [upd_other P a b hne2]; exact h.1, by rw [upd_other P a b hne2]; exact ih⟩
    · rename_i e
      rw [if_neg e] at ih
      exact ⟨by rw [upd_other P a b hne2]; exact h.1, by rw [upd_other P a b hne2]; exact ih⟩

theorem Forest.join {n : Nat} {P : Nat → Nat} (h : Forest n P) {a b : Nat} (ha : P a = a) (hb : P b = b) (hne : a ≠ b) (hbn : b < n) : Forest n (upd P a b) :=
  ⟨fun i hi => by unfold upd; split; exact hbn; exact h.lt i hi, fun i hi => by
    obtain ⟨k, r, hd⟩ := h.ends i hi
    have := Dp.join ha hb hne hd
    by_cases e : r = a
    · rw [if_pos e] at this; exact ⟨_, _, this⟩
    · rw [if_neg e] at this; exact ⟨_, _, this⟩⟩

theorem Forest.ident (n : Nat) : Forest n (fun i => i) := ⟨fun _ h => h, fun i _ => ⟨0, i, rfl, rfl⟩⟩

end Go.Proofs.Qxb6600947a
