/-
  Seat b6600947a: the walks of (*pieces).join, newPieces, and the small wrappers.
-/
import Derived.Test.Qxb6600947aRoot
import Derived.WalkLawsBesides
namespace Go.Proofs.Qxb6600947a
open Go.RowKit

theorem Try.info3 : (Try.prog.info? 3).map (fun i => (i.zero, i.size, i.bytes)) = some (some (.int .i64 0), 1, 8) := by kernel_rfl

/-- What a join does to the parents and the count. -/
structure Joined (n : Nat) (P : Nat → Nat) (c : Int) (x y : Nat) (P' : Nat → Nat) (c' : Int) : Prop where
  forest : Forest n P'
  roots : ∃ ra rb, (∃ k, Dp P k x ra) ∧ (∃ k, Dp P k y rb) ∧ (∀ i, i < n → ∀ k r, Dp P k i r → ∃ k', Dp P' k' i (if r = ra then rb else r)) ∧
    ((ra = rb ∧ c' = c ∧ cnt P' n = cnt P n) ∨ (ra ≠ rb ∧ c' = c - 1 ∧ cnt P' n + 1 = cnt P n))

theorem joined_same {n : Nat} {P : Nat → Nat} {c : Int} {x y ka kb r kb' : Nat} (hF : Forest n P) (hx : x < n) (hy : y < n) (ha : Dp P ka x r) (hb : Dp P kb y r) (hb' : Dp (halve P ka x) kb' y r) :
    Joined n P c x y (halve (halve P ka x) kb' y) c := by
  have hS := (Same.halve (n := n) ha).trans (Same.halve (n := n) hb')
  refine ⟨(hF.halve ha hx).halve hb' hy, r, r, ⟨ka, ha⟩, ⟨kb, hb⟩, fun i hi k q hd => ?_, .inl ⟨rfl, rfl, ?_⟩⟩
  · obtain ⟨k', h⟩ := hS i hi k q hd
    refine ⟨k', ?_⟩
    by_cases e : q = r
    · rw [if_pos e]; exact e ▸ h
    · rw [if_neg e]; exact h
  · exact cnt_congr n (fun i hi => Same.root_iff hF hS hi)

theorem joined_two {n : Nat} {P : Nat → Nat} {c : Int} {x y ka kb ra rb kb' : Nat} (hF : Forest n P) (hx : x < n) (hy : y < n) (ha : Dp P ka x ra) (hb : Dp P kb y rb) (hb' : Dp (halve P ka x) kb' y rb) (hne : ra ≠ rb) :
    Joined n P c x y (upd (halve (halve P ka x) kb' y) ra rb) (c - 1) := by
  have hS := (Same.halve (n := n) ha).trans (Same.halve (n := n) hb')
  have hF2 := (hF.halve ha hx).halve hb' hy
  have hra : ra < n := Dp.lt hF.lt ha hx
  have hrb : rb < n := Dp.lt hF.lt hb hy
  have ea : halve (halve P ka x) kb' y ra = ra := (Same.root_iff hF hS hra).2 (Dp.root ha)
  have eb : halve (halve P ka x) kb' y rb = rb := (Same.root_iff hF hS hrb).2 (Dp.root hb)
  refine ⟨hF2.join ea eb hne hrb, ra, rb, ⟨ka, ha⟩, ⟨kb, hb⟩, fun i hi k q hd => ?_, .inr ⟨hne, rfl, ?_⟩⟩
  · obtain ⟨k', h⟩ := hS i hi k q hd
    have h2 := Dp.join ea eb hne h
    by_cases e : q = ra
    · rw [if_pos e] at h2 ⊢; exact ⟨_, h2⟩
    · rw [if_neg e] at h2 ⊢; exact ⟨_, h2⟩
  · have h1 := cnt_upd ea (fun e => hne e.symm) n
    rw [if_pos hra] at h1
    rw [h1]
    exact cnt_congr n (fun i hi => Same.root_iff hF hS hi)

set_option maxHeartbeats 1000000 in
theorem join_any (b g n : Nat) (P : Nat → Nat) (c : Int) (x y : Nat) (w : World) (hF : Forest n P) (hx : x < n) (hy : y < n) (hp : Pc b g n P c w) (hc0 : 0 ≤ c) (hc1 : c ≤ 65536) :
    Calls Try.prog 20 #[.pointer (some ⟨b, 0, none⟩), .int .i64 x, .int .i64 y] w fun e w' => e = .returned (.tuple #[]) ∧ ∃ P' c', Pc b g n P' c' w' ∧ Fr (fun k => k = g ∨ k = b) w w' ∧ Joined n P c x y P' c' := by
  obtain ⟨ka, ra, ha⟩ := hF.ends x hx
  obtain ⟨kb, rb, hb⟩ := hF.ends y hy
  obtain ⟨kb', _, hb'⟩ := halve_keeps ka ka (Nat.le_refl _) ha hb
  have hra : ra < n := Dp.lt hF.lt ha hx
  have H : Hid (Forest n P ∧ Dp P ka x ra ∧ Dp P kb y rb ∧ Dp (halve P ka x) kb' y rb ∧ Pc b g n P c w) := ⟨hF, ha, hb, hb', hp⟩
  clear hF ha hb hb' hp
  go_enter Try.func20, Try.ntmps20
  go_wp2_with fail
  refine (root_any b g n P c ka x ra _ H.out.1 hx H.out.2.1 H.out.2.2.2.2).mono ?_
  rintro e w1 ⟨rfl, h1, f1⟩
  have H1 : Hid (Pc b g n (halve P ka x) c w1 ∧ Fr (fun x => x = g) w w1) := ⟨h1, f1⟩
  clear h1 f1
  go_wp2_with fail
  refine (root_any b g n (halve P ka x) c kb' y rb _ (H.out.1.halve H.out.2.1 hx) hy H.out.2.2.2.1 H1.out.1).mono ?_
  rintro e w2 ⟨rfl, h2, f2⟩
  have H2 : Hid (Pc b g n (halve (halve P ka x) kb' y) c w2 ∧ Fr (fun k => k = g ∨ k = b) w w2) := ⟨h2, (H1.out.2.trans f2).mono (fun k h => .inl h)⟩
  clear h2 f2
  by_cases hne : ra = rb
  · have hne' : ((ra : Int) != (rb : Int)) = false := by simp; omega
    have HE : Hid (ra = rb) := hne
    clear hne
    go_wp2
    go_end0
    obtain ⟨h1, h2, h3, h4, _⟩ := H.out
    have e := HE.out
    subst e
    exact ⟨rfl, _, _, H2.out.1, H2.out.2, joined_same h1 hx hy h2 h3 h4⟩
  · have hne' : ((ra : Int) != (rb : Int)) = true := by simp; omega
    have c0 := H2.out.1.c0
    have c1 := H2.out.1.c1
    have cr := H2.out.1.at hra
    have fr := H2.out.1.fz ra
    have fb := H2.out.1.f1
    have hbg := H2.out.1.ne
    have HE : Hid (ra ≠ rb) := hne
    clear hne
    go_wp2
    go_end0
    obtain ⟨h1, h2, h3, h4, _⟩ := H.out
    exact ⟨rfl, _, _, (H2.out.1.set ra rb).count (c - 1), (H2.out.2.setCell (.inl rfl) _).setCell (.inr rfl) _, joined_two h1 hx hy h2 h3 h4 HE.out⟩

/-- ZZJoin. -/
theorem zzjoin_any (b g n : Nat) (P : Nat → Nat) (c : Int) (x y : Nat) (w : World) (hF : Forest n P) (hx : x < n) (hy : y < n) (hp : Pc b g n P c w) (hc0 : 0 ≤ c) (hc1 : c ≤ 65536) :
    Calls Try.prog 14 #[.pointer (some ⟨b, 0, none⟩), .int .i64 x, .int .i64 y] w fun e w' => e = .returned (.tuple #[]) ∧ ∃ P' c', Pc b g n P' c' w' ∧ Fr (fun k => k = g ∨ k = b) w w' ∧ Joined n P c x y P' c' := by
  have H : Hid (Forest n P ∧ Pc b g n P c w) := ⟨hF, hp⟩
  clear hF hp
  go_enter Try.func14, Try.ntmps14
  go_wp2_with fail
  refine (join_any b g n P c x y _ H.out.1 hx hy H.out.2 hc0 hc1).mono ?_
  rintro e w1 ⟨rfl, h1⟩
  have H1 : Hid (∃ P' c', Pc b g n P' c' w1 ∧ Fr (fun k => k = g ∨ k = b) w w1 ∧ Joined n P c x y P' c') := h1
  clear h1
  go_wp2
  go_end0
  exact ⟨rfl, H1⟩

/-- ZZCount, ZZLen, ZZParent. -/
theorem zzcount_any (b g n : Nat) (P : Nat → Nat) (c : Int) (w : World) (hp : Pc b g n P c w) :
    Calls Try.prog 10 #[.pointer (some ⟨b, 0, none⟩)] w fun e w' => e = .returned (.int .i64 c) ∧ w' = w := by
  have c1 := hp.c1
  clear hp
  go_enter Try.func10, Try.ntmps10
  go_wp2
  go_ret
  exact ⟨rfl, rfl⟩
theorem zzlen_any (b g n : Nat) (P : Nat → Nat) (c : Int) (w : World) (hp : Pc b g n P c w) :
    Calls Try.prog 21 #[.pointer (some ⟨b, 0, none⟩)] w fun e w' => e = .returned (.int .i64 n) ∧ w' = w := by
  have c0 := hp.c0
  clear hp
  go_enter Try.func21, Try.ntmps21
  go_wp2
  go_ret
  exact ⟨rfl, rfl⟩
theorem zzparent_any (b g n : Nat) (P : Nat → Nat) (c : Int) (i : Nat) (w : World) (hi : i < n) (hp : Pc b g n P c w) :
    Calls Try.prog 22 #[.pointer (some ⟨b, 0, none⟩), .int .i64 i] w fun e w' => e = .returned (.int .i64 (P i : Nat)) ∧ w' = w := by
  have c0 := hp.c0
  have ci := hp.at hi
  clear hp
  go_enter Try.func22, Try.ntmps22
  go_wp2
  go_ret
  exact ⟨rfl, rfl⟩
end Go.Proofs.Qxb6600947a
