/-
  What the small functions on types' numbers hand back: category, hundred and parent of the reference; Category, SubCategory, Parent, InCategory and InSubCategory of the package, and the thin package's own over them.
  Conditions: the number is 0 or below (down to -14), or from 1000 to 8003.
-/
import Derived.Test.YtekckdoielghnaaDoorProg
import Derived.Test.YtekckdoielghnaaDoorPlain
import Derived.WalkKit
import Derived.WalkSpells
import Derived.WalkLawsBesides
namespace Go.Proofs.YtekckdoielghnaaDoor
open Go Go.RowKit

/-- A fact behind a name: no rule of the walk's. -/
theorem hidden {p : Prop} (h : p) : Hid p := h

theorem ret_int {k : IntKind} {a b : Int} (h : a = b) : Ending.returned (.int k a) = .returned (.int k b) := by rw [h]
theorem ret_bool {a b : Bool} (h : a = b) : Ending.returned (.bool a) = .returned (.bool b) := by rw [h]

set_option maxHeartbeats 400000 in
theorem category_any (t : Int) (w : World) (h : Rng t) : Calls Tryd.prog 18 #[.int .i64 t] w fun e w' => e = .returned (.int .i64 (cat t)) ∧ w = w' := by
  obtain ⟨h1, h2, h3⟩ := h
  by_cases hlt : t < 1000
  · go_enter Tryd.func18, Tryd.ntmps18
    go_wp2
    go_ret
    exact ⟨ret_int (by unfold cat; rw [if_pos hlt]), rfl⟩
  · have h0 : 0 ≤ t := by omega
    go_enter Tryd.func18, Tryd.ntmps18
    go_wp2
    go_ret
    exact ⟨ret_int (by unfold cat; rw [if_neg (by omega)]), rfl⟩

set_option maxHeartbeats 400000 in
theorem hundred_any (t : Int) (w : World) (h : Rng t) : Calls Tryd.prog 19 #[.int .i64 t] w fun e w' => e = .returned (.int .i64 (sub t)) ∧ w = w' := by
  obtain ⟨h1, h2, h3⟩ := h
  by_cases hlt : t < 1000
  · go_enter Tryd.func19, Tryd.ntmps19
    go_wp2
    go_ret
    exact ⟨ret_int (by unfold sub; rw [if_pos hlt]), rfl⟩
  · have h0 : 0 ≤ t := by omega
    go_enter Tryd.func19, Tryd.ntmps19
    go_wp2
    go_ret
    exact ⟨ret_int (by unfold sub; rw [if_neg (by omega)]), rfl⟩

theorem quo_low {t m : Int} (h1 : -14 ≤ t) (h2 : t ≤ 0) (hm : 100 ≤ m) : t.tdiv m = 0 := by
  obtain ⟨n, rfl⟩ : ∃ n : Nat, t = -(n : Int) := ⟨(-t).toNat, by omega⟩
  rw [Int.neg_tdiv, Int.tdiv_eq_zero_of_lt (by omega) (by omega)]
  rfl

set_option maxHeartbeats 400000 in
theorem Category_any (t : Int) (w : World) (h : Rng t) : Calls Tryd.prog 21 #[.int .i64 t] w fun e w' => e = .returned (.int .i64 (cat t)) ∧ w = w' := by
  obtain ⟨h1, h2, h3⟩ := h
  by_cases hlt : t < 1000
  · have hq : t.tdiv 1000 = 0 := quo_low h1 (by omega) (by omega)
    go_enter Tryd.func21, Tryd.ntmps21
    go_wp2
    go_ret
    exact ⟨ret_int (by unfold cat; rw [if_pos hlt]), rfl⟩
  · have h0 : 0 ≤ t := by omega
    go_enter Tryd.func21, Tryd.ntmps21
    go_wp2
    go_ret
    exact ⟨ret_int (by unfold cat; rw [if_neg (by omega)]; omega), rfl⟩

set_option maxHeartbeats 400000 in
theorem SubCategory_any (t : Int) (w : World) (h : Rng t) : Calls Tryd.prog 22 #[.int .i64 t] w fun e w' => e = .returned (.int .i64 (sub t)) ∧ w = w' := by
  obtain ⟨h1, h2, h3⟩ := h
  by_cases hlt : t < 1000
  · have hq : t.tdiv 100 = 0 := quo_low h1 (by omega) (by omega)
    go_enter Tryd.func22, Tryd.ntmps22
    go_wp2
    go_ret
    exact ⟨ret_int (by unfold sub; rw [if_pos hlt]), rfl⟩
  · have h0 : 0 ≤ t := by omega
    go_enter Tryd.func22, Tryd.ntmps22
    go_wp2
    go_ret
    exact ⟨ret_int (by unfold sub; rw [if_neg (by omega)]; omega), rfl⟩

theorem rem_low {t m : Int} (h1 : -14 ≤ t) (h2 : t ≤ 0) (hm : 100 ≤ m) : t.tmod m = t := by
  obtain ⟨n, rfl⟩ : ∃ n : Nat, t = -(n : Int) := ⟨(-t).toNat, by omega⟩
  rw [Int.neg_tmod, Int.tmod_eq_of_lt (by omega) (by omega)]

theorem par_low {t : Int} (h : t < 1000) : par t = 0 := by
  have h1 : sub t = 0 := by unfold sub; rw [if_pos h]
  have h2 : cat t = 0 := by unfold cat; rw [if_pos h]
  unfold par
  rw [h1, h2]
  split <;> rfl

theorem par_sub {t : Int} (h : 1000 ≤ t) (hr : t % 100 ≠ 0) : par t = t / 100 * 100 := by
  have h1 : sub t = t - t % 100 := by unfold sub; rw [if_neg (by omega)]
  unfold par
  rw [h1, if_pos (by rw [bne_iff_ne]; omega)]
  omega

theorem par_cat {t : Int} (h : 1000 ≤ t) (hr : t % 100 = 0) (hs : t % 1000 ≠ 0) : par t = t / 1000 * 1000 := by
  have h1 : sub t = t := by unfold sub; rw [if_neg (by omega)]; omega
  have h2 : cat t = t - t % 1000 := by unfold cat; rw [if_neg (by omega)]
  unfold par
  rw [h1, h2, if_neg (by simp), if_pos (by rw [bne_iff_ne]; omega)]
  omega

theorem par_none {t : Int} (h : 1000 ≤ t) (hs : t % 1000 = 0) : par t = 0 := by
  have h1 : sub t = t := by unfold sub; rw [if_neg (by omega)]; omega
  have h2 : cat t = t := by unfold cat; rw [if_neg (by omega)]; omega
  unfold par
  rw [h1, h2, if_neg (by simp), if_neg (by simp)]

set_option maxHeartbeats 400000 in
theorem Parent_any (t : Int) (w : World) (h : Rng t) : Calls Tryd.prog 23 #[.int .i64 t] w fun e w' => e = .returned (.int .i64 (par t)) ∧ w = w' := by
  obtain ⟨h1, h2, h3⟩ := h
  by_cases hlt : t < 1000
  · have hp := par_low hlt
    have hq : t.tdiv 100 = 0 := quo_low h1 (by omega) (by omega)
    have hq' : t.tdiv 1000 = 0 := quo_low h1 (by omega) (by omega)
    have hr : t.tmod 100 = t := rem_low h1 (by omega) (by omega)
    have hr' : t.tmod 1000 = t := rem_low h1 (by omega) (by omega)
    by_cases h0 : t = 0
    · subst h0
      clear hq hq' hr hr'
      go_enter Tryd.func23, Tryd.ntmps23
      go_wp2
      go_ret
      exact ⟨ret_int hp.symm, rfl⟩
    · have hb : (t != 0) = true := by rw [bne_iff_ne]; exact h0
      have hP := hidden hp
      clear hp h0
      go_enter Tryd.func23, Tryd.ntmps23
      go_wp2
      go_ret
      exact ⟨ret_int hP.out.symm, rfl⟩
  · have h0 : 0 ≤ t := by omega
    have h10 : 1000 ≤ t := by omega
    by_cases hr : t % 100 = 0
    · have hb : (t % 100 != 0) = false := by rw [hr]; rfl
      by_cases hs : t % 1000 = 0
      · have hb' : (t % 1000 != 0) = false := by rw [hs]; rfl
        have hP := hidden (par_none h10 hs)
        clear hr hs
        go_enter Tryd.func23, Tryd.ntmps23
        go_wp2
        go_ret
        exact ⟨ret_int hP.out.symm, rfl⟩
      · have hb' : (t % 1000 != 0) = true := by rw [bne_iff_ne]; exact hs
        have hP := hidden (par_cat h10 hr hs)
        clear hr hs
        go_enter Tryd.func23, Tryd.ntmps23
        go_wp2
        go_ret
        exact ⟨ret_int hP.out.symm, rfl⟩
    · have hb : (t % 100 != 0) = true := by rw [bne_iff_ne]; exact hr
      have hP := hidden (par_sub h10 hr)
      clear hr
      go_enter Tryd.func23, Tryd.ntmps23
      go_wp2
      go_ret
      exact ⟨ret_int hP.out.symm, rfl⟩

theorem cat_quo {t : Int} (h : 1000 ≤ t) : cat t = t / 1000 * 1000 := by unfold cat; rw [if_neg (by omega)]; omega
theorem cat_low {t : Int} (h : t < 1000) : cat t = 0 := by unfold cat; rw [if_pos h]
theorem sub_quo {t : Int} (h : 1000 ≤ t) : sub t = t / 100 * 100 := by unfold sub; rw [if_neg (by omega)]; omega
theorem sub_low {t : Int} (h : t < 1000) : sub t = 0 := by unfold sub; rw [if_pos h]

set_option maxHeartbeats 400000 in
theorem InCategory_any (a b : Int) (w : World) (ha : Rng a) (hb : Rng b) : Calls Tryd.prog 26 #[.int .i64 a, .int .i64 b] w fun e w' => e = .returned (.bool (cat a == cat b)) ∧ w = w' := by
  obtain ⟨h1, h2, h3⟩ := ha
  obtain ⟨k1, k2, k3⟩ := hb
  by_cases hlt : a < 1000 <;> by_cases klt : b < 1000
  · have hq : a.tdiv 1000 = 0 := quo_low h1 (by omega) (by omega)
    have kq : b.tdiv 1000 = 0 := quo_low k1 (by omega) (by omega)
    go_enter Tryd.func26, Tryd.ntmps26
    go_wp2
    go_ret
    exact ⟨ret_bool (by rw [cat_low hlt, cat_low klt]; rfl), rfl⟩
  · have hq : a.tdiv 1000 = 0 := quo_low h1 (by omega) (by omega)
    have k0 : 0 ≤ b := by omega
    go_enter Tryd.func26, Tryd.ntmps26
    go_wp2
    go_ret
    exact ⟨ret_bool (by rw [cat_low hlt, cat_quo (by omega), Bool.eq_iff_iff]; simp; omega), rfl⟩
  · have kq : b.tdiv 1000 = 0 := quo_low k1 (by omega) (by omega)
    have h0 : 0 ≤ a := by omega
    go_enter Tryd.func26, Tryd.ntmps26
    go_wp2
    go_ret
    exact ⟨ret_bool (by rw [cat_low klt, cat_quo (by omega), Bool.eq_iff_iff]; simp; omega), rfl⟩
  · have h0 : 0 ≤ a := by omega
    have k0 : 0 ≤ b := by omega
    go_enter Tryd.func26, Tryd.ntmps26
    go_wp2
    go_ret
    exact ⟨ret_bool (by rw [cat_quo (by omega), cat_quo (by omega), Bool.eq_iff_iff]; simp; omega), rfl⟩

set_option maxHeartbeats 400000 in
theorem InSubCategory_any (a b : Int) (w : World) (ha : Rng a) (hb : Rng b) : Calls Tryd.prog 27 #[.int .i64 a, .int .i64 b] w fun e w' => e = .returned (.bool (sub a == sub b)) ∧ w = w' := by
  obtain ⟨h1, h2, h3⟩ := ha
  obtain ⟨k1, k2, k3⟩ := hb
  by_cases hlt : a < 1000 <;> by_cases klt : b < 1000
  · have hq : a.tdiv 100 = 0 := quo_low h1 (by omega) (by omega)
    have kq : b.tdiv 100 = 0 := quo_low k1 (by omega) (by omega)
    go_enter Tryd.func27, Tryd.ntmps27
    go_wp2
    go_ret
    exact ⟨ret_bool (by rw [sub_low hlt, sub_low klt]; rfl), rfl⟩
  · have hq : a.tdiv 100 = 0 := quo_low h1 (by omega) (by omega)
    have k0 : 0 ≤ b := by omega
    go_enter Tryd.func27, Tryd.ntmps27
    go_wp2
    go_ret
    exact ⟨ret_bool (by rw [sub_low hlt, sub_quo (by omega), Bool.eq_iff_iff]; simp; omega), rfl⟩
  · have kq : b.tdiv 100 = 0 := quo_low k1 (by omega) (by omega)
    have h0 : 0 ≤ a := by omega
    go_enter Tryd.func27, Tryd.ntmps27
    go_wp2
    go_ret
    exact ⟨ret_bool (by rw [sub_low klt, sub_quo (by omega), Bool.eq_iff_iff]; simp; omega), rfl⟩
  · have h0 : 0 ≤ a := by omega
    have k0 : 0 ≤ b := by omega
    go_enter Tryd.func27, Tryd.ntmps27
    go_wp2
    go_ret
    exact ⟨ret_bool (by rw [sub_quo (by omega), sub_quo (by omega), Bool.eq_iff_iff]; simp; omega), rfl⟩

set_option maxHeartbeats 400000 in
theorem TypeCategory_any (t : Int) (w : World) (h : Rng t) : Calls Tryd.prog 9 #[.int .i64 t] w fun e w' => e = .returned (.int .i64 (cat t)) ∧ w = w' := by
  go_enter Tryd.func9, Tryd.ntmps9
  go_wp2_with (go_at_call 21; refine (Category_any _ _ h).mono ?_; rintro e w' ⟨rfl, rfl⟩)
  go_ret
  exact ⟨rfl, rfl⟩

set_option maxHeartbeats 400000 in
theorem TypeSubCategory_any (t : Int) (w : World) (h : Rng t) : Calls Tryd.prog 10 #[.int .i64 t] w fun e w' => e = .returned (.int .i64 (sub t)) ∧ w = w' := by
  go_enter Tryd.func10, Tryd.ntmps10
  go_wp2_with (go_at_call 22; refine (SubCategory_any _ _ h).mono ?_; rintro e w' ⟨rfl, rfl⟩)
  go_ret
  exact ⟨rfl, rfl⟩

set_option maxHeartbeats 400000 in
theorem TypeParent_any (t : Int) (w : World) (h : Rng t) : Calls Tryd.prog 11 #[.int .i64 t] w fun e w' => e = .returned (.int .i64 (par t)) ∧ w = w' := by
  go_enter Tryd.func11, Tryd.ntmps11
  go_wp2_with (go_at_call 23; refine (Parent_any _ _ h).mono ?_; rintro e w' ⟨rfl, rfl⟩)
  go_ret
  exact ⟨rfl, rfl⟩

set_option maxHeartbeats 400000 in
theorem TypeIn_any (a b : Int) (w : World) (ha : Rng a) (hb : Rng b) : Calls Tryd.prog 16 #[.int .i64 a, .int .i64 b] w fun e w' => e = .returned (.bool (cat a == cat b)) ∧ w = w' := by
  go_enter Tryd.func16, Tryd.ntmps16
  go_wp2_with (go_at_call 26; refine (InCategory_any _ _ _ ha hb).mono ?_; rintro e w' ⟨rfl, rfl⟩)
  go_ret
  exact ⟨rfl, rfl⟩

set_option maxHeartbeats 400000 in
theorem TypeInSub_any (a b : Int) (w : World) (ha : Rng a) (hb : Rng b) : Calls Tryd.prog 17 #[.int .i64 a, .int .i64 b] w fun e w' => e = .returned (.bool (sub a == sub b)) ∧ w = w' := by
  go_enter Tryd.func17, Tryd.ntmps17
  go_wp2_with (go_at_call 27; refine (InSubCategory_any _ _ _ ha hb).mono ?_; rintro e w' ⟨rfl, rfl⟩)
  go_ret
  exact ⟨rfl, rfl⟩

set_option maxHeartbeats 400000 in
theorem parent_any (t : Int) (w : World) (h : Rng t) : Calls Tryd.prog 20 #[.int .i64 t] w fun e w' => e = .returned (.int .i64 (par t)) ∧ w = w' := by
  cases hs : sub t != t with
  | true =>
    have hp : par t = sub t := by unfold par; rw [if_pos hs]
    have hP := hidden hp
    clear hp
    go_enter Tryd.func20, Tryd.ntmps20
    go_wp2_with (go_at_call 19; refine (hundred_any _ _ h).mono ?_; rintro e w' ⟨rfl, rfl⟩)
    go_ret
    exact ⟨ret_int hP.out.symm, rfl⟩
  | false =>
    cases hc : cat t != t with
    | true =>
      have hp : par t = cat t := by unfold par; rw [if_neg (by rw [hs]; decide), if_pos hc]
      have hP := hidden hp
      clear hp
      go_enter Tryd.func20, Tryd.ntmps20
      go_wp2_with (first | (go_at_call 19; refine (hundred_any _ _ h).mono ?_; rintro e w' ⟨rfl, rfl⟩) | (go_at_call 18; refine (category_any _ _ h).mono ?_; rintro e w' ⟨rfl, rfl⟩))
      go_ret
      exact ⟨ret_int hP.out.symm, rfl⟩
    | false =>
      have hp : par t = 0 := by unfold par; rw [if_neg (by rw [hs]; decide), if_neg (by rw [hc]; decide)]
      have hP := hidden hp
      clear hp
      go_enter Tryd.func20, Tryd.ntmps20
      go_wp2_with (first | (go_at_call 19; refine (hundred_any _ _ h).mono ?_; rintro e w' ⟨rfl, rfl⟩) | (go_at_call 18; refine (category_any _ _ h).mono ?_; rintro e w' ⟨rfl, rfl⟩))
      go_ret
      exact ⟨ret_int hP.out.symm, rfl⟩

end Go.Proofs.YtekckdoielghnaaDoor
