/-
  The law FnTypeTree, walked: it answers true at every number, and all that it makes lies in new memory.
  Conditions: none.
-/
import Derived.Test.YtekckdoielghnaaDoorTyped
namespace Go.Proofs.YtekckdoielghnaaDoor
open Go Go.RowKit

/-- The k-th parent of a type. -/
def up (t : Int) : Nat → Int
  | 0 => t
  | k + 1 => par (up t k)

theorem up_rng {t : Int} (h : Rng t) : ∀ k, Rng (up t k)
  | 0 => h
  | k + 1 => par_rng (up_rng h k)

theorem up_cat {t : Int} : ∀ k, up t k ≠ 0 → cat (up t k) = cat t
  | 0, _ => rfl
  | k + 1, h => by
    by_cases h0 : up t k = 0
    · exact absurd (show par (up t k) = 0 by rw [h0]; decide) h
    · exact (cat_par h).trans (up_cat k h0)

theorem up_three (t : Int) : up t 3 = 0 := par3 t

set_option maxHeartbeats 400000 in
theorem tree_no (t : Int) (w : World) (ht : isT t = false) : Calls Tryd.prog 5 #[.int .i64 t] w fun e w' => e = .returned (.bool true) ∧ Below w.heap.size w w' := by
  go_enter Tryd.func5, Tryd.ntmps5
  go_wp2_with (go_at_call 13; refine (is_any _ _).mono ?_; rintro e w1 ⟨rfl, h1⟩)
  go_ret
  exact ⟨rfl, h1⟩

set_option maxHeartbeats 400000 in
theorem tree_low (t : Int) (w : World) (ht : isT t = true) (hlo : t < 1000) : Calls Tryd.prog 5 #[.int .i64 t] w fun e w' => e = .returned (.bool true) ∧ Below w.heap.size w w' := by
  go_enter Tryd.func5, Tryd.ntmps5
  go_wp2_with (go_at_call 13; refine (is_any _ _).mono ?_; rintro e w1 ⟨rfl, h1⟩)
  go_ret
  exact ⟨rfl, h1⟩

set_option maxHeartbeats 1000000 in
theorem tree_yes (t : Int) (w : World) (ht : isT t = true) (hlo : 1000 ≤ t) : Calls Tryd.prog 5 #[.int .i64 t] w fun e w' => e = .returned (.bool true) ∧ Below w.heap.size w w' := by
  have hr := isT_rng ht
  have q1 : (cat (cat t) == cat t) = true := by rw [cat_cat]; simp
  have q2 : (sub (sub t) == sub t) = true := by rw [sub_sub]; simp
  have q3 : (cat (sub t) == cat t) = true := by rw [cat_sub]; simp
  have q4 : (sub (cat t) == cat t) = true := by rw [sub_cat]; simp
  have rc := cat_rng hr
  have rs := sub_rng hr
  go_enter Tryd.func5, Tryd.ntmps5
  go_wp2_with fail
  refine (is_any t _).mono ?_
  rintro e w1 ⟨rfl, h1⟩
  go_wp2_with fail
  go_loop [3, 14] (fun x i => ∃ k : Nat, k ≤ 3 ∧ i = .int .i64 k ∧ x = .int .i64 (up t k)) (fun _ i => 3 - (intOf i).toNat)
  case atStart => exact ⟨0, by omega, rfl, rfl⟩
  case round =>
    obtain ⟨k, hk, rfl, rfl⟩ := hrel
    by_cases hlt : k < 3
    · have rk := up_rng hr k
      cases hz : up t k == 0 with
      | true =>
        go_wp2_with fail
        refine (TypeCategory_any t _ hr).mono ?_
        rintro e w' ⟨rfl, rfl⟩
        go_wp2_with fail
        refine (TypeSubCategory_any t _ hr).mono ?_
        rintro e w' ⟨rfl, rfl⟩
        go_wp2_with fail
        refine (TypeCategory_any (cat t) _ rc).mono ?_
        rintro e w' ⟨rfl, rfl⟩
        go_wp2_with fail
        refine (TypeSubCategory_any (sub t) _ rs).mono ?_
        rintro e w' ⟨rfl, rfl⟩
        go_wp2_with fail
        refine (TypeCategory_any (sub t) _ rs).mono ?_
        rintro e w' ⟨rfl, rfl⟩
        go_wp2_with fail
        refine (TypeSubCategory_any (cat t) _ rc).mono ?_
        rintro e w' ⟨rfl, rfl⟩
        go_wp2_with fail
        refine (typed_any _).mono ?_
        rintro e w5 ⟨rfl, h5⟩
        go_wp2_with fail
        go_ret
        exact ⟨rfl, h1.trans (h5.mono h1.size)⟩
      | false =>
        have hc : (cat t == cat (up t k)) = true := by rw [up_cat k (by simpa using hz)]; simp
        go_wp2_with fail
        refine (TypeIn_any t _ _ hr rk).mono ?_
        rintro e w' ⟨rfl, rfl⟩
        go_wp2_with fail
        refine (TypeParent_any _ _ rk).mono ?_
        rintro e w' ⟨rfl, rfl⟩
        go_wp2_with fail
        go_round
        case rel => exact ⟨k + 1, by omega, by go_num, rfl⟩
        case measure => simp [intOf]; omega
    · obtain rfl : k = 3 := by omega
      have hz : (up t 3 == 0) = true := by rw [up_three]; rfl
      go_wp2_with fail
      refine (TypeCategory_any t _ hr).mono ?_
      rintro e w' ⟨rfl, rfl⟩
      go_wp2_with fail
      refine (TypeSubCategory_any t _ hr).mono ?_
      rintro e w' ⟨rfl, rfl⟩
      go_wp2_with fail
      refine (TypeCategory_any (cat t) _ rc).mono ?_
      rintro e w' ⟨rfl, rfl⟩
      go_wp2_with fail
      refine (TypeSubCategory_any (sub t) _ rs).mono ?_
      rintro e w' ⟨rfl, rfl⟩
      go_wp2_with fail
      refine (TypeCategory_any (sub t) _ rs).mono ?_
      rintro e w' ⟨rfl, rfl⟩
      go_wp2_with fail
      refine (TypeSubCategory_any (cat t) _ rc).mono ?_
      rintro e w' ⟨rfl, rfl⟩
      go_wp2_with fail
      refine (typed_any _).mono ?_
      rintro e w5 ⟨rfl, h5⟩
      go_wp2_with fail
      go_ret
      exact ⟨rfl, h1.trans (h5.mono h1.size)⟩

theorem tree_law (t : Int) (w : World) : Calls Tryd.prog 5 #[.int .i64 t] w fun e w' => e = .returned (.bool true) ∧ Below w.heap.size w w' := by
  cases ht : isT t with
  | false => exact tree_no t w ht
  | true =>
    by_cases hlo : t < 1000
    · exact tree_low t w ht hlo
    · exact tree_yes t w ht (by omega)

end Go.Proofs.YtekckdoielghnaaDoor
