/-
  The law FnTypeKinds, walked: it answers true at every number, and all that it makes lies in new memory.
  Conditions: none.
-/
import Derived.Test.YtekckdoielghnaaDoorTyped
namespace Go.Proofs.YtekckdoielghnaaDoor
open Go Go.RowKit

set_option maxHeartbeats 400000 in
theorem kinds_law (t : Int) (w : World) : Calls Tryd.prog 3 #[.int .i64 t] w fun e w' => e = .returned (.bool true) ∧ Below w.heap.size w w' := by
  cases ht : isT t with
  | true =>
    have hr := isT_rng ht
    go_enter Tryd.func3, Tryd.ntmps3
    go_wp2_with (first
      | (go_at_call 6; refine (sCat_yes _ _ ht).mono ?_; rintro e w1 ⟨rfl, h1⟩)
      | (go_at_call 7; refine (sSub_yes _ _ ht).mono ?_; rintro e w2 ⟨rfl, h2⟩)
      | (go_at_call 8; refine (sPar_yes _ _ ht).mono ?_; rintro e w3 ⟨rfl, h3⟩)
      | (go_at_call 9; refine (TypeCategory_any _ _ hr).mono ?_; rintro e w' ⟨rfl, rfl⟩)
      | (go_at_call 10; refine (TypeSubCategory_any _ _ hr).mono ?_; rintro e w' ⟨rfl, rfl⟩)
      | (go_at_call 11; refine (TypeParent_any _ _ hr).mono ?_; rintro e w' ⟨rfl, rfl⟩)
      | (go_at_call 12; refine (typed_any _).mono ?_; rintro e w4 ⟨rfl, h4⟩))
    go_ret
    have k1 := h1.size
    have k2 := h2.size
    have k3 := h3.size
    exact ⟨rfl, ((h1.trans (h2.mono k1)).trans (h3.mono (Nat.le_trans k1 k2))).trans (h4.mono (Nat.le_trans (Nat.le_trans k1 k2) k3))⟩
  | false =>
    go_enter Tryd.func3, Tryd.ntmps3
    go_wp2_with (first
      | (go_at_call 6; refine (sCat_no _ _ ht).mono ?_; rintro e w1 ⟨rfl, h1⟩)
      | (go_at_call 7; refine (sSub_no _ _ ht).mono ?_; rintro e w2 ⟨rfl, h2⟩)
      | (go_at_call 8; refine (sPar_no _ _ ht).mono ?_; rintro e w3 ⟨rfl, h3⟩)
      | (go_at_call 12; refine (typed_any _).mono ?_; rintro e w4 ⟨rfl, h4⟩))
    go_ret
    have k1 := h1.size
    have k2 := h2.size
    have k3 := h3.size
    exact ⟨rfl, ((h1.trans (h2.mono k1)).trans (h3.mono (Nat.le_trans k1 k2))).trans (h4.mono (Nat.le_trans (Nat.le_trans k1 k2) k3))⟩

end Go.Proofs.YtekckdoielghnaaDoor
