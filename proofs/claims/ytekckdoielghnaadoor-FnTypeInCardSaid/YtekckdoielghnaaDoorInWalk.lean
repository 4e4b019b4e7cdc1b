/-
  The law FnTypeIn, walked: it answers true at every two numbers, and all that it makes lies in new memory.
  Conditions: none.
-/
import Derived.Test.YtekckdoielghnaaDoorTyped
namespace Go.Proofs.YtekckdoielghnaaDoor
open Go Go.RowKit

set_option maxHeartbeats 400000 in
theorem in_not_a (a b : Int) (w : World) (ha : isT a = false) : Calls Tryd.prog 4 #[.int .i64 a, .int .i64 b] w fun e w' => e = .returned (.bool true) ∧ Below w.heap.size w w' := by
  go_enter Tryd.func4, Tryd.ntmps4
  go_wp2_with (go_at_call 13; refine (is_any _ _).mono ?_; rintro e w1 ⟨rfl, h1⟩)
  go_ret
  exact ⟨rfl, h1⟩

set_option maxHeartbeats 400000 in
theorem in_not_b (a b : Int) (w : World) (ha : isT a = true) (hb : isT b = false) : Calls Tryd.prog 4 #[.int .i64 a, .int .i64 b] w fun e w' => e = .returned (.bool true) ∧ Below w.heap.size w w' := by
  go_enter Tryd.func4, Tryd.ntmps4
  go_wp2_with fail
  refine (is_any a _).mono ?_
  rintro e w1 ⟨rfl, h1⟩
  go_wp2_with fail
  refine (is_any b _).mono ?_
  rintro e w2 ⟨rfl, h2⟩
  go_wp2_with fail
  go_ret
  exact ⟨rfl, h1.trans (h2.mono h1.size)⟩

/-- Five calls that make memory, one behind the other. -/
theorem chain5 {w w1 w2 w3 w4 w5 : World} (h1 : Below w.heap.size w w1) (h2 : Below w1.heap.size w1 w2) (h3 : Below w2.heap.size w2 w3) (h4 : Below w3.heap.size w3 w4) (h5 : Below w4.heap.size w4 w5) : Below w.heap.size w w5 := by
  have k1 := h1.size
  have k2 := h2.size
  have k3 := h3.size
  have k4 := h4.size
  exact (((h1.trans (h2.mono k1)).trans (h3.mono (by omega))).trans (h4.mono (by omega))).trans (h5.mono (by omega))

set_option maxHeartbeats 1000000 in
theorem in_both (a b : Int) (w : World) (ha : isT a = true) (hb : isT b = true) : Calls Tryd.prog 4 #[.int .i64 a, .int .i64 b] w fun e w' => e = .returned (.bool true) ∧ Below w.heap.size w w' := by
  have ra := isT_rng ha
  have rb := isT_rng hb
  have hcs : (cat b == cat a) = (cat a == cat b) := Bool.beq_comm
  have hss : (sub b == sub a) = (sub a == sub b) := Bool.beq_comm
  cases hc : cat a == cat b <;> cases hs : sub a == sub b <;> rw [hc] at hcs <;> rw [hs] at hss
  all_goals
    go_enter Tryd.func4, Tryd.ntmps4
    go_wp2_with fail
    refine (is_any a _).mono ?_
    rintro e w1 ⟨rfl, h1⟩
    go_wp2_with fail
    refine (is_any b _).mono ?_
    rintro e w2 ⟨rfl, h2⟩
    go_wp2_with fail
    refine (sIn_yes a b _ ha hb).mono ?_
    rintro e w3 ⟨rfl, h3⟩
    go_wp2_with fail
    refine (sInSub_yes a b _ ha hb).mono ?_
    rintro e w4 ⟨rfl, h4⟩
    go_wp2_with fail
    refine (TypeIn_any a b _ ra rb).mono ?_
    rintro e w' ⟨rfl, rfl⟩
    go_wp2_with fail
    refine (TypeInSub_any a b _ ra rb).mono ?_
    rintro e w' ⟨rfl, rfl⟩
    go_wp2_with fail
  · refine (TypeIn_any b a _ rb ra).mono ?_
    rintro e w' ⟨rfl, rfl⟩
    go_wp2_with fail
    refine (TypeInSub_any b a _ rb ra).mono ?_
    rintro e w' ⟨rfl, rfl⟩
    go_wp2_with fail
    refine (typed_any _).mono ?_
    rintro e w5 ⟨rfl, h5⟩
    go_wp2_with fail
    go_ret
    exact ⟨rfl, chain5 h1 h2 h3 h4 h5⟩
  · refine (TypeSubCategory_any a _ ra).mono ?_
    rintro e w' ⟨rfl, rfl⟩
    go_wp2_with fail
    refine (TypeSubCategory_any b _ rb).mono ?_
    rintro e w' ⟨rfl, rfl⟩
    go_wp2_with fail
    refine (TypeIn_any b a _ rb ra).mono ?_
    rintro e w' ⟨rfl, rfl⟩
    go_wp2_with fail
    refine (TypeInSub_any b a _ rb ra).mono ?_
    rintro e w' ⟨rfl, rfl⟩
    go_wp2_with fail
    refine (typed_any _).mono ?_
    rintro e w5 ⟨rfl, h5⟩
    go_wp2_with fail
    go_ret
    exact ⟨rfl, chain5 h1 h2 h3 h4 h5⟩
  · refine (TypeCategory_any a _ ra).mono ?_
    rintro e w' ⟨rfl, rfl⟩
    go_wp2_with fail
    refine (TypeCategory_any b _ rb).mono ?_
    rintro e w' ⟨rfl, rfl⟩
    go_wp2_with fail
    refine (TypeIn_any b a _ rb ra).mono ?_
    rintro e w' ⟨rfl, rfl⟩
    go_wp2_with fail
    refine (TypeInSub_any b a _ rb ra).mono ?_
    rintro e w' ⟨rfl, rfl⟩
    go_wp2_with fail
    refine (typed_any _).mono ?_
    rintro e w5 ⟨rfl, h5⟩
    go_wp2_with fail
    go_ret
    exact ⟨rfl, chain5 h1 h2 h3 h4 h5⟩
  · refine (TypeCategory_any a _ ra).mono ?_
    rintro e w' ⟨rfl, rfl⟩
    go_wp2_with fail
    refine (TypeCategory_any b _ rb).mono ?_
    rintro e w' ⟨rfl, rfl⟩
    go_wp2_with fail
    refine (TypeSubCategory_any a _ ra).mono ?_
    rintro e w' ⟨rfl, rfl⟩
    go_wp2_with fail
    refine (TypeSubCategory_any b _ rb).mono ?_
    rintro e w' ⟨rfl, rfl⟩
    go_wp2_with fail
    refine (TypeIn_any b a _ rb ra).mono ?_
    rintro e w' ⟨rfl, rfl⟩
    go_wp2_with fail
    refine (TypeInSub_any b a _ rb ra).mono ?_
    rintro e w' ⟨rfl, rfl⟩
    go_wp2_with fail
    refine (typed_any _).mono ?_
    rintro e w5 ⟨rfl, h5⟩
    go_wp2_with fail
    go_ret
    exact ⟨rfl, chain5 h1 h2 h3 h4 h5⟩

theorem in_law (a b : Int) (w : World) : Calls Tryd.prog 4 #[.int .i64 a, .int .i64 b] w fun e w' => e = .returned (.bool true) ∧ Below w.heap.size w w' := by
  cases ha : isT a with
  | false => exact in_not_a a b w ha
  | true =>
    cases hb : isT b with
    | false => exact in_not_b a b w ha hb
    | true => exact in_both a b w ha hb

end Go.Proofs.YtekckdoielghnaaDoor
