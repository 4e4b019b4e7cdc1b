/-
  The reference's TypeIs tells of each number whether it is that of a type of the table; what it makes lies in new memory.
  Conditions: none.
-/
import Derived.Test.YtekckdoielghnaaDoorFns
import Derived.Test.YtekckdoielghnaaDoorLits
import Derived.KernelRfl
namespace Go.Proofs.YtekckdoielghnaaDoor
open Go Go.RowKit

/-- The cells of the table, as the call lays them. -/
noncomputable def kindCells : Array Value := (kindRows.flatMap fun r => [Value.int .i64 r.1, Value.string ⟨r.2.toArray⟩]).toArray
theorem kinds_lit : sliceLit Tryd.prog Tryd.f25 102 = some (kindCells, 36, 102) := by kernel_rfl

theorem kinds_any (w : World) : Calls Tryd.prog 25 #[] w fun r w' => r = .returned (.slice (some ⟨w.heap.size, 0, none⟩) 102 102) ∧ w' = w.alloc (.cells kindCells 36) :=
  calls_sliceLit Tryd.func25 kinds_lit

def num (k : Nat) : Int := kindNums.getD k 0
def nam (k : Nat) : ByteArray := ⟨((kindRows.map (·.2)).getD k []).toArray⟩

theorem pair_cells (l : List (Int × List UInt8)) : ∀ k, k < l.length →
    (l.flatMap fun r => [Value.int .i64 r.1, Value.string ⟨r.2.toArray⟩])[2 * k]? = some (.int .i64 ((l.map (·.1)).getD k 0)) ∧
    (l.flatMap fun r => [Value.int .i64 r.1, Value.string ⟨r.2.toArray⟩])[2 * k + 1]? = some (.string ⟨((l.map (·.2)).getD k []).toArray⟩) := by
  induction l with
  | nil => intro k hk; cases hk
  | cons r l ih =>
    intro k hk
    cases k with
    | zero => exact ⟨rfl, rfl⟩
    | succ k =>
      have := ih k (by simpa using hk)
      exact this

theorem kind_cells (k : Nat) (hk : k < 102) : kindCells[2 * k]? = some (.int .i64 (num k)) ∧ kindCells[2 * k + 1]? = some (.string (nam k)) := by
  have := pair_cells kindRows k (by have : kindRows.length = 102 := by decide
                                    omega)
  unfold kindCells num nam kindNums
  simpa using this

theorem cell_new (w : World) (C : Array Value) (T : TypeId) (j : Nat) (v : Value) (h : C[j]? = some v) : (w.alloc (.cells C T)).cell? ⟨w.heap.size, j, none⟩ = some v := by
  simp only [World.cell?, (MapKept.heap_alloc w (.cells C T)).1]
  simp [h]

/-- The numbers before place k are not t. -/
def NotYet (t : Int) (k : Nat) : Prop := ∀ j, j < k → num j ≠ t

theorem NotYet.all {t : Int} (h : NotYet t 102) : isT t = false := by
  unfold isT
  rw [List.contains_eq_mem, decide_eq_false_iff_not]
  intro hm
  obtain ⟨j, hj, he⟩ := List.getElem_of_mem hm
  have hl : kindNums.length = 102 := by decide
  refine h j (by omega) ?_
  unfold num
  rw [List.getD_eq_getElem?_getD, List.getElem?_eq_getElem hj]
  exact he

theorem isT_num {t : Int} {k : Nat} (hk : k < 102) (h : num k = t) : isT t = true := by
  unfold isT
  rw [List.contains_eq_mem, decide_eq_true_iff]
  have hl : kindNums.length = 102 := by decide
  unfold num at h
  rw [List.getD_eq_getElem?_getD, List.getElem?_eq_getElem (by omega)] at h
  rw [← h]
  exact List.getElem_mem _

set_option maxHeartbeats 400000 in
theorem is_any (t : Int) (w : World) : Calls Tryd.prog 13 #[.int .i64 t] w fun e w' => e = .returned (.bool (isT t)) ∧ Below w.heap.size w w' := by
  go_enter Tryd.func13, Tryd.ntmps13
  go_wp2_with (go_at_call 25; refine (kinds_any _).mono ?_; rintro e w' ⟨rfl, rfl⟩)
  go_loopw [4, 7] (fun _ i wr => ∃ k : Nat, k ≤ 102 ∧ i = .int .i64 k ∧ NotYet t k ∧ Below (w.heap.size + 1) (w.alloc (.cells kindCells 36)) wr) (fun _ i _ => 102 - (intOf i).toNat)
  case atStart => exact ⟨0, by omega, rfl, fun j hj => by omega, by simpa using Below.refl _ _⟩
  case round =>
    obtain ⟨k, hk, rfl, hno, hb⟩ := hrel
    have hbw : Below w.heap.size w wr := ((Below.refl _ _).alloc (Nat.le_refl _) _).trans (hb.mono (Nat.le_succ _))
    by_cases hlt : k < 102
    · have hc := kind_cells k hlt
      have h0 : wr.cell? ⟨w.heap.size, k * 2, none⟩ = some (.int .i64 (num k)) := by
        rw [hb.cell (p := ⟨w.heap.size, k * 2, none⟩) (Nat.lt_succ_self _), Nat.mul_comm]
        exact cell_new _ _ _ _ _ hc.1
      have h1 : wr.cell? ⟨w.heap.size, k * 2 + 1, none⟩ = some (.string (nam k)) := by
        rw [hb.cell (p := ⟨w.heap.size, k * 2 + 1, none⟩) (Nat.lt_succ_self _), Nat.mul_comm]
        exact cell_new _ _ _ _ _ hc.2
      clear hc
      have hsz : w.heap.size < wr.heap.size := by have := hb.size; simp at this; omega
      cases he : num k == t with
      | true =>
        have hT := hidden (isT_num hlt (by simpa using he))
        go_wp2
        go_ret
        exact ⟨ret_bool hT.out.symm, hbw.alloc (by omega) _⟩
      | false =>
        have hN : Hid (NotYet t (k + 1)) := hidden (fun j hj => by
          rcases Nat.lt_succ_iff_lt_or_eq.1 hj with h | rfl
          · exact hno j h
          · simpa using he)
        go_wp2
        go_roundw
        case rel => exact ⟨k + 1, by omega, by go_num, hN.out, hb.alloc (by omega) _⟩
        case measure => simp [intOf]; omega
    · obtain rfl : k = 102 := by omega
      have hT := hidden hno.all
      go_wp2
      go_ret
      exact ⟨ret_bool hT.out.symm, hbw⟩

end Go.Proofs.YtekckdoielghnaaDoor
