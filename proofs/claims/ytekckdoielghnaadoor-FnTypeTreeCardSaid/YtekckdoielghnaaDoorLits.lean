/-
  A function whose whole body is one great literal (a slice of structs; a map of strings) hands back just what the literal says.
  Conditions: the body passes the two readers below ('sliceLit', 'mapLit'), which the kernel runs over the loaded function.
-/
import Derived.Great.BuildSlice
import Derived.Maps.OwnSet
import Derived.Maps.AppendAt
import Derived.Maps.StringElems
import Derived.Laws.Strings2
import Derived.WalkKit
namespace Go.Proofs.YtekckdoielghnaaDoor
open Go Go.Maps Go.RowKit

section
variable {P : Program}

/-! ### 1. A slice literal of structs -/

/-- The first n operations, each of which builds a value of constants or sets a slot to one. -/
def runBuilds (P : Program) : Nat → List Oper → Act → Option (Act × List Oper)
  | 0, l, a => some (a, l)
  | _ + 1, [], _ => none
  | n + 1, o :: r, a =>
    match o.guard, o.op with
    | none, .build t parts =>
      match P.built t (parts.map fun (i, x) => (i, a.eval x)).toList with
      | some cells => runBuilds P n r (a.put o.dst (.agg cells))
      | none => none
    | none, .assign x => runBuilds P n r (a.put o.dst (a.eval x))
    | _, _ => none

theorem wpList_assign {ops : Array Oper} {Q : Exit → Act → World → Prop} {o : Oper} {rest : List Oper} {a : Act} {w : World} (hg : o.guard = none) (x : Operand) (ho : o.op = .assign x)
    (h : wpList P ops Q rest (a.put o.dst (a.eval x)) w) : wpList P ops Q (o :: rest) a w :=
  wpList_plain hg fun _ hK => by
    unfold Oper.wp execOp
    simp only [ho]
    exact hK _ _ h

theorem wpList_move {ops : Array Oper} {Q : Exit → Act → World → Prop} {o : Oper} {rest : List Oper} {a : Act} {w : World} (hg : o.guard = none) (x : Operand) (ho : o.op = .move x)
    (h : wpList P ops Q rest (a.put o.dst (a.eval x)) w) : wpList P ops Q (o :: rest) a w :=
  wpList_plain hg fun _ hK => by
    unfold Oper.wp execOp
    simp only [ho]
    exact hK _ _ h

theorem wpList_runBuilds {ops : Array Oper} {Q : Exit → Act → World → Prop} {w : World} {a' : Act} {l' : List Oper} : ∀ (n : Nat) (l : List Oper) (a : Act), runBuilds P n l a = some (a', l') →
    wpList P ops Q l' a' w → wpList P ops Q l a w
  | 0, l, a, h, hw => by
    simp only [runBuilds, Option.some.injEq, Prod.mk.injEq] at h
    obtain ⟨rfl, rfl⟩ := h
    exact hw
  | n + 1, [], a, h, _ => by simp [runBuilds] at h
  | n + 1, o :: r, a, h, hw => by
    unfold runBuilds at h
    split at h
    · rename_i hg ho
      split at h
      · rename_i cells hc
        exact wpList_buildTo hg _ _ ho o.dst rfl cells hc (wpList_runBuilds n r _ h hw)
      · cases h
    · rename_i hg ho
      exact wpList_assign hg _ ho (wpList_runBuilds n r _ h hw)
    · cases h

/-- THE READER: the cells, their type and the length of the slice that the function hands back. -/
def sliceLit (P : Program) (fn : Func) (n : Nat) : Option (Array Value × TypeId × Nat) :=
  match fn.body, fn.results.toList, fn.params.size with
  | some (.seq (.region _ ops0 false) (.seq (.region _ ops false) .ret)), [.tmp r], 0 =>
    match runBuilds P 1 ops0.toList { tmps := Array.replicate fn.ntmps undef, defers := [] } with
    | some (a0, []) =>
    (match runBuilds P n ops.toList a0 with
    | some (a, [o, o']) =>
      match o.guard, o'.guard, o.op, o.dst, o'.op, o'.dst with
      | none, none, .buildSlice t len parts, some d, .assign (.tmp d'), some r' =>
        match P.underlying t with
        | some (.slice e) =>
          match P.info? e with
          | some ie =>
            match ie.zero with
            | some z =>
              match Instr.fill (fun i => some (i * ie.size, ie.size)) ((Array.range (len * ie.size)).map (z.cells[· % z.cells.size]!)) (parts.map fun (i, x) => (i, a.eval x)).toList with
              | some cells => if len * ie.size ≤ 2 ^ 24 ∧ len * ie.size ≠ 0 ∧ d' = d ∧ r' = r ∧ d < a.tmps.size ∧ r < a.tmps.size ∧ a.defers.isEmpty = true then some (cells, e, len) else none
              | none => none
            | none => none
          | none => none
        | _ => none
      | _, _, _, _, _, _ => none
    | _ => none)
    | _ => none
  | _, _, _ => none

theorem put_getD {a : Act} {d : Tmp} (v : Value) (h : d < a.tmps.size) : (a.put (some d) v).tmps.getD d undef = v := by
  simp [Act.put, Array.getD_eq_getD_getElem?, h]

theorem calls_sliceLit {f : FuncId} {fn : Func} {n len : Nat} {cells : Array Value} {e : TypeId} {w : World} (hf : P.funcs[f]? = some fn) (h : sliceLit P fn n = some (cells, e, len)) :
    Calls P f #[] w fun r w' => r = .returned (.slice (some ⟨w.heap.size, 0, none⟩) len len) ∧ w' = w.alloc (.cells cells e) := by
  unfold sliceLit at h
  split at h
  case h_2 => cases h
  rename_i id0 ops0 id ops r hbody hres hpar
  split at h
  case h_2 => cases h
  rename_i a0 hrun0
  split at h
  case h_2 => cases h
  rename_i a o o' hrun
  split at h
  case h_2 => cases h
  rename_i t len' parts d d' r' hg hg' ho hd ho' hd'
  split at h
  case h_2 => cases h
  rename_i e' hu
  split at h
  case h_2 => cases h
  rename_i ie hie
  split at h
  case h_2 => cases h
  rename_i z hz
  split at h
  case h_2 => cases h
  rename_i cells' hfill
  split at h
  case isFalse => cases h
  rename_i hc
  obtain ⟨h1, h2, rfl, rfl, hd1, hr1, hde⟩ := hc
  simp only [Option.some.injEq, Prod.mk.injEq] at h
  obtain ⟨rfl, rfl, rfl⟩ := h
  have e0 : (#[] : Array Value) ++ Array.replicate (fn.ntmps - (#[] : Array Value).size) undef = Array.replicate fn.ntmps undef := by simp
  refine calls_of_wp hf hbody (wp_seq (wp_region_list ?_))
  rw [e0]
  refine wpList_runBuilds 1 _ _ hrun0 (wpList_nil ?_)
  simp only [Exit.then]
  refine wp_seq (wp_region_list ?_)
  refine wpList_runBuilds n _ _ hrun ?_
  refine wpList_buildSlice hg t _ _ parts ho _ ie z hu hie hz (by omega) h2 hfill ?_
  refine wpList_assign hg' (.tmp d') ho' (wpList_nil ?_)
  simp only [Exit.then]
  refine wp_ret ?_
  have hres' : fn.results = #[.tmp r'] := by
    apply Array.toList_inj.1
    simpa using hres
  refine bodyPost_ret (results_tmp hres' _ _ _) ?_ ?_
  · rw [hd, hd']
    simpa [Act.put] using hde
  · rw [hd, hd']
    have hr2 : r' < ((a.put (some d') (.slice (some ⟨w.heap.size, 0, none⟩) len' len')).tmps).size := by simpa [Act.put] using hr1
    rw [put_getD _ hr2]
    refine ⟨?_, rfl⟩
    congr 1
    exact put_getD _ hd1

end
end Go.Proofs.YtekckdoielghnaaDoor
