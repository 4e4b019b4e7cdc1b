/-
  A function whose whole body is one map literal (constant keys, values cut out of one constant string), in whatever order its region is drawn, hands back a map that holds a given word at a given key.
  Conditions: the body passes the reader below ('mapLit'), which the kernel runs over the loaded function.
-/
import Derived.Test.YtekckdoielghnaaDoorLits
import Derived.Orders
namespace Go.Proofs.YtekckdoielghnaaDoor
open Go Go.Maps Go.RowKit

section
variable {P : Program} {ops : Array Oper} {Q : Exit → Act → World → Prop}

/-! ### 1. A region in any order, by an invariant over what has been listed -/

theorem count_set_false {l : Array Bool} {i : Nat} (h : l.getD i true = false) : (l.setIfInBounds i true).toList.count false + 1 = l.toList.count false := by
  have hi : i < l.size := by
    rcases Nat.lt_or_ge i l.size with h' | h'
    · exact h'
    · simp [Array.getElem?_eq_none h'] at h
  have hv : l[i] = false := by simpa [hi] using h
  have hpos : 0 < l.toList.count false := List.count_pos_iff.2 (by rw [← hv]; exact Array.getElem_mem_toList hi)
  rw [Array.toList_setIfInBounds, List.count_set (by simpa using hi)]
  rw [Array.getElem_toList, hv]
  simp only [beq_self_eq_true, if_true, show (true == false) = false from rfl, Bool.false_eq_true, if_false]
  omega

theorem all_listed {md : Region.Mode} {listed : Array Bool} (hsz : listed.size = ops.size) (hac : ∀ i o, ops[i]? = some o → ∀ e ∈ o.after, Region.binds md e = true → e.on < i)
    (hr : Region.ready md ops listed = []) : ∀ i, i < ops.size → listed.getD i false = true := by
  intro i
  induction i using Nat.strongRecOn with
  | _ i ih =>
    intro hi
    cases hl : listed.getD i false with
    | true => rfl
    | false =>
      exfalso
      have hil : i < listed.size := by omega
      have : i ∈ Region.ready md ops listed := mem_ready.2 ⟨by simpa [hil] using hl, ops[i], by simp [hi], fun e he hb => by
        have hlt := hac i ops[i] (by simp [hi]) e he hb
        exact ih e.on hlt (by omega)⟩
      rw [hr] at this
      cases this

theorem wpAny_inv {md : Region.Mode} (I : Nat → Array Bool → Act → World → Prop) (hac : ∀ i o, ops[i]? = some o → ∀ e ∈ o.after, Region.binds md e = true → e.on < i)
    (hstep : ∀ n listed a w i, I (n + 1) listed a w → listed.size = ops.size → i ∈ Region.ready md ops listed → ∀ K : Act → World → Prop, (∀ a' w', I n (listed.setIfInBounds i true) a' w' → K a' w') → wpOp P ops Q i K a w)
    (hend : ∀ n listed a w, I n listed a w → (∀ i, i < ops.size → listed.getD i false = true) → Q .normal a w) :
    ∀ (fuel : Nat) (listed : Array Bool) (a : Act) (w : World), listed.size = ops.size → listed.toList.count false ≤ fuel → I fuel listed a w → wpAny P md ops Q fuel listed a w := by
  intro fuel
  induction fuel with
  | zero =>
    intro listed a w hsz hc hI
    have hr : Region.ready md ops listed = [] := by
      rw [List.eq_nil_iff_forall_not_mem]
      intro i hi
      have := count_set_false (mem_ready.1 hi).1
      omega
    exact ⟨hr, hend 0 listed a w hI (all_listed hsz hac hr)⟩
  | succ n ih =>
    intro listed a w hsz hc hI
    refine ⟨fun hr => hend _ listed a w hI (all_listed hsz hac hr), fun i hi => ?_⟩
    have hcs := count_set_false (mem_ready.1 hi).1
    exact hstep n listed a w i hI hsz hi _ fun a' w' hI' => ih _ a' w' (by simpa using hsz) (by omega) hI'

theorem wpOp_value {i : Nat} {o : Oper} {v : Value} {a : Act} {w w' : World} {K : Act → World → Prop} (hi : ops[i]? = some o) (hg : o.guard = none) (hrun : (execOp a.eval o).run P w = .ok (.value v) w')
    (h : K (a.put o.dst v) w') : wpOp P ops Q i K a w := by
  unfold wpOp
  simp only [hi, Region.wanted, hg, if_true, Oper.wp, hrun, Oper.upon_value]
  exact .inl h

theorem wpOp_skip {i : Nat} {o : Oper} {a : Act} {w w' : World} {K : Act → World → Prop} (hi : ops[i]? = some o) (hg : o.guard = none) (hrun : (execOp a.eval o).run P w = .ok .skip w')
    (h : K (a.put o.dst undef) w') : wpOp P ops Q i K a w := by
  unfold wpOp
  simp only [hi, Region.wanted, hg, if_true, Oper.wp, hrun, Oper.upon_skip]
  exact .inl h

/-! ### 2. The literal's operations -/

/-- 's[lo:hi]' of a constant string: the bytes that it gives. -/
def strOf (e : TypeId) (o : Oper) : Option (List UInt8) :=
  match o.guard, o.op with
  | none, .slice t (.const (.string S)) (some (.const (.int _ lo))) (some (.const (.int _ hi))) none =>
    if t = e ∧ 0 ≤ lo ∧ lo ≤ hi ∧ hi ≤ (S.data.toList.length : Int) ∧ S.data.toList.length ≤ 1000000 then some ((S.data.toList.drop lo.toNat).take (hi.toNat - lo.toNat)) else none
  | _, _ => none

theorem strOf_run {e : TypeId} {o : Oper} {s : List UInt8} (he : P.underlying e = some .string) (h : strOf e o = some s) :
    o.guard = none ∧ s.length ≤ 1000000 ∧ ∀ (a : Act) (w : World), (execOp a.eval o).run P w = .ok (.value (.string ⟨s.toArray⟩)) w := by
  unfold strOf at h
  split at h
  case h_2 => cases h
  rename_i t S k lo k' hi hg ho
  split at h
  case isFalse => cases h
  rename_i hc
  obtain ⟨rfl, h0, h1, h2, h3⟩ := hc
  simp only [Option.some.injEq] at h
  subst h
  refine ⟨hg, ?_, fun a w => ?_⟩
  · simp only [List.length_take, List.length_drop]; omega
  · have hsz : S.size = S.data.toList.length := rfl
    have hx : S.extract lo.toNat hi.toNat = ⟨((S.data.toList.drop lo.toNat).take (hi.toNat - lo.toNat)).toArray⟩ := by
      obtain ⟨d⟩ := S
      obtain ⟨l⟩ := d
      exact ByteArray.extract_mk l _ _
    have hr := run_slice_string (P := P) w t S k k' lo hi he h0 h1 (by omega)
    rw [hx] at hr
    unfold execOp
    simp only [ho, Act.eval, Option.map_some, Option.map_none, Sem.run_bind, run_sliceAt_string w t _ _ _ _ he, hr, Result.andThen_ok]
    rfl

/-- 'm[key] = value of slot d', on the map in slot m. -/
def insOf (t : TypeId) (o : Oper) : Option (Nat × Int × Nat) :=
  match o.guard, o.dst, o.op with
  | none, none, .insert t' (.tmp m) (.const (.int .i64 key)) (.tmp d) => if t' = t ∧ (Lit.int .i64 key).wf = true then some (m, key, d) else none
  | _, _, _ => none

theorem insOf_spec {t : TypeId} {o : Oper} {m d : Nat} {key : Int} (h : insOf t o = some (m, key, d)) :
    o.guard = none ∧ o.dst = none ∧ o.op = .insert t (.tmp m) (.const (.int .i64 key)) (.tmp d) ∧ (Lit.int .i64 key).wf = true := by
  unfold insOf at h
  split at h
  case h_2 => cases h
  rename_i t' m' key' d' hg hd ho
  split at h
  case isFalse => cases h
  rename_i hc
  obtain ⟨rfl, hw⟩ := hc
  simp only [Option.some.injEq, Prod.mk.injEq] at h
  obtain ⟨rfl, rfl, rfl⟩ := h
  exact ⟨hg, hd, ho, hw⟩

def onEdge (o : Oper) (j : Nat) : Bool := o.after.any fun e => e.on == j && Region.binds .any e

theorem onEdge_listed {i j : Nat} {o : Oper} {listed : Array Bool} (ho : ops[i]? = some o) (h : onEdge o j = true) (hr : i ∈ Region.ready .any ops listed) : listed.getD j false = true := by
  obtain ⟨_, o', ho', hall⟩ := mem_ready.1 hr
  rw [ho] at ho'
  cases ho'
  obtain ⟨e, he, hb⟩ := Array.any_eq_true'.1 h
  simp only [Bool.and_eq_true, beq_iff_eq] at hb
  rw [← hb.1]
  exact hall e he hb.2

/-- ONE OPERATION, by its place: 0: the map is made (slot 1) · an odd place 2j + 1: a value is cut (slot j + 2) · an even place 2j + 2: it is laid at its key · behind the n entries: slot n + 2 takes the map, then the result's slot 0 does. 'iw': the place at which 'want' gets 'word'. -/
def okAt (t e : TypeId) (n : Nat) (want : Int) (word : List UInt8) (iw : Nat) (i : Nat) (o : Oper) : Bool :=
  o.after.all (fun x => x.on < i) &&
  if i = 0 then (match o.guard, o.dst, o.op with | none, some 1, .makeMap t' none => t' == t | _, _, _ => false)
  else if i = 2 * n + 1 then (match o.guard, o.dst, o.op with | none, some d, .move (.tmp 1) => d == n + 2 && onEdge o 0 | _, _, _ => false)
  else if i = 2 * n + 2 then (match o.guard, o.dst, o.op with | none, some 0, .assign (.tmp d) => d == n + 2 && onEdge o (2 * n + 1) | _, _, _ => false)
  else if i % 2 = 1 then o.dst == some (i / 2 + 2) && (match strOf e o with | some s => i + 1 != iw || s == word | none => false)
  else (match insOf t o with | some (m, key, d) => m == 1 && d == i / 2 + 1 && onEdge o 0 && onEdge o (i - 1) && ((key == want) == (i == iw)) | none => false)

/-- The value that a cut gives. -/
def cutAt (e : TypeId) (ops : Array Oper) (i : Nat) : List UInt8 := ((ops[i]?).bind (strOf e)).getD []

/-- THE MAP AS FAR AS IT IS FILLED. -/
def Filled (P : Program) (k e : TypeId) (w : World) (b : Nat) (want : Int) (word : List UInt8) (j : Nat) (seen : Bool) : Prop :=
  ∃ D : DataW Unit, w.ownsMap P k (plainElem P e) b j D ∧ (seen = true → Maps.has D (.int .i64 want) = true ∧ D.atKey (.int .i64 want) (.lit (.string [])) = .lit (.string word))

theorem Filled.step {k e t : TypeId} {w : World} {b j : Nat} {want key : Int} {word s : List UInt8} {seen seen' : Bool} (hk : P.underlying k = some (.int .i64)) (ht : P.underlying t = some (.map k e)) (he : P.underlying e = some .string)
    (h : Filled P k e w b want word j seen) (hj : j < maxLen) (hw : (Lit.int .i64 key).wf = true) (hs : s.length ≤ maxLen)
    (hseen : seen' = true → (key = want ∧ s = word) ∨ (key ≠ want ∧ seen = true)) :
    ∃ w', (Instr.mapUpdate t (.map (some b)) (.int .i64 key) (.string ⟨s.toArray⟩)).run P w = .ok () w' ∧ Filled P k e w' b want word (j + 1) seen' ∧ w.grownBy w' (some b) := by
  obtain ⟨D, hown, hgood⟩ := h
  obtain ⟨w', hrun, hown', hg⟩ := hown.update (int_keyed hk) ht hj (keyOf_int_mk hk hw) (plainElem_string he (s := ⟨s.toArray⟩) (by simpa [ByteArray.size] using hs))
  refine ⟨w', hrun, ⟨_, hown', fun hs' => ?_⟩, hg⟩
  rcases hseen hs' with ⟨rfl, rfl⟩ | ⟨hne, hsn⟩
  · exact ⟨Maps.has_put_same hown.isMap (by simp [WideAt.IsKeyLit]) _, Maps.atKey_put_same hown.isMap (by simp [WideAt.IsKeyLit]) _ _⟩
  · have hne' : Lit.int .i64 want ≠ Lit.int .i64 key := fun h => hne (by injection h with _ h; exact h.symm)
    rw [Maps.has_put_other hne', Maps.atKey_put_other hne']
    exact hgood hsn

/-- THE INVARIANT. -/
structure Inv (P : Program) (k e : TypeId) (n nt : Nat) (ops : Array Oper) (want : Int) (word : List UInt8) (iw : Nat) (w0 : World) (fuel : Nat) (listed : Array Bool) (a : Act) (w : World) : Prop where
  size : a.tmps.size = nt
  defers : a.defers = []
  made : listed.getD 0 false = true → a.tmps[1]? = some (.map (some w0.heap.size))
  cuts : ∀ j, j < n → listed.getD (2 * j + 1) false = true → a.tmps[j + 2]? = some (.string ⟨(cutAt e ops (2 * j + 1)).toArray⟩)
  taken : listed.getD (2 * n + 1) false = true → a.tmps[n + 2]? = some (.map (some w0.heap.size))
  handed : listed.getD (2 * n + 2) false = true → a.tmps[0]? = some (.map (some w0.heap.size))
  world : (listed.getD 0 false = false ∧ listed.getD iw false = false ∧ w.heap.size = w0.heap.size ∧ Below w0.heap.size w0 w ∧ fuel ≤ ops.size) ∨
    (listed.getD 0 false = true ∧ Below w0.heap.size w0 w ∧ ∃ j, j + fuel ≤ ops.size ∧ Filled P k e w w0.heap.size want word j (listed.getD iw false))

theorem set_new {listed : Array Bool} {i j : Nat} (h : (listed.setIfInBounds i true).getD j false = true) (hne : j ≠ i) : listed.getD j false = true := by
  rwa [getD_set_ne false (Ne.symm hne)] at h

theorem tmps_same {a : Act} {d : Nat} (v : Value) (h : d < a.tmps.size) : (a.put (some d) v).tmps[d]? = some v := by
  simp [Act.put, h]

theorem tmps_other {a : Act} {d x : Nat} (v : Value) (h : d ≠ x) : (a.put (some d) v).tmps[x]? = a.tmps[x]? := by
  simp [Act.put, Array.getElem?_setIfInBounds_ne h]

theorem eval_tmp {a : Act} {x : Nat} {v : Value} (h : a.tmps[x]? = some v) : a.eval (.tmp x) = v := by
  simp [Act.eval, h]

variable {k e t : TypeId} {n nt iw : Nat} {want : Int} {word : List UInt8} {w0 : World}

theorem Inv.listed0 {fuel : Nat} {listed : Array Bool} {a : Act} {w : World} (h : Inv P k e n nt ops want word iw w0 fuel listed a w) (h0 : listed.getD 0 false = true) :
    Below w0.heap.size w0 w ∧ ∃ j, j + fuel ≤ ops.size ∧ Filled P k e w w0.heap.size want word j (listed.getD iw false) := by
  rcases h.world with ⟨h1, _⟩ | ⟨_, h2⟩
  · rw [h0] at h1; cases h1
  · exact h2

/-- An operation that leaves the world alone and sets one slot that no other rests on. -/
theorem Inv.value {fuel : Nat} {listed : Array Bool} {a : Act} {w : World} (h : Inv P k e n nt ops want word iw w0 (fuel + 1) listed a w) {i : Nat} {d : Nat} {v : Value} (hi0 : i ≠ 0) (hiw : i ≠ iw)
    (hd : d < nt) (h1 : d ≠ 1) (hcut : ∀ j, j < n → d = j + 2 → i = 2 * j + 1 ∧ v = .string ⟨(cutAt e ops (2 * j + 1)).toArray⟩)
    (hcut' : ∀ j, j < n → i = 2 * j + 1 → d = j + 2)
    (ht : d = n + 2 → v = .map (some w0.heap.size)) (ht' : i = 2 * n + 1 → d = n + 2)
    (hh : d = 0 → v = .map (some w0.heap.size)) (hh' : i = 2 * n + 2 → d = 0) :
    Inv P k e n nt ops want word iw w0 fuel (listed.setIfInBounds i true) (a.put (some d) v) w where
  size := by rw [← h.size]; simp [Act.put]
  defers := h.defers
  made := fun hl => by rw [tmps_other v h1]; exact h.made (set_new hl (Ne.symm hi0))
  cuts := fun j hj hl => by
    by_cases hdj : d = j + 2
    · obtain ⟨_, rfl⟩ := hcut j hj hdj
      rw [← hdj]
      exact tmps_same _ (by rw [h.size]; exact hd)
    · rw [tmps_other v hdj]
      exact h.cuts j hj (set_new hl (fun e => hdj (hcut' j hj e.symm)))
  taken := fun hl => by
    by_cases hdj : d = n + 2
    · rw [ht hdj, ← hdj]
      exact tmps_same _ (by rw [h.size]; exact hd)
    · rw [tmps_other v hdj]
      exact h.taken (set_new hl (fun e => hdj (ht' e.symm)))
  handed := fun hl => by
    by_cases hdj : d = 0
    · rw [hh hdj, ← hdj]
      exact tmps_same _ (by rw [h.size]; exact hd)
    · rw [tmps_other v hdj]
      exact h.handed (set_new hl (fun e => hdj (hh' e.symm)))
  world := by
    rw [getD_set_ne false hi0, getD_set_ne false hiw]
    rcases h.world with ⟨h1, h2, h3, h4, h5⟩ | ⟨h1, h2, j, h3, h4⟩
    · exact .inl ⟨h1, h2, h3, h4, by omega⟩
    · exact .inr ⟨h1, h2, j, by omega, h4⟩

theorem inv_step (hk : P.underlying k = some (.int .i64)) (ht : P.underlying t = some (.map k e)) (he : P.underlying e = some .string) (hsz : ops.size = 2 * n + 3) (hnt : nt = n + 3) (hbig : ops.size ≤ 1000000)
    (hiw : iw % 2 = 0 ∧ 2 ≤ iw ∧ iw ≤ 2 * n) (hok : ∀ i o, ops[i]? = some o → okAt t e n want word iw i o = true)
    (fuel : Nat) (listed : Array Bool) (a : Act) (w : World) (i : Nat) (hI : Inv P k e n nt ops want word iw w0 (fuel + 1) listed a w) (hls : listed.size = ops.size) (hi : i ∈ Region.ready .any ops listed)
    (K : Act → World → Prop) (hK : ∀ a' w', Inv P k e n nt ops want word iw w0 fuel (listed.setIfInBounds i true) a' w' → K a' w') : wpOp P ops Q i K a w := by
  obtain ⟨hl, o, ho, _⟩ := mem_ready.1 hi
  have hlt : i < ops.size := (Array.getElem?_eq_some_iff.1 ho).1
  have hlf : listed.getD i false = false := by
    have : i < listed.size := by omega
    simpa [this] using hl
  have hc := hok i o ho
  unfold okAt at hc
  rw [Bool.and_eq_true] at hc
  obtain ⟨_, hc⟩ := hc
  by_cases h0 : i = 0
  · subst h0
    rw [if_pos rfl] at hc
    split at hc
    case h_2 => cases hc
    rename_i t' hg hd hop
    obtain rfl : t' = t := by simpa using hc
    rcases hI.world with ⟨_, hw2, hw3, hw4, hw5⟩ | ⟨hw1, _⟩
    · have hrun : (execOp a.eval o).run P w = .ok (.value (.map (some w0.heap.size))) (w.alloc (.map #[] 0)) := by
        unfold execOp
        simp only [hop, Option.map_none, Sem.run_bind, run_makeMap, Result.andThen_ok, hw3]
        rfl
      refine wpOp_value ho hg hrun (hK _ _ ?_)
      rw [hd]
      refine ⟨by rw [← hI.size]; simp [Act.put], hI.defers, fun _ => tmps_same _ (by rw [hI.size]; omega), fun j hj hl' => ?_, fun hl' => ?_, fun hl' => ?_, ?_⟩
      · rw [tmps_other _ (by omega)]
        exact hI.cuts j hj (set_new hl' (by omega))
      · rw [tmps_other _ (by omega)]
        exact hI.taken (set_new hl' (by omega))
      · rw [tmps_other _ (by omega)]
        exact hI.handed (set_new hl' (by omega))
      · refine .inr ⟨by have : 0 < listed.size := by omega
                        simp [this], hw4.alloc (by omega) _, 0, by omega, .map [], ?_, fun hs => ?_⟩
        · rw [← hw3]; exact World.ownsMap_made w P k _
        · rw [getD_set_ne false (by omega), hw2] at hs
          cases hs
    · rw [hlf] at hw1; cases hw1
  rw [if_neg h0] at hc
  by_cases h1 : i = 2 * n + 1
  · rw [if_pos h1] at hc
    split at hc
    case h_2 => cases hc
    rename_i d hg hd hop
    simp only [Bool.and_eq_true, beq_iff_eq] at hc
    obtain ⟨rfl, hed⟩ := hc
    have hm := hI.made (onEdge_listed ho hed hi)
    have hrun : (execOp a.eval o).run P w = .ok (.value (.map (some w0.heap.size))) w := by
      unfold execOp
      simp only [hop, eval_tmp hm]
      rfl
    refine wpOp_value ho hg hrun (hK _ _ ?_)
    rw [hd]
    exact hI.value h0 (by omega) (by omega) (by omega) (fun j hj hdj => by omega) (fun j hj hij => by omega) (fun _ => rfl) (fun _ => rfl) (fun h => by omega) (fun h => by omega)
  rw [if_neg h1] at hc
  by_cases h2 : i = 2 * n + 2
  · rw [if_pos h2] at hc
    split at hc
    case h_2 => cases hc
    rename_i d hg hd hop
    simp only [Bool.and_eq_true, beq_iff_eq] at hc
    obtain ⟨rfl, hed⟩ := hc
    have hm := hI.taken (onEdge_listed ho hed hi)
    have hrun : (execOp a.eval o).run P w = .ok (.value (.map (some w0.heap.size))) w := by
      unfold execOp
      simp only [hop, eval_tmp hm]
      rfl
    refine wpOp_value ho hg hrun (hK _ _ ?_)
    rw [hd]
    exact hI.value h0 (by omega) (by omega) (by omega) (fun j hj hdj => by omega) (fun j hj hij => by omega) (fun h => by omega) (fun h => by omega) (fun _ => rfl) (fun _ => rfl)
  rw [if_neg h2] at hc
  by_cases h3 : i % 2 = 1
  · rw [if_pos h3] at hc
    simp only [Bool.and_eq_true, beq_iff_eq] at hc
    obtain ⟨hd, hc⟩ := hc
    cases hs : strOf e o with
    | none => rw [hs] at hc; cases hc
    | some s =>
      obtain ⟨hg, _, hrun⟩ := strOf_run (P := P) he hs
      refine wpOp_value ho hg (hrun a w) (hK _ _ ?_)
      rw [hd]
      refine hI.value h0 (by omega) (by omega) (by omega) (fun j hj hdj => ⟨by omega, ?_⟩) (fun j hj hij => by omega) (fun h => by omega) (fun h => by omega) (fun h => by omega) (fun h => by omega)
      obtain rfl : i = 2 * j + 1 := by omega
      simp [cutAt, ho, hs]
  · rw [if_neg h3] at hc
    cases hs : insOf t o with
    | none => rw [hs] at hc; cases hc
    | some x =>
      obtain ⟨m, key, d⟩ := x
      rw [hs] at hc
      simp only [Bool.and_eq_true, beq_iff_eq] at hc
      obtain ⟨⟨⟨⟨rfl, rfl⟩, he0⟩, he1⟩, hkw⟩ := hc
      obtain ⟨hg, hd, hop, hwf⟩ := insOf_spec hs
      have hl0 := onEdge_listed ho he0 hi
      have hm := hI.made hl0
      obtain ⟨j, rfl⟩ : ∃ j, i = 2 * j + 2 := ⟨i / 2 - 1, by omega⟩
      have hc1 := hI.cuts j (by omega) (by simpa using onEdge_listed ho he1 hi)
      obtain ⟨hb, j', hj', hfill⟩ := hI.listed0 hl0
      obtain ⟨op, hop'⟩ : ∃ op, ops[2 * j + 1]? = some op := ⟨ops[2 * j + 1], by simp⟩
      have hcp := hok _ op hop'
      unfold okAt at hcp
      rw [Bool.and_eq_true, if_neg (by omega), if_neg (by omega), if_neg (by omega), if_pos (by omega)] at hcp
      obtain ⟨_, hcp⟩ := hcp
      simp only [Bool.and_eq_true] at hcp
      obtain ⟨_, hcp⟩ := hcp
      cases hst : strOf e op with
      | none => rw [hst] at hcp; cases hcp
      | some s =>
        rw [hst] at hcp
        have hcut : cutAt e ops (2 * j + 1) = s := by simp [cutAt, hop', hst]
        obtain ⟨_, hslen, _⟩ := strOf_run (P := P) he hst
        rw [hcut] at hc1
        have hmax : 1000000 < maxLen := by decide
        obtain ⟨w', hrun, hfill', hgr⟩ := hfill.step (seen' := (listed.setIfInBounds (2 * j + 2) true).getD iw false) hk ht he (by omega) hwf (by omega) (s := s) (key := key) (fun hseen => by
          by_cases hjw : 2 * j + 2 = iw
          · left
            refine ⟨by rw [hjw, beq_self_eq_true] at hkw; simpa using hkw, ?_⟩
            have : (2 * j + 1 + 1 != iw) = false := by simp; omega
            rw [this] at hcp
            simpa using hcp
          · right
            refine ⟨by rw [beq_eq_false_iff_ne.2 hjw] at hkw; simpa using hkw, set_new hseen (fun h => hjw h.symm)⟩)
        have hsl : (2 * j + 2) / 2 + 1 = j + 2 := by omega
        rw [hsl] at hop
        have hev : a.eval (.const (.int .i64 key)) = .int .i64 key := rfl
        have hrun' : (execOp a.eval o).run P w = .ok .skip w' := by
          unfold execOp
          simp only [hop, eval_tmp hm, eval_tmp hc1, hev, Sem.run_bind, hrun, Result.andThen_ok]
          rfl
        refine wpOp_skip ho hg hrun' (hK _ _ ?_)
        rw [hd]
        have hne : (listed.setIfInBounds (2 * j + 2) true).getD 0 false = true := by rw [getD_set_ne false (by omega)]; exact hl0
        refine ⟨hI.size, hI.defers, fun _ => hm, fun x hx hl' => hI.cuts x hx (set_new hl' (by omega)), fun hl' => hI.taken (set_new hl' (by omega)), fun hl' => hI.handed (set_new hl' (by omega)), .inr ⟨hne, ?_, j' + 1, by omega, hfill'⟩⟩
        exact hb.grown hgr hb.size (fun x hx => by cases hx; exact Nat.le_refl _)

/-! ### 3. The whole function -/

/-- THE READER. -/
def mapLit (t e : TypeId) (n : Nat) (want : Int) (word : List UInt8) (iw : Nat) (fn : Func) : Bool :=
  match fn.body, fn.results.toList, fn.params.size with
  | some (.seq (.region _ ops0 false) (.seq (.region _ ops true) .ret)), [.tmp 0], 0 =>
    (match ops0.toList with
      | [o] => (match o.guard, o.dst, o.op with | none, some 0, .assign (.const _) => true | _, _, _ => false)
      | _ => false) &&
    (fn.ntmps == n + 3 && ops.size == 2 * n + 3 && decide (n ≤ 100000) && iw % 2 == 0 && decide (2 ≤ iw) && decide (iw ≤ 2 * n)) &&
    ops.toList.zipIdx.all fun x => okAt t e n want word iw x.2 x.1
  | _, _, _ => false

theorem calls_mapLit {f : FuncId} {fn : Func} {w : World} (hf : P.funcs[f]? = some fn) (hm : P.follows .mixedOrders = true)
    (hk : P.underlying k = some (.int .i64)) (ht : P.underlying t = some (.map k e)) (he : P.underlying e = some .string) (h : mapLit t e n want word iw fn = true) :
    Calls P f #[] w fun r w' => r = .returned (.map (some w.heap.size)) ∧ Below w.heap.size w w' ∧ ∃ j, Filled P k e w' w.heap.size want word j true := by
  unfold mapLit at h
  split at h
  case h_2 => cases h
  rename_i id0 ops0 id ops hbody hres hpar
  simp only [Bool.and_eq_true, beq_iff_eq, decide_eq_true_eq] at h
  obtain ⟨⟨hz, ⟨⟨⟨⟨hnt, hsz⟩, hbig⟩, hw1⟩, hw2⟩, hw3⟩, hall⟩ := h
  have hok : ∀ i o, ops[i]? = some o → okAt t e n want word iw i o = true := by
    intro i o ho
    have := List.all_eq_true.1 hall (o, i) (List.mem_zipIdx_iff_getElem?.2 (by simpa using ho))
    exact this
  have e0 : (#[] : Array Value) ++ Array.replicate (fn.ntmps - (#[] : Array Value).size) undef = Array.replicate fn.ntmps undef := by simp
  refine calls_of_wp hf hbody (wp_seq (wp_region_list ?_))
  rw [e0]
  split at hz
  case h_2 => cases hz
  rename_i o hops0
  split at hz
  case h_2 => cases hz
  rename_i v hg hd hop
  rw [hops0]
  refine wpList_assign hg _ hop (wpList_nil ?_)
  simp only [Exit.then]
  rw [hd]
  refine wp_seq (wp_region_any hm ?_)
  have hres' : fn.results = #[.tmp 0] := by
    apply Array.toList_inj.1
    simpa using hres
  have hac : ∀ i o, ops[i]? = some o → ∀ x ∈ o.after, Region.binds .any x = true → x.on < i := by
    intro i o ho x hx _
    have := hok i o ho
    unfold okAt at this
    rw [Bool.and_eq_true] at this
    simpa using Array.all_eq_true_iff_forall_mem.1 this.1 x hx
  refine wpAny_inv (Inv P k e n fn.ntmps ops want word iw w) hac ?_ ?_ _ _ _ _ (by simp) (by simp) ?_
  · intro m listed a w' i hI hls hi K hK
    exact inv_step hk ht he hsz hnt (by omega) ⟨hw1, hw2, hw3⟩ hok m listed a w' i hI hls hi K hK
  · intro m listed a w' hI hl
    simp only [Exit.then]
    refine wp_ret (bodyPost_ret (results_tmp hres' _ _ _) hI.defers ?_)
    have h0 := hI.handed (hl _ (by omega))
    obtain ⟨hb, j, _, hfl⟩ := hI.listed0 (hl 0 (by omega))
    rw [hl iw (by omega)] at hfl
    exact ⟨by simp [h0], hb, j, hfl⟩
  · have hno : ∀ i, (Array.replicate ops.size false).getD i false = false := by
      intro i
      by_cases hi : i < ops.size <;> simp [hi]
    refine ⟨by simp [Act.put], rfl, fun hl => ?_, fun j _ hl => ?_, fun hl => ?_, fun hl => ?_, .inl ⟨hno _, hno _, rfl, (Below.refl _ _).drew, Nat.le_refl _⟩⟩ <;> · rw [hno] at hl; cases hl

end
end Go.Proofs.YtekckdoielghnaaDoor
