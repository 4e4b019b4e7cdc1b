/-
  The reference's TypeCategory, TypeSubCategory, TypeParent, TypeIn and TypeInSub; and the sanity check 'typed', which answers true (the name of the type 1000 is Keyword; the category of 1006 is 1000).
  Conditions: none, but for TypeIn and TypeInSub, which are asked of two types.
-/
import Derived.Test.YtekckdoielghnaaDoorIs
import Derived.Test.YtekckdoielghnaaDoorMapLit
namespace Go.Proofs.YtekckdoielghnaaDoor
open Go Go.RowKit Go.Maps

/-- The bytes of the word Keyword. -/
def kw : List UInt8 := [75, 101, 121, 119, 111, 114, 100]

theorem map_lit : mapLit 40 9 102 1000 kw 32 Tryd.f29 = true := by kernel_rfl
theorem follows_mixed : Tryd.prog.follows .mixedOrders = true := by kernel_rfl
theorem zero9 (w : World) : (zeroValue 9).run Tryd.prog w = .ok (.string ⟨#[]⟩) w := by kernel_rfl

/-- The map in block b has the word Keyword at the key 1000. -/
def HasKw (w : World) (b : Nat) : Prop := ∃ j, Filled Tryd.prog 30 9 w b 1000 kw j true

theorem map_any (w : World) : Calls Tryd.prog 29 #[] w fun r w' => r = .returned (.map (some w.heap.size)) ∧ Below w.heap.size w w' ∧ HasKw w' w.heap.size :=
  calls_mapLit Tryd.func29 follows_mixed Tryd.underlying30 Tryd.underlying40 Tryd.underlying9 map_lit

theorem wpList_lookup_kw (w : World) {ops : Array Oper} {rest : List Oper} {o : Oper} {a : Act} {Q : Exit → Act → World → Prop} (hg : o.guard = none) (m x : Operand) (hop : o.op = Op.lookup 40 m x true) (b : Nat)
    (hm : a.eval m = .map (some b)) (hh : HasKw w b) (hx : a.eval x = .int .i64 1000)
    (hK : wpList Tryd.prog ops Q rest (a.put o.dst (.tuple #[.string ⟨#[75, 101, 121, 119, 111, 114, 100]⟩, .bool true])) w) : wpList Tryd.prog ops Q (o :: rest) a w := by
  obtain ⟨j, D, hown, hgood⟩ := hh
  obtain ⟨hhas, hat⟩ := hgood rfl
  refine wpList_lookup_own_ok w hg m x 40 hop 30 9 (int_keyed Tryd.underlying30) Tryd.underlying40 (plainElem Tryd.prog 9) (zero9 w) (.lit (.string [])) [] (plainElem_string Tryd.underlying9 (s := ⟨#[]⟩) (by decide)) b j D hm hown _ (.int .i64 1000) hx
    (keyOf_int_mk Tryd.underlying30 (by decide)) fun v ps hv => ?_
  obtain ⟨s, rfl, hz, _⟩ := plainElem_string_inv Tryd.underlying9 hv
  rw [hat] at hz
  have hs : kw = s.data.toList := by
    have := congrArg Prod.fst hz
    simpa using this
  obtain rfl : s = ⟨#[75, 101, 121, 119, 111, 114, 100]⟩ := by
    obtain ⟨d⟩ := s
    obtain ⟨l⟩ := d
    rw [show l = kw from hs.symm]
    rfl
  rw [hhas]
  exact hK

set_option maxHeartbeats 400000 in
theorem String_kw (w : World) : Calls Tryd.prog 28 #[.int .i64 1000] w fun e w' => e = .returned (.string ⟨#[75, 101, 121, 119, 111, 114, 100]⟩) ∧ Below w.heap.size w w' := by
  go_enter Tryd.func28, Tryd.ntmps28
  go_wp2_with (first | (go_at_call 29; refine (map_any _).mono ?_; rintro e w' ⟨rfl, hb, hh⟩) | (at_lookup; refine wpList_lookup_kw _ rfl _ _ rfl w.heap.size rfl hh rfl ?_))
  go_ret
  exact ⟨rfl, hb⟩

set_option maxHeartbeats 400000 in
theorem TypeName_kw (w : World) : Calls Tryd.prog 24 #[.int .i64 1000] w fun e w' => e = .returned (.string ⟨#[75, 101, 121, 119, 111, 114, 100]⟩) ∧ Below w.heap.size w w' := by
  go_enter Tryd.func24, Tryd.ntmps24
  go_wp2_with (go_at_call 28; refine (String_kw _).mono ?_; rintro e w' ⟨rfl, hb⟩)
  go_ret
  exact ⟨rfl, hb⟩

set_option maxHeartbeats 400000 in
theorem typed_any (w : World) : Calls Tryd.prog 12 #[] w fun e w' => e = .returned (.bool true) ∧ Below w.heap.size w w' := by
  have h6 : Rng 1006 := by decide
  have hc : cat 1006 = 1000 := by decide
  go_enter Tryd.func12, Tryd.ntmps12
  go_wp2_with (first | (go_at_call 24; refine (TypeName_kw _).mono ?_; rintro e w' ⟨rfl, hb⟩) | (go_at_call 9; refine (TypeCategory_any _ _ h6).mono ?_; rintro e w' ⟨rfl, rfl⟩))
  go_ret
  exact ⟨rfl, hb⟩

set_option maxHeartbeats 400000 in
theorem sCat_yes (t : Int) (w : World) (ht : isT t = true) : Calls Tryd.prog 6 #[.int .i64 t] w fun e w' => e = .returned (.tuple #[.int .i64 (cat t), .int .i64 1]) ∧ Below w.heap.size w w' := by
  have hr := isT_rng ht
  go_enter Tryd.func6, Tryd.ntmps6
  go_wp2_with (first | (go_at_call 13; refine (is_any _ _).mono ?_; rintro e w' ⟨rfl, hb⟩) | (go_at_call 18; refine (category_any _ _ hr).mono ?_; rintro e w' ⟨rfl, rfl⟩))
  go_ret2
  exact ⟨rfl, hb⟩

set_option maxHeartbeats 400000 in
theorem sCat_no (t : Int) (w : World) (ht : isT t = false) : Calls Tryd.prog 6 #[.int .i64 t] w fun e w' => e = .returned (.tuple #[.int .i64 0, .int .i64 2]) ∧ Below w.heap.size w w' := by
  go_enter Tryd.func6, Tryd.ntmps6
  go_wp2_with (go_at_call 13; refine (is_any _ _).mono ?_; rintro e w' ⟨rfl, hb⟩)
  go_ret2
  exact ⟨rfl, hb⟩

set_option maxHeartbeats 400000 in
theorem sSub_yes (t : Int) (w : World) (ht : isT t = true) : Calls Tryd.prog 7 #[.int .i64 t] w fun e w' => e = .returned (.tuple #[.int .i64 (sub t), .int .i64 1]) ∧ Below w.heap.size w w' := by
  have hr := isT_rng ht
  go_enter Tryd.func7, Tryd.ntmps7
  go_wp2_with (first | (go_at_call 13; refine (is_any _ _).mono ?_; rintro e w' ⟨rfl, hb⟩) | (go_at_call 19; refine (hundred_any _ _ hr).mono ?_; rintro e w' ⟨rfl, rfl⟩))
  go_ret2
  exact ⟨rfl, hb⟩

set_option maxHeartbeats 400000 in
theorem sSub_no (t : Int) (w : World) (ht : isT t = false) : Calls Tryd.prog 7 #[.int .i64 t] w fun e w' => e = .returned (.tuple #[.int .i64 0, .int .i64 2]) ∧ Below w.heap.size w w' := by
  go_enter Tryd.func7, Tryd.ntmps7
  go_wp2_with (go_at_call 13; refine (is_any _ _).mono ?_; rintro e w' ⟨rfl, hb⟩)
  go_ret2
  exact ⟨rfl, hb⟩

set_option maxHeartbeats 400000 in
theorem sPar_yes (t : Int) (w : World) (ht : isT t = true) : Calls Tryd.prog 8 #[.int .i64 t] w fun e w' => e = .returned (.tuple #[.int .i64 (par t), .int .i64 1]) ∧ Below w.heap.size w w' := by
  have hr := isT_rng ht
  go_enter Tryd.func8, Tryd.ntmps8
  go_wp2_with (first | (go_at_call 13; refine (is_any _ _).mono ?_; rintro e w' ⟨rfl, hb⟩) | (go_at_call 20; refine (parent_any _ _ hr).mono ?_; rintro e w' ⟨rfl, rfl⟩))
  go_ret2
  exact ⟨rfl, hb⟩

set_option maxHeartbeats 400000 in
theorem sPar_no (t : Int) (w : World) (ht : isT t = false) : Calls Tryd.prog 8 #[.int .i64 t] w fun e w' => e = .returned (.tuple #[.int .i64 0, .int .i64 2]) ∧ Below w.heap.size w w' := by
  go_enter Tryd.func8, Tryd.ntmps8
  go_wp2_with (go_at_call 13; refine (is_any _ _).mono ?_; rintro e w' ⟨rfl, hb⟩)
  go_ret2
  exact ⟨rfl, hb⟩

set_option maxHeartbeats 400000 in
theorem sIn_yes (a b : Int) (w : World) (ha : isT a = true) (hb : isT b = true) : Calls Tryd.prog 14 #[.int .i64 a, .int .i64 b] w fun e w' => e = .returned (.tuple #[.bool (cat a == cat b), .int .i64 1]) ∧ Below w.heap.size w w' := by
  have ra := isT_rng ha
  have rb := isT_rng hb
  go_enter Tryd.func14, Tryd.ntmps14
  go_wp2_with fail
  refine (is_any a _).mono ?_
  rintro e w1 ⟨rfl, h1⟩
  go_wp2_with fail
  refine (is_any b _).mono ?_
  rintro e w2 ⟨rfl, h2⟩
  go_wp2_with fail
  refine (category_any a _ ra).mono ?_
  rintro e w3 ⟨rfl, rfl⟩
  go_wp2_with fail
  refine (category_any b _ rb).mono ?_
  rintro e w4 ⟨rfl, rfl⟩
  go_wp2_with fail
  go_ret2
  exact ⟨rfl, h1.trans (h2.mono h1.size)⟩

set_option maxHeartbeats 400000 in
theorem sInSub_yes (a b : Int) (w : World) (ha : isT a = true) (hb : isT b = true) : Calls Tryd.prog 15 #[.int .i64 a, .int .i64 b] w fun e w' => e = .returned (.tuple #[.bool (sub a == sub b), .int .i64 1]) ∧ Below w.heap.size w w' := by
  have ra := isT_rng ha
  have rb := isT_rng hb
  go_enter Tryd.func15, Tryd.ntmps15
  go_wp2_with fail
  refine (is_any a _).mono ?_
  rintro e w1 ⟨rfl, h1⟩
  go_wp2_with fail
  refine (is_any b _).mono ?_
  rintro e w2 ⟨rfl, h2⟩
  go_wp2_with fail
  refine (hundred_any a _ ra).mono ?_
  rintro e w3 ⟨rfl, rfl⟩
  go_wp2_with fail
  refine (hundred_any b _ rb).mono ?_
  rintro e w4 ⟨rfl, rfl⟩
  go_wp2_with fail
  go_ret2
  exact ⟨rfl, h1.trans (h2.mono h1.size)⟩

end Go.Proofs.YtekckdoielghnaaDoor
