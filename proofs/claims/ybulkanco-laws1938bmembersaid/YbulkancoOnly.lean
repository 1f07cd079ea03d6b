/-
  THE WALK of 'session.only', and the laws on its map that the law's walk takes.
-/
import Derived.Test.YbulkancoRows
import Derived.WalkKit
import Derived.WalkSpells
import Derived.WalkLawsBesides
import Derived.OpenShut
import Derived.Maps.RangeWalk
import Derived.Maps.OwnSet
namespace Go.Proofs.Ybulkanco.lawS1938BMember
open Go.RowKit Go.Maps

theorem law54 : Keyed Yba.prog 54 := int_keyed Yba.underlying54
theorem zero35 (w : World) : (zeroValue 35).run Yba.prog w = .ok (.agg #[.int .u64 0, .int .u64 0, .pointer none]) w := by kernel_rfl

/-- How an element is told by the proof: that it has the shape of a netip.Addr, and nothing else. -/
def addrElem : Value → Option (DataW Unit × List MemPlace)
  | .agg ⟨[.int .u64 _, .int .u64 _, .pointer _]⟩ => some (.agg [], [])
  | _ => none

theorem addrElem_mk (x y : Int) (p : Option Addr) : addrElem (.agg #[.int .u64 x, .int .u64 y, .pointer p]) = some (.agg [], []) := rfl
theorem addrElem_inv {v : Value} {z : DataW Unit × List MemPlace} (h : addrElem v = some z) : ∃ x y p, v = .agg #[.int .u64 x, .int .u64 y, .pointer p] := by
  unfold addrElem at h
  split at h
  · exact ⟨_, _, _, rfl⟩
  · cases h

set_option maxHeartbeats 400000 in
theorem only_nil (w : World) : Calls Yba.prog 8 #[.map none] w fun e w' => e = .returned (.int .u8 0) ∧ w.grownBy w' none := by
  have hrg := run_range_nilMap (P := Yba.prog) w 55 54 35 Yba.underlying55
  have hnx : ∀ ty, (Instr.next (.pointer (some ⟨w.heap.size, 0, none⟩)) false ty).run Yba.prog (w.alloc (.mapIter none 0 #[] 0)) = _ := fun ty => run_next_nilMap w ty 0 0 #[]
  go_enter Yba.func8, Yba.ntmps8
  go_wp2
  refine wp_loop_rounds 1 ?_
  rw [rounds_succ]
  go_wp2
  go_ret
  exact ⟨rfl, World.grownBy_alloc _ _ _⟩

/-- THE STEP of the range over such a map, with what 'only' needs of it. -/
theorem next_fam (w : World) {ops : Array Oper} {rest : List Oper} {o : Oper} {a : Act} {Q : Exit → Act → World → Prop} (hg : o.guard = none) (it : Operand) (hop : o.op = Op.next it false)
    (b r n : Nat) (D : DataW Unit) (left : Lit → Bool) (cnt : Nat) (hit : a.eval it = .pointer (some ⟨r, 0, none⟩)) (h : w.ranges Yba.prog 54 addrElem b r n D left cnt)
    (hDone : (∀ kl, left kl = false) → wpList Yba.prog ops Q rest (a.put o.dst (.tuple #[.bool false])) w)
    (hMore : ∀ (x : Int) (c : Value) (w' : World), (Lit.int .u8 x).wf = true → left (.int .u8 x) = true → w.grownBy w' (some r) →
      (Instr.entry (.pointer (some ⟨r, 0, none⟩))).run Yba.prog w' = .ok (.tuple #[.int .u8 x, c]) w' → wpList Yba.prog ops Q rest (a.put o.dst (.tuple #[.bool true, .int .u8 x, c])) w') :
    wpList Yba.prog ops Q (o :: rest) a w :=
  wpList_next_ranges w hg it hop 54 law54 addrElem (Value.int .u8) id (fun key kl hkey => by obtain ⟨x, rfl, _⟩ := Maps.keyOf_int_inv Yba.underlying54 hkey; exact ⟨x, rfl⟩) (fun v y _ => ⟨v, rfl⟩)
    b r n D left cnt hit h (fun _ => hDone) (fun x c kl y w' cnt' hkey hlk hv hat hrg hlt hgr hsz hen => by
      obtain ⟨x', ex, rfl, hwx⟩ := Maps.keyOf_int_inv Yba.underlying54 hkey
      cases ex
      exact hMore x c w' hwx hlk hgr hen)

set_option maxHeartbeats 400000 in
theorem only_any (b n : Nat) (D : DataW Unit) (w : World) (hown : w.ownsMap Yba.prog 54 addrElem b n D) :
    Calls Yba.prog 8 #[.map (some b)] w fun e w' => (∃ x : Int, e = .returned (.int .u8 x) ∧ (((∀ kl, Maps.has D kl = false) ∧ x = 0) ∨ (Maps.has D (.int .u8 x) = true ∧ (Lit.int .u8 x).wf = true))) ∧ w.grownBy w' none := by
  go_enter Yba.func8, Yba.ntmps8
  go_wp2_with (first
    | (at_range; refine wpList_range_own _ rfl _ 55 rfl 54 35 law54 Yba.underlying55 _ b n _ rfl hown ?_; intro w0 hrg0 hg0 hs0)
    | go_in)
  go_frame
  refine wp_loop_rounds 1 ?_
  rw [rounds_succ]
  go_wp2_with (first
    | (at_next; refine next_fam _ rfl _ rfl b w.heap.size n _ _ _ rfl hrg0 ?_ ?_)
    | go_in)
  · intro hl0
    go_wp2
    go_ret
    exact ⟨⟨0, rfl, Or.inl ⟨hl0, rfl⟩⟩, hg0⟩
  · intro x c w1 hwx hlx hg1 hen
    have HX : Hid (Maps.has D (.int .u8 x) = true ∧ (Lit.int .u8 x).wf = true) := ⟨hlx, hwx⟩
    clear hwx hlx
    go_wp2
    go_ret
    exact ⟨⟨x, rfl, Or.inr HX⟩, hg0.andThen hg1 (fun j hj => by cases hj; exact Or.inl (Nat.le_refl _))⟩

/-- 'v, ok := m[k]' on such a map, the element's shape written out. -/
theorem look_fam (w : World) {ops : Array Oper} {rest : List Oper} {o : Oper} {a : Act} {Q : Exit → Act → World → Prop} (hg : o.guard = none) (m x : Operand) (hop : o.op = Op.lookup 55 m x true)
    (b n : Nat) (D : DataW Unit) (hm : a.eval m = .map (some b)) (hown : w.ownsMap Yba.prog 54 addrElem b n D) (key : Int) (hx : a.eval x = .int .u8 key) (hwk : (Lit.int .u8 key).wf = true) (hh : Maps.has D (.int .u8 key) = true)
    (hK : ∀ (h l : Int) (p : Option Addr), wpList Yba.prog ops Q rest (a.put o.dst (.tuple #[.agg #[.int .u64 h, .int .u64 l, .pointer p], .bool true])) w) :
    wpList Yba.prog ops Q (o :: rest) a w :=
  wpList_lookup_own_ok w hg m x 55 hop 54 35 law54 Yba.underlying55 addrElem (zero35 w) (.agg []) [] (addrElem_mk 0 0 none) b n D hm hown (.int .u8 key) (.int .u8 key) hx (keyOf_int_mk Yba.underlying54 hwk) (fun v ps hv => by
    obtain ⟨h, l, p, rfl⟩ := addrElem_inv hv
    rw [hh]
    exact hK h l p)

end Go.Proofs.Ybulkanco.lawS1938BMember
