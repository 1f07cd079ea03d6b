/-
  THE PROOF of 'Rows.LawS1938BMemberSaid' (session.LawS1938BMember): the frame is the guide's shell; the walk is ours.
-/
import Derived.Test.YbulkancoRows
import Derived.Test.YbulkancoOnly
import Derived.WalkKit
import Derived.ProofKit
import Derived.OpenShut
import Derived.ShutString
import Derived.ChangeOld
import Derived.Below
namespace Go.Proofs.Ybulkanco.lawS1938BMember
open Go.ChangeShapes Go.WideShapes Go.ChangeAt Go.RowKit
open Go.ChangeMaps (open_string shut_string)
set_option linter.unusedVariables false

theorem own : ownKnob Yba.prog.godebug = none := by kernel_rfl
theorem laidOut : laidOutB Yba.prog = true := by kernel_rfl

/-- WHAT THE WALK IS TOLD OF A SLICE OF INTEGERS THAT CAME IN: it is nil; or it leads to a row of 'cap' cells, the numbers 'zs' (the first 'len' are its elements, the rest its spare room), each fitting its kind. -/
def IsRow (k : IntKind) (w : World) (a : Option Addr) (len cap : Nat) (zs : List Int) : Prop :=
  (a = none ∧ len = 0 ∧ cap = 0 ∧ zs = []) ∨
  ∃ x, a = some x ∧ len ≤ cap ∧ cap ≤ maxLen ∧ zs.length = cap ∧ (∀ i, i < zs.length → w.cell? (x.add i) = some (.int k (zs.getD i 0))) ∧ ∀ n ∈ zs, (Lit.int k n).wf = true

/-! ### STEP 1: THE WALK: the Go text returns true, AND WRITES NOTHING THAT WAS THERE: 'Below w.heap.size w w'' (Derived/Below.lean: '.refl', '.alloc', '.drew', '.setCell' at a new block, '.trans'). Open each 'IsRow' by 'rcases' AHEAD of 'go_enter'; part every test ahead of the walk. -/
set_option maxHeartbeats 1600000 in
theorem walk (a0 : Option Addr) (len0 cap0 : Nat) (z0 : List Int) (a1 : Bool) (w : World) (w0 : IsRow .u8 w a0 len0 cap0 z0) :
    Calls Yba.prog 5 #[.slice a0 len0 cap0, .bool a1] w fun e w' => e = .returned (.bool true) ∧ Below w.heap.size w w' := by
  have hmm := @run_makeMap Yba.prog
  by_cases hl : len0 ≤ 1024
  · by_cases hp : len0 = 0
    · subst hp
      clear w0
      cases a1
      · go_enter Yba.func5, Yba.ntmps5
        go_wp2_with fail
        refine wp_loop_rounds 1 ?_
        rw [rounds_succ]
        go_wp2_with fail
        refine (only_any w.heap.size 0 (.map []) _ (World.ownsMap_made _ _ _ _)).mono ?_
        rintro e w' ⟨⟨x, rfl, hx⟩, hg⟩
        rcases hx with ⟨_, rfl⟩ | ⟨hx, _⟩
        · go_wp2
          go_ret
          exact ⟨rfl, ((Below.refl _ _).alloc (Nat.le_refl _) _).grown hg (by simp) (fun j hj => by cases hj)⟩
        · simp [Maps.has] at hx
      · go_enter Yba.func5, Yba.ntmps5
        go_wp2_with fail
        refine wp_loop_rounds 1 ?_
        rw [rounds_succ]
        go_wp2_with fail
        refine (only_nil w).mono ?_
        rintro e w' ⟨rfl, hg⟩
        go_wp2
        go_ret
        exact ⟨rfl, (Below.refl _ _).grown hg (Nat.le_refl _) (fun j hj => by cases hj)⟩
    · rcases w0 with ⟨rfl, rfl, rfl, rfl⟩ | ⟨p, rfl, hlc, hcm, hzl, hcell, hwf⟩
      · omega
      obtain ⟨b, off, rfl, hc⟩ := ints_at hcell (by omega)
      have hb : b < w.heap.size := World.block_lt_of_cell? w ⟨b, off + 0, none⟩ (hc 0 (by omega))
      have hne : ((len0 : Int) == 0) = false := beq_eq_false_iff_ne.2 (by omega)
      clear hcell
      have main : ∀ (u : Bool), Calls Yba.prog 5 #[.slice (some ⟨b, off, none⟩) len0 cap0, .bool u] w fun e w' => e = .returned (.bool true) ∧ Below w.heap.size w w' := by
        intro u
        have hu : (u && ((len0 : Int) == 0)) = false := by rw [hne, Bool.and_false]
        cases u
        all_goals
          go_enter Yba.func5, Yba.ntmps5
          go_wp2
          go_loopw [6] (fun i wr => ∃ (k : Nat) (D : DataW Unit), k ≤ len0 ∧ i = .int .i64 k ∧ wr.ownsMap Yba.prog 54 addrElem w.heap.size k D ∧ (0 < k → ∃ kl, Maps.has D kl = true) ∧ Below w.heap.size w wr) (fun i _ => len0 - (intOf i).toNat)
          case atStart => exact ⟨0, .map [], Nat.zero_le _, rfl, World.ownsMap_made _ _ _ _, fun h => by omega, (Below.refl _ _).alloc (Nat.le_refl _) _⟩
          case round =>
            obtain ⟨k, D, hk, rfl, hown, hsome, hnx⟩ := hrel
            by_cases hlt : k < len0
            · have hcx : wr.cell? ⟨b, off + k, none⟩ = some (.int .u8 (z0.getD k 0)) := (hnx.cell (by exact hb)).trans (hc k (by omega))
              have hkey : keyOf Yba.prog 54 (.int .u8 (z0.getD k 0)) = some (.int .u8 (z0.getD k 0)) := Maps.keyOf_int_mk Yba.underlying54 (hwf _ (by rw [List.getD_eq_getElem?_getD, List.getElem?_eq_getElem (by omega)]; simp))
              obtain ⟨z, hz⟩ : ∃ z, z = z0.getD k 0 := ⟨_, rfl⟩
              rw [← hz] at hcx hkey
              clear hz
              have HS : Hid (0 < k → ∃ kl, Maps.has D kl = true) := hsome
              clear hsome
              go_wp2_with (first
                | (at_mapUpdate; refine wpList_mapUpdate_own _ rfl _ _ _ 55 rfl 54 35 law54 Yba.underlying55 addrElem w.heap.size k _ rfl hown (by unfold maxLen; omega) _ _ _ rfl rfl hkey _ [] (addrElem_mk 0 0 none) ?_; intro w1 hown1 hgrow1)
                | go_in)
              go_roundw
              case rel => exact ⟨k + 1, _, by omega, by go_num, hown1, fun _ => ⟨.int .u8 z, Maps.has_put_same (k := .int .u8 z) hown.isMap trivial _⟩, hnx.grown hgrow1 hnx.size (fun j hj => by cases hj; exact Nat.le_refl _)⟩
              case measure => simp [intOf]; omega
            · obtain rfl : k = len0 := by omega
              obtain ⟨kl, hkl⟩ := hsome (by omega)
              have HK : Hid (Maps.has D kl = true) := hkl
              clear hkl
              go_wp2_with fail
              refine (only_any w.heap.size k D wr hown).mono ?_
              rintro e w' ⟨⟨x, rfl, hx⟩, hg⟩
              rcases hx with ⟨hx, _⟩ | ⟨hx, hwx⟩
              · rw [hx kl] at HK
                exact absurd HK.out (by simp)
              · have hown2 := hown.kept hg (by simp)
                go_wp2_with (first
                  | (at_lookup; refine look_fam _ rfl _ _ rfl w.heap.size k D rfl hown2 x rfl hwx hx ?_; intro ah al ap))
                go_ret
                exact ⟨rfl, (hnx.grown hg hnx.size (fun j hj => by cases hj)).alloc (Nat.le_trans hnx.size hg.size) _⟩
      exact main a1
  · go_enter Yba.func5, Yba.ntmps5
    go_wp2
    go_ret
    exact ⟨rfl, Below.refl _ _⟩

/-! ### THE ROW's STEP: WRITTEN OUT: LEAVE IT -/
set_option maxRecDepth 100000 in
theorem lifted (os : Os) (started : os.Started) (H : Type) (enc : TypeId × Value → H) :
    ReturnsInHanded {} Yba.checked os 5 .any (Rows.lawS1938BMemberSpec.pre6 enc Yba.prog Yba.f5 Rows.lawS1938BMemberRow.domain false) (Rows.lawS1938BMemberSpec.post enc Yba.prog Yba.f5 false true false false) := by
  refine returnsInHanded_of_change (C := Yba.checked) own started (by kernel_rfl) Yba.func5
    (ChangeSpec.witness6 (enc := enc) (C := Yba.checked) false ⟨#[], #[.slice none 0 0, .bool false], []⟩ 8 (by kernel_rfl) (by kernel_rfl) (by kernel_rfl) (by kernel_rfl)) ?_
  intro W base args ds gs before hval0 hW hcnd _
  have hval : ∀ (j : Nat) t v, Yba.f5.params[j]? = some t → args[j]? = some v → Value.okWide Yba.prog W .any base t v := hval0
  have hW' := hW
  obtain ⟨p, q, hA0, hV, rfl, hfz, hnd⟩ := hW
  have hA : DataW.TrodAll enc Yba.prog W 0 (fun _ => true) true Yba.f5.params.toList args.toList ds p := hA0
  rw [Yba.params5] at hA hval
  obtain ⟨v0, vs0, d0, ds0, p0, q0, hargs, rfl, rfl, h0, r0⟩ := trodAll_cons hA
  obtain ⟨v1, vs1, d1, ds1, p1, q1, rfl, rfl, rfl, h1, r1⟩ := trodAll_cons r0
  obtain ⟨rfl, rfl, rfl⟩ := trodAll_nil r1
  obtain rfl : args = #[v0, v1] := by cases args; simp_all
  obtain ⟨rfl, rfl⟩ := trodVars_none hV
  obtain ⟨a0, len0, cap0, rfl⟩ := okWide_slice Yba.underlying23 (hval 0 23 v0 rfl rfl)
  have k0 := h0
  have lt0 : ∀ x ∈ p0, x.block < W.heap.size := by obtain ⟨m, hm⟩ := k0; exact DataW.trod_lt m _ _ _ hm
  obtain ⟨z0, w0⟩ : ∃ zs, IsRow .u8 W a0 len0 cap0 zs := by
    obtain ⟨fuel, hf⟩ := h0
    rcases open_ints Yba.underlying23 Yba.underlying5 (by kernel_rfl) hf with ⟨hcs, _⟩ | ⟨x, l, c, zs, hcs, _, hl, hm, hz, _, hcell, hwz⟩
    · simp [Value.cells] at hcs
      obtain ⟨rfl, rfl, rfl⟩ := hcs
      exact ⟨[], .inl ⟨rfl, rfl, rfl, rfl⟩⟩
    · simp [Value.cells] at hcs
      obtain ⟨rfl, rfl, rfl⟩ := hcs
      exact ⟨zs, .inr ⟨_, rfl, hl, hm, by simpa using hz, hcell, hwz⟩⟩
  obtain ⟨a1, rfl, rfl, rfl⟩ := open_bool Yba.underlying4 (hval 1 4 v1 rfl rfl) h1
  clear hA0 hval0
  refine (walk a0 len0 cap0 z0 a1 W w0).mono fun e W' ⟨he, bel⟩ => ?_
  subst he
  exact ⟨_, rfl, _, _, _, [], _, [], hW', trodAll_mk1 (shut_bool Yba.underlying4 _), (trodAll_cons_mk (Below.trod laidOut (by kernel_rfl) (of_decide_eq_true (by kernel_rfl)) k0 bel lt0) (trodAll_cons_mk (shut_bool Yba.underlying4 _) trodAll_mk0)), rfl, bel.frame _, fun h => by cases h⟩

theorem over : Rows.lawS1938BMemberRow.holds Yba.pinned (OpenSpec.ofChange Rows.lawS1938BMemberSpec) :=
  OpenClaim.holds_of_wide 5 Yba.f5 rfl rfl rfl rfl rfl rfl rfl ⟨rfl, rfl, rfl, rfl, rfl⟩ rfl rfl rfl rfl rfl (by kernel_rfl) Yba.func5 (by kernel_rfl)
    (of_decide_eq_true (by kernel_rfl)) (by unfold Func.isWrapper; first | (rw [if_pos (by decide +kernel)]; kernel_rfl) | (rw [if_neg (by decide +kernel)]; exact ⟨rfl, rfl⟩))
    (fun os started H enc _ => lifted os started H enc)

/-- ████ THE STATEMENT ████ -/
theorem proved : Rows.LawS1938BMemberSaid := over
end Go.Proofs.Ybulkanco.lawS1938BMember
