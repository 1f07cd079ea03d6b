/-
  THE PROOF of 'Rows.LawS1935AModelCardSaid': the law's own walk, the row, the tied card.
-/
import Derived.Test.YbulkanayDoorSet
import Derived.Test.YbulkanayDoorTie
import Derived.Test.YbulkanayDoorCards
import Derived.ProofKit
import Derived.LaidMore
import Derived.ShutString
import Derived.ChangeOld
import Derived.Stop.Joined
import Derived.Lib.LaidTab
import Derived.SevenTiedAt
namespace Go.Proofs.YbulkanayDoor
open Go.ChangeShapes Go.WideShapes Go.ChangeAt Go.RowKit
set_option linter.unusedVariables false

theorem own : ownKnob Ybad.prog.godebug = none := by kernel_rfl
theorem laidOut : laidOutB Ybad.prog = true := by kernel_rfl

/-! ### THE LAW's OWN WALK -/
set_option maxHeartbeats 400000 in
theorem walk (x : Int) (a : Option Addr) (len cap : Nat) (zs : List Int) (w : World) (hx : 0 ≤ x ∧ x < 18446744073709551616) (hr : IsRow .u8 w a len cap zs) (hm : len ≤ 9223372036854775807) (hg : Starts w) :
    Calls Ybad.prog 3 #[.int .u64 x, .slice a len cap] w fun e w' => e = .returned (.bool true) ∧ Below w.heap.size w w' := by
  by_cases hl : len ≤ 1024
  · have HR : Hid (IsRow .u8 w a len cap zs) := hr
    have HG : Hid (Starts w) := hg
    clear hr hg
    go_enter Ybad.func3, Ybad.ntmps3
    go_wp2_with fail
    refine (build_any x a len cap zs w hx HR.out hl).mono ?_
    rintro e w' ⟨⟨y, rfl, hy⟩, rfl⟩
    go_wp2_with fail
    refine (setString_any y _ hy HG.out).mono ?_
    rintro e w1 ⟨rfl, hb1⟩
    go_wp2_with fail
    refine (expect_any y _ hy).mono ?_
    rintro e w2 ⟨rfl, hb2⟩
    go_wp2
    go_ret
    exact ⟨rfl, hb1.trans (hb2.mono hb1.size)⟩
  · go_enter Ybad.func3, Ybad.ntmps3
    go_wp2
    go_ret
    exact ⟨rfl, Below.refl _ _⟩

/-! ### THE LISTED VARIABLE -/
def nm : String := Rows.lawS1935AModelSpec.vars.getD 0 ""
def laid1 : List (String × DataW Unit) := Rows.lawS1935AModelRow.laid
def cells5 : Array Value := #[.int .u8 0, .int .u8 9, .int .u8 18, .int .u8 27, .int .u8 34]
abbrev tabH {H : Type} : DataW H := .agg [.lit (.int .u8 0), .lit (.int .u8 9), .lit (.int .u8 18), .lit (.int .u8 27), .lit (.int .u8 34)]
theorem gN : Ybad.prog.globalNamed nm = some 0 := by kernel_rfl
theorem tN : (Ybad.prog.globals[0]?).map (·.type) = some 35 := by kernel_rfl
theorem c35 : Ybad.prog.cellsOf 35 = 5 := by kernel_rfl
theorem c32 : Ybad.prog.cellsOf 32 = 1 := by kernel_rfl
theorem reads_tab {H : Type} (enc : TypeId × Value → H) (W : World) (sp : Nat → Bool) : DataW.trod enc Ybad.prog W 0 sp true 3 35 cells5.toList = some (tabH, []) := by kernel_rfl

theorem tab_of_laid {W : World} (h : laidMetH Ybad.prog laid1 W) : W.var? Ybad.prog nm = some cells5 := by
  rw [MakeChecks.laidMetH_plain _ _ _ (by kernel_rfl)] at h
  have h' : laidMet Ybad.prog ((nm, Lib.tabData .u8 [0, 9, 18, 27, 34]) :: []) W := h
  exact Lib.tabIs_of_head gN tN Ybad.underlying35 Ybad.underlying32 c32 c35 h'

theorem starts_of_var {W : World} (h : W.var? Ybad.prog nm = some cells5) : Starts W := by
  have hc : ∀ i, W.cell? ⟨0, i, none⟩ = cells5[i]? := fun i => World.var?_cell gN h i
  refine ⟨fun s hs => ?_, by rw [hc]; rfl⟩
  rw [hc]
  match s, hs with
  | 0, _ => rfl
  | 1, _ => rfl
  | 2, _ => rfl
  | 3, _ => rfl

/-- The door's own heap meets the condition: three closed facts. -/
theorem door_met (os : Os) (args : Array Value) : laidMetH Ybad.prog laid1 ((World.doorLaid Ybad.prog 400 os).forCall (fun _ _ => 0) ⟨#[], args, []⟩).memory :=
  laidMetH_of_parts3 (fuel := 8) (laidMet_of_run' 8 (by kernel_rfl) (by kernel_rfl)) (by kernel_rfl) (by kernel_rfl)

set_option maxRecDepth 100000 in
theorem lifted (os : Os) (started : os.Started) (H : Type) (enc : TypeId × Value → H) :
    ReturnsInHanded {} Ybad.checked os 3 .any (fun w args => (Rows.lawS1935AModelSpec.pre enc Ybad.prog Ybad.f3 [] false w args ∧ laidMetH Ybad.prog laid1 w) ∧ sizedMet enc Ybad.prog Ybad.f3 (OpenSpec.ofChange Rows.lawS1935AModelSpec) false w args)
      (Rows.lawS1935AModelSpec.post enc Ybad.prog Ybad.f3 false true false false) := by
  refine returnsInHanded_of_change_and (C := Ybad.checked) (X := fun w _ => laidMetH Ybad.prog laid1 w) (fun _ _ _ hh h => h.of_heap hh) own started (by kernel_rfl) Ybad.func3
    (ChangeSpec.witness_shaped (enc := enc) (C := Ybad.checked) (os := os) (X := fun w _ => laidMetH Ybad.prog laid1 w) false (World.doorLaid Ybad.prog 400 os) #[.int .u64 0, .slice none 0 0] 8 rfl (World.shaped_of_RefB (by kernel_rfl) (by kernel_rfl)) (by kernel_rfl) (by kernel_rfl) (by kernel_rfl) (door_met os _)) ?_
  intro W base args ds gs before hval0 hW _ _ hL _
  have hval : ∀ (j : Nat) t v, Ybad.f3.params[j]? = some t → args[j]? = some v → Value.okWide Ybad.prog W .any base t v := hval0
  have hW' := hW
  obtain ⟨p, q, hA0, hV0, rfl, hfz, hnd⟩ := hW
  have hA : DataW.TrodAll enc Ybad.prog W 0 (fun _ => true) true Ybad.f3.params.toList args.toList ds p := hA0
  have hV : DataW.TrodVars enc Ybad.prog W (fun _ => true) [nm] gs q := hV0
  rw [Ybad.params3] at hA hval
  obtain ⟨v0, vs0, d0, ds0, p0, q0, hargs, rfl, rfl, h0, r0⟩ := trodAll_cons hA
  obtain ⟨v1, vs1, d1, ds1, p1, q1, rfl, rfl, rfl, h1, r1⟩ := trodAll_cons r0
  obtain ⟨rfl, rfl, rfl⟩ := trodAll_nil r1
  obtain rfl : args = #[v0, v1] := by cases args; simp_all
  obtain ⟨x, rfl, rfl, rfl, wx⟩ := open_int Ybad.underlying22 (hval 0 22 v0 rfl rfl) h0
  obtain ⟨a1, len1, cap1, rfl⟩ := okWide_slice Ybad.underlying23 (hval 1 23 v1 rfl rfl)
  have k1 := h1
  have lt1 : ∀ z ∈ p1, z.block < W.heap.size := by obtain ⟨m, hm⟩ := k1; exact DataW.trod_lt m _ _ _ hm
  obtain ⟨z1, w1, hm1⟩ : ∃ zs, IsRow .u8 W a1 len1 cap1 zs ∧ len1 ≤ 9223372036854775807 := by
    obtain ⟨fuel, hf⟩ := h1
    rcases open_ints Ybad.underlying23 Ybad.underlying5 (by kernel_rfl) hf with ⟨hcs, _⟩ | ⟨x, l, c, zs, hcs, _, hl, hm, hz, _, hcell, hwz⟩
    · simp [Value.cells] at hcs
      obtain ⟨rfl, rfl, rfl⟩ := hcs
      exact ⟨[], .inl ⟨rfl, rfl, rfl, rfl⟩, by omega⟩
    · simp [Value.cells] at hcs
      obtain ⟨rfl, rfl, rfl⟩ := hcs
      exact ⟨zs, .inr ⟨_, rfl, hl, hm, by simpa using hz, hcell, hwz⟩, by unfold maxLen at hm; omega⟩
  obtain ⟨g, t, cs, fuel, d, p', rfl, hg, ht, hvar, hd, rfl⟩ := trodVars_one hV
  obtain rfl := Option.some.inj (gN.symm.trans hg)
  obtain rfl := Option.some.inj (tN.symm.trans ht)
  obtain rfl : cs = cells5 := Option.some.inj (hvar.symm.trans (tab_of_laid hL))
  obtain ⟨rfl, rfl⟩ := DataW.Trod.unique (v := .agg cells5) ⟨fuel, hd⟩ ⟨3, reads_tab enc W _⟩
  have hpos : 0 < W.heap.size := World.block_lt_of_cell? W ⟨0, 4, none⟩ (starts_of_var hvar).2
  clear hA0 hV0 hval0
  refine (walk x a1 len1 cap1 z1 W (by have := bounds_u64 wx; omega) w1 hm1 (starts_of_var hvar)).mono fun e W' ⟨he, bel⟩ => ?_
  subst he
  have hvars : ∀ sp : Nat → Bool, DataW.TrodVars enc Ybad.prog W' sp [nm] [tabH] (MemPlace.row ⟨0, 0, none⟩ cells5.size ++ []) := fun sp =>
    trodVars_mk1 (fuel := 3) gN tN (var?_below bel gN hpos hvar) (reads_tab enc W' sp)
  exact ⟨_, rfl, _, _, _, [], _, _, hW', trodAll_mk1 (shut_bool Ybad.underlying4 _), (trodAll_cons_mk (shut_int Ybad.underlying22 wx) (trodAll_cons_mk (Below.trod laidOut (by kernel_rfl) (of_decide_eq_true (by kernel_rfl)) k1 bel lt1) trodAll_mk0)), hvars _, bel.frame _, fun h => by cases h⟩

theorem over : Rows.LawS1935AModelSaid :=
  OpenClaim.holds_of_wide 3 Ybad.f3 rfl rfl rfl rfl rfl rfl rfl ⟨rfl, rfl, rfl, rfl, rfl⟩ rfl rfl rfl rfl rfl (by kernel_rfl) Ybad.func3 (by kernel_rfl)
    (of_decide_eq_true (by kernel_rfl)) (by unfold Func.isWrapper; first | (rw [if_pos (by decide +kernel)]; kernel_rfl) | (rw [if_neg (by decide +kernel)]; exact ⟨rfl, rfl⟩))
    (fun os started H enc _ => lifted os started H enc)

/-- ████ THE STATEMENT: THE TIED CARD ████ -/
theorem proved : Rows.LawS1935AModelCardSaid :=
  Claim7.holds_tied_plain_at .later [] [.wider] true Rows.lawS1935AModelCard.stood.harness false
    over (fun _ h => by cases h) (by kernel_rfl) (fun _ h => by cases h) lawS1935AModel_row_tie rfl ⟨rfl, rfl⟩ (by kernel_rfl) rfl
    (fun f fn hf hfn => by
      obtain rfl : f = 3 := Option.some.inj ((show Ybad.prog.funcNamed Rows.lawS1935AModelRow.func = some 3 by kernel_rfl).symm.trans hf) |>.symm
      obtain rfl : fn = Ybad.f3 := (Option.some.inj (Ybad.func3.symm.trans hfn)).symm
      exact ⟨by kernel_rfl, fun j t ht => by
        rw [Ybad.params3] at ht
        have hm : t ∈ [22, 23] := by simpa using Array.mem_of_getElem? ht
        have hall : ([22, 23].all fun u => !Ybad.prog.wantsStandIn u) = true := by kernel_rfl
        exact (show Ybad.prog.wantsStandIn t = false by simpa using List.all_eq_true.1 hall t hm)⟩)
    (by kernel_rfl)
end Go.Proofs.YbulkanayDoor
