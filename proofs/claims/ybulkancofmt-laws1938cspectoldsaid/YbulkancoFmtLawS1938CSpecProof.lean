/-
  THE PROOF of 'Rows.LawS1938CSpecToldSaid': the law's walk out of its ways, the row's step, the told and tied card.
-/
import Derived.Test.YbulkancoFmtWays
import Derived.Test.YbulkancoFmtTie
import Derived.Test.YbulkancoFmtCards
import Derived.ProofKit
import Derived.LaidMore
import Derived.ShutString
import Derived.ChangeOld
import Derived.OpenVars
import Derived.Stop.Joined
import Derived.Stop.JoinedTold
import Derived.Deep.DeepWitnessRef
import Derived.SevenTiedAt
namespace Go.Proofs.YbulkancoFmt
open Go.ChangeShapes Go.WideShapes Go.ChangeAt Go.RowKit Go.WideMaps Go.WideElems
set_option linter.unusedVariables false

theorem own : ownKnob Ybaf.prog.godebug = none := by kernel_rfl
theorem laidOut : laidOutB Ybaf.pinned.checked.prog = true := by kernel_rfl

/-- WHAT THE WALK IS TOLD OF A SLICE OF INTEGERS THAT CAME IN (the shell's own word). -/
def IsRow (k : IntKind) (w : World) (a : Option Addr) (len cap : Nat) (zs : List Int) : Prop :=
  (a = none ∧ len = 0 ∧ cap = 0 ∧ zs = []) ∨
  ∃ x, a = some x ∧ len ≤ cap ∧ cap ≤ maxLen ∧ zs.length = cap ∧ (∀ i, i < zs.length → w.cell? (x.add i) = some (.int k (zs.getD i 0))) ∧ ∀ n ∈ zs, (Lit.int k n).wf = true

set_option maxHeartbeats 400000 in
theorem walk (t : Int) (a : Option Addr) (len cap : Nat) (zs : List Int) (w : World) (ht : (Lit.int .u8 t).wf = true) (hr : IsRow .u8 w a len cap zs) (hN : Named w) :
    Calls Ybaf.prog 3 #[.int .u8 t, .slice a len cap] w fun e w' => e = .returned (.bool true) ∧ Below w.heap.size w w' := by
  by_cases h0 : len = 0
  · subst h0
    clear hr hN
    go_enter Ybaf.func3, Ybaf.ntmps3
    go_wp2
    go_ret
    exact ⟨rfl, Below.refl _ _⟩
  by_cases hl : len ≤ 1024
  · rcases hr with ⟨_, h, _⟩ | ⟨p, rfl, hlc, hcm, hzl, hcell, hwf⟩
    · exact absurd h h0
    obtain ⟨b, off, rfl, hc⟩ := ints_at hcell (by omega)
    have hz := range_u8 hwf 0
    rw [← List.getD_eq_getElem?_getD] at hz
    by_cases hbig : (len : Int) - 1 < zs.getD 0 0 ∨ (zs.getD 0 0 ≤ (len : Int) - 1 ∧ 4 ≤ zs.getD 0 0)
    · exact law_past t b off len cap zs w ht hN (by omega) hl (by omega) (fun i hi => hc i (by omega)) hz hbig
    · exact law_ok t b off len cap (zs.getD 0 0).toNat zs w (by omega) hl (by omega) (fun i hi => hc i (by omega)) (by omega) (by omega) (by omega)
  · clear hr hN
    go_enter Ybaf.func3, Ybaf.ntmps3
    go_wp2
    go_ret
    exact ⟨rfl, Below.refl _ _⟩

/-! ### THE LISTED VARIABLE -/
def nm : String := Rows.lawS1938CSpecSpec.vars.getD 0 ""
def laid1 : List (String × DataW Unit) := Rows.lawS1938CSpecRow.laid
theorem gN : Ybaf.prog.globalNamed nm = some 0 := by kernel_rfl
theorem tN : (Ybaf.prog.globals[0]?).map (·.type) = some 47 := by kernel_rfl

theorem named_of_laid {W : World} (h : laidMetH Ybaf.prog laid1 W) : Named W := by
  rw [MakeChecks.laidMetH_plain _ _ _ (by kernel_rfl)] at h
  have h' : laidMet Ybaf.prog ((nm, Rows.laid_example_com_crosslane_crosslane_eap_attributeNames) :: []) W := h
  obtain ⟨ps, ⟨g0, t0, cs0, f0, p0, q0, hg0, ht0, hv0, hd0, _, _⟩, _, _⟩ := h'
  obtain rfl := Option.some.inj (gN.symm.trans hg0)
  obtain rfl := Option.some.inj (tN.symm.trans ht0)
  rcases open_map Ybaf.underlying47 hd0 with ⟨_, hx⟩ | ⟨bm, es, clock, m, rfl, hcs, hb, _, F, hx⟩
  · simp [Rows.laid_example_com_crosslane_crosslane_eap_attributeNames] at hx
  have hcell : W.cell? ⟨0, 0, none⟩ = some (.map (some bm)) := by
    have := World.var?_cell hg0 hv0 0
    rw [Array.eq_one_of_toList hcs] at this
    simpa using this
  exact ⟨bm, _, _, hcell, World.ownsMap_of_fit (R := plainElem Ybaf.prog 9) hb F (fun x _ z hz => elemAt_plainElem_string Ybaf.underlying9 hz)⟩

/-- The door's own heap meets the condition: three closed facts. -/
theorem door_met (os : Os) (args : Array Value) : laidMetH Ybaf.prog laid1 ((World.doorLaid Ybaf.prog 400 os).forCall (fun _ _ => 0) ⟨#[], args, []⟩).memory :=
  laidMetH_of_parts3 (fuel := 8) (laidMet_of_run' 8 (by kernel_rfl) (by kernel_rfl)) (by kernel_rfl) (by kernel_rfl)

abbrev spc : OpenSpec := OpenSpec.ofChange Rows.lawS1938CSpecSpec

set_option maxRecDepth 100000 in
theorem lifted (os : Os) (started : os.Started) (H : Type) (enc : TypeId × Value → H) :
    ReturnsInTold none {} Ybaf.checked os 3 .any Input.okWide (spc.preRow enc Ybaf.prog Ybaf.f3 [] false laid1) (fun F => (spc.at F).post enc Ybaf.prog Ybaf.f3 false true false false) (aloneAtReturn Ybaf.prog) nothingAlways := by
  refine returnsInTold_of_row (C := Ybaf.checked) (s := spc) (by kernel_rfl) own started (by kernel_rfl) Ybaf.func3
    (OpenSpec.witness_stopped_atRef (enc := enc) (C := Ybaf.checked) false (World.doorLaid Ybaf.prog 400 os) #[.int .u8 0, .slice none 0 0] rfl (by kernel_rfl) (by kernel_rfl) (by kernel_rfl)
      (OpenSpec.preRow_of_B rfl 8 (by kernel_rfl) (by kernel_rfl) (door_met os _))) ?_
  intro F W base args ds gs before _ hF hval0 hW _ _ _ hL _
  have hval : ∀ (j : Nat) t v, Ybaf.f3.params[j]? = some t → args[j]? = some v → Value.okWide Ybaf.prog W .any base t v := hval0
  have hW' := hW
  obtain ⟨p, q, hA0, hV0, rfl, hfz, hnd⟩ := hW
  have hA : DataW.TrodAll enc Ybaf.prog W 0 (fun _ => true) true Ybaf.f3.params.toList args.toList ds p := hA0
  have hV : DataW.TrodVars enc Ybaf.prog W (fun _ => true) [nm] gs q := hV0
  rw [Ybaf.params3] at hA hval
  obtain ⟨v0, vs0, d0, ds0, p0, q0, hargs, rfl, rfl, h0, r0⟩ := trodAll_cons hA
  obtain ⟨v1, vs1, d1, ds1, p1, q1, rfl, rfl, rfl, h1, r1⟩ := trodAll_cons r0
  obtain ⟨rfl, rfl, rfl⟩ := trodAll_nil r1
  obtain rfl : args = #[v0, v1] := by cases args; simp_all
  obtain ⟨x, rfl, rfl, rfl, wx⟩ := open_int Ybaf.underlying5 (hval 0 5 v0 rfl rfl) h0
  obtain ⟨a1, len1, cap1, rfl⟩ := okWide_slice Ybaf.underlying22 (hval 1 22 v1 rfl rfl)
  have k1 := h1
  have lt1 : ∀ z ∈ p1, z.block < W.heap.size := by obtain ⟨m, hm⟩ := k1; exact DataW.trod_lt m _ _ _ hm
  obtain ⟨z1, w1⟩ : ∃ zs, IsRow .u8 W a1 len1 cap1 zs := by
    obtain ⟨fuel, hf⟩ := h1
    rcases open_ints Ybaf.underlying22 Ybaf.underlying5 (by kernel_rfl) hf with ⟨hcs, _⟩ | ⟨x, l, c, zs, hcs, _, hl, hm, hz, _, hcell, hwz⟩
    · simp [Value.cells] at hcs
      obtain ⟨rfl, rfl, rfl⟩ := hcs
      exact ⟨[], .inl ⟨rfl, rfl, rfl, rfl⟩⟩
    · simp [Value.cells] at hcs
      obtain ⟨rfl, rfl, rfl⟩ := hcs
      exact ⟨zs, .inr ⟨_, rfl, hl, hm, by simpa using hz, hcell, hwz⟩⟩
  obtain ⟨g, t, cs, fuel, d, p', hgs, _, _, _, _, _⟩ := trodVars_one hV
  subst hgs
  clear hA0 hV0 hval0
  refine (walk x a1 len1 cap1 z1 W wx w1 (named_of_laid hL)).mono fun e W' ⟨he, bel⟩ => ?_
  subst he
  exact ⟨_, rfl, _, _, _, [], _, _, hW', trodAll_mk1 (shut_bool Ybaf.underlying4 _), (trodAll_cons_mk (shut_int Ybaf.underlying5 wx) (trodAll_cons_mk (Below.trod laidOut (by kernel_rfl) (of_decide_eq_true (by kernel_rfl)) k1 bel lt1) trodAll_mk0)), Below.trodVars laidOut bel (by kernel_rfl) hV, bel.frame _, fun h => by cases h⟩

theorem stops1 : Ybaf.pinned.checked.prog.stops = Rows.lawS1938CSpecRow.stops := by kernel_rfl
theorem stopKnobs1 : Ybaf.pinned.checked.prog.stopKnobs = [] := by kernel_rfl
theorem quiet1 (os : Os) : Stop.quiet Ybaf.pinned.checked.prog os := by
  intro k hk
  rw [stopKnobs1] at hk
  cases hk

/-- ████ THE STATEMENT: THE TOLD AND TIED CARD ████ -/
theorem proved : Rows.LawS1938CSpecToldSaid :=
  Claim7.holds_of_told_tied_any_at .later 3 Ybaf.f3 (Rows.lawS1938CSpecRow.stops.getD 0 "") [] [] Rows.lawS1938CSpecCard.stood.harness true false [.mapped] true
    (by kernel_rfl) rfl rfl rfl laidOut (by kernel_rfl) rfl ⟨rfl, rfl, rfl, rfl, rfl, rfl, rfl⟩ rfl rfl (by kernel_rfl) (by kernel_rfl) Ybaf.func3 (by kernel_rfl)
    (of_decide_eq_true (by kernel_rfl)) (by unfold Func.isWrapper; first | (rw [if_pos (by decide +kernel)]; kernel_rfl) | (rw [if_neg (by decide +kernel)]; exact ⟨rfl, rfl⟩)) stops1.symm rfl stopKnobs1.symm (by kernel_rfl)
    (by kernel_rfl) (by kernel_rfl) (by kernel_rfl) (by kernel_rfl) (by kernel_rfl) (by kernel_rfl) (by kernel_rfl) (by kernel_rfl) (by kernel_rfl) rfl (by kernel_rfl) rfl rfl
    rfl rfl
    rfl (by kernel_rfl) (by kernel_rfl) (by kernel_rfl) (by kernel_rfl) (by kernel_rfl) lawS1938CSpec_row_tie
    (OpenClaim.moreEntering_of (by kernel_rfl) (by kernel_rfl) (by kernel_rfl) (by kernel_rfl) (by kernel_rfl) (by kernel_rfl) (by kernel_rfl) (by kernel_rfl) (by kernel_rfl) (by kernel_rfl))
    ⟨_, WideRow.started_initial, quiet1 _⟩
    (fun os started _ H enc _ => lifted os started H enc)
end Go.Proofs.YbulkancoFmt
