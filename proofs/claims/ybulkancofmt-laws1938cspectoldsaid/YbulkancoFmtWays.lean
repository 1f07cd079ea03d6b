/-
  THE WALK of 'LawS1938CSpec': the ways on which the call fails, and the way on which it succeeds.
-/
import Derived.Test.YbulkancoFmtRead
import Derived.Lib.SliceRun
import Derived.Maps.Range
namespace Go.Proofs.YbulkancoFmt
open Go.RowKit Go.Extern.Stop Go.Stop Go.Extern

theorem assert37 (a : Addr) (w : World) : (Instr.typeAssert (.iface 37 (.pointer (some a))) 34 37 true).run Ybaf.prog w = .ok (.tuple #[.pointer (some a), .bool true]) w := by kernel_rfl

theorem read_err (P V n : Nat) (t : Int) (zs : List Int) (w : World) (ht : (Lit.int .u8 t).wf = true) (h : Named w) (A : Att P V n t zs w) (h0 : 0 < n) (hn : n ≤ 1024) (hz : 0 ≤ zs.getD 0 0 ∧ zs.getD 0 0 ≤ 255)
    (hbig : (n : Int) - 1 < zs.getD 0 0 ∨ (zs.getD 0 0 ≤ (n : Int) - 1 ∧ 4 ≤ zs.getD 0 0)) :
    Calls Ybaf.prog 4 #[.pointer (some ⟨P, 0, none⟩)] w fun e w' =>
      ∃ g, e = .returned (.iface 37 (.pointer (some ⟨g, 0, none⟩))) ∧ w'.cell? ⟨g, 1, none⟩ = some (.int .i64 0) ∧ w.heap.size ≤ g ∧ w.grownBy w' none := by
  rcases hbig with hb | ⟨h1, h2⟩
  · exact read_past P V n t zs w ht h A h0 hn hz hb
  · exact read_four P V n t zs w ht h A h0 hn hz h1 h2

set_option maxHeartbeats 1600000 in
theorem law_past (t : Int) (b off n cap : Nat) (zs : List Int) (w : World) (ht : (Lit.int .u8 t).wf = true) (h : Named w) (h0 : 0 < n) (hn : n ≤ 1024) (hzl : n ≤ zs.length)
    (hc : ∀ i, i < n → w.cell? ⟨b, off + i, none⟩ = some (.int .u8 (zs.getD i 0))) (hz : 0 ≤ zs.getD 0 0 ∧ zs.getD 0 0 ≤ 255) (hbig : (n : Int) - 1 < zs.getD 0 0 ∨ (zs.getD 0 0 ≤ (n : Int) - 1 ∧ 4 ≤ zs.getD 0 0)) :
    Calls Ybaf.prog 3 #[.int .u8 t, .slice (some ⟨b, off, none⟩) n cap] w fun e w' => e = .returned (.bool true) ∧ Below w.heap.size w w' := by
  obtain ⟨i0, hi, hz0, hz1, hz2⟩ := info_parts Ybaf.info5
  have hsz : (Ybaf.prog.info? 5).map (·.size) = some 1 := by rw [hi]; simp [hz1]
  have HS : Hid (_ = _) := hsz
  clear hsz
  have HN : Hid (Named w) := h
  have HC : Hid (∀ i, i < n → w.cell? ⟨b, off + i, none⟩ = some (.int .u8 (zs.getD i 0))) := hc
  have hbl : b < w.heap.size := World.block_lt_of_cell? w ⟨b, off + 0, none⟩ (hc 0 h0)
  clear h hc
  have hnil := fun (w : World) => Lib.run_eql_slice_nil (P := Ybaf.prog) w 22 5 none 0 0 0 0 Ybaf.underlying22
  have has := assert37
  have hne : ((n : Int) == 0) = false := beq_eq_false_iff_ne.2 (by omega)
  obtain ⟨cs, hcs⟩ : ∃ cs, cs = (zs.take n).map (Value.int .u8) := ⟨_, rfl⟩
  have hcl : cs.length = n := by rw [hcs]; simp; omega
  have hcat : ∀ i, i < n → cs[i]? = some (.int .u8 (zs.getD i 0)) := fun i hi => by rw [hcs]; simp [hi, List.getD, show i < zs.length by omega]
  have hone : ∀ v ∈ cs, v.oneCell' = true := by rw [hcs]; exact ints_oneCell .u8 _
  have HAT : Hid (∀ i, i < n → cs[i]? = some (.int .u8 (zs.getD i 0))) := hcat
  have HL : Hid (cs.length = n) := hcl
  have HO : Hid (∀ v ∈ cs, v.oneCell' = true) := hone
  clear hcs hcat hone hcl
  go_enter Ybaf.func3, Ybaf.ntmps3
  go_wp2_with (first
    | (at_make; refine wpList_make_full _ rfl _ _ 22 rfl w.heap.size 5 i0 (.int .u8 0) 1 Ybaf.underlying22 hi hz0 hz1 _ _ _ _ n rfl rfl rfl rfl (by rw [hz2]; omega) (by unfold maxLen; omega) (Nat.le_refl _) ?_; intro w1 hown1 hg1)
    | (refine wpList_copy_whole _ rfl _ _ 22 rfl 5 Ybaf.underlying22 HS.out w.heap.size w.heap.size n n _ rfl hown1 (some ⟨b, off, none⟩) cap rfl cs HL.out (fun _ => ⟨_, rfl, ?ha⟩) HO.out ?_))
  case ha =>
    intro j v hj
    have hj' : j < n := by have := (List.getElem?_eq_some_iff.1 hj).1; rw [HL.out] at this; exact this
    rw [HAT.out j hj'] at hj
    cases hj
    rw [Addr.add_lit]
    exact hg1.cell (HC.out j hj') (by simp)
  intro w2 hown2 hg2
  have HG : Hid (w.grownBy w2 none) := hg1.andThen hg2 (fun j hj => by cases hj; exact Or.inl (Nat.le_refl _))
  have HV : Hid (∀ i, i < n → w2.cell? ⟨w.heap.size, 0 + i, none⟩ = some (.int .u8 (zs.getD i 0))) := fun i hi => by
    have := hown2.cells (g := w.heap.size) rfl i _ (HAT.out i hi)
    rw [Addr.add_lit] at this
    exact this
  have hs2 : w.heap.size < w2.heap.size := (hown2.lt w.heap.size rfl).2
  clear hown1 hown2 hg1 hg2 hi hz0 hz1 hz2 HAT HL HO HS
  go_wp2_with fail
  refine (read_err w2.heap.size w.heap.size n t zs _ ht (named_grown (named_grown HN.out HG.out) (World.grownBy_alloc _ _ none)) ⟨by simp, by simp, fun i hi => (World.cell?_alloc_past _ _ _ hs2).trans (HV.out i hi)⟩ h0 hn hz hbig).mono ?_
  rintro e w3 ⟨g, rfl, hgc, hgs, hg3⟩
  have f1 : w3.cell? ⟨w2.heap.size, 1, none⟩ = some (.slice (some ⟨w.heap.size, 0, none⟩) n n) := hg3.cell (by simp) (by simp)
  have f8 : w3.cell? ⟨w2.heap.size, 8, none⟩ = some (.slice none 0 0) := hg3.cell (by simp) (by simp)
  have HI : Hid (∀ i, i < n → w3.cell? ⟨b, off + i, none⟩ = some (.int .u8 (zs.getD i 0))) := fun i hi => hg3.cell ((World.cell?_alloc_past _ _ _ (by have := hs2; show b < _; omega)).trans (HG.out.cell (HC.out i hi) (by simp))) (by simp)
  have HV3 : Hid (∀ i, i < n → w3.cell? ⟨w.heap.size, 0 + i, none⟩ = some (.int .u8 (zs.getD i 0))) := fun i hi => hg3.cell ((World.cell?_alloc_past _ _ _ hs2).trans (HV.out i hi)) (by simp)
  have HB : Hid (Below w.heap.size w w3) := (((Below.refl _ _).grown HG.out (Nat.le_refl _) (fun j hj => by cases hj)).alloc (by omega) _).grown hg3 (by simp; omega) (fun j hj => by cases hj)
  have hin := HI.out 0 h0
  rw [Nat.add_zero] at hin
  obtain ⟨z, hz'⟩ : ∃ z, z = zs.getD 0 0 := ⟨_, rfl⟩
  rw [← hz'] at hin hz hbig
  clear hz' hg3 hgs HV HC HG
  go_wp2_with fail
  refine (bytes_same _ _ n n cap zs w3 hn (Or.inr ⟨w.heap.size, 0, b, off, rfl, rfl, HV3.out, HI.out⟩)).mono ?_
  rintro e w4 ⟨rfl, q, rfl⟩
  rcases hbig with hb | ⟨hf, h4⟩
  · go_wp2
    go_ret
    exact ⟨rfl, below_drewN HB.out _⟩
  · go_wp2
    go_ret
    exact ⟨rfl, below_drewN HB.out _⟩
set_option maxHeartbeats 1600000 in
theorem law_ok (t : Int) (b off n cap m : Nat) (zs : List Int) (w : World) (h0 : 0 < n) (hn : n ≤ 1024) (hzl : n ≤ zs.length)
    (hc : ∀ i, i < n → w.cell? ⟨b, off + i, none⟩ = some (.int .u8 (zs.getD i 0))) (hz : zs.getD 0 0 = m) (hm : m < 4) (hfit : m + 1 ≤ n) :
    Calls Ybaf.prog 3 #[.int .u8 t, .slice (some ⟨b, off, none⟩) n cap] w fun e w' => e = .returned (.bool true) ∧ Below w.heap.size w w' := by
  obtain ⟨i0, hi, hz0, hz1, hz2⟩ := info_parts Ybaf.info5
  have hsz : (Ybaf.prog.info? 5).map (·.size) = some 1 := by rw [hi]; simp [hz1]
  have HS : Hid (_ = _) := hsz
  clear hsz
  have HC : Hid (∀ i, i < n → w.cell? ⟨b, off + i, none⟩ = some (.int .u8 (zs.getD i 0))) := hc
  have hbl : b < w.heap.size := World.block_lt_of_cell? w ⟨b, off + 0, none⟩ (hc 0 h0)
  clear hc
  have hnil := fun (w : World) (a : Option Addr) (k c : Nat) => Lib.run_eql_slice_nil (P := Ybaf.prog) w 22 5 a k c 0 0 Ybaf.underlying22
  have HZ : Hid (zs.getD 0 0 = m) := hz
  clear hz
  have hne : ((n : Int) == 0) = false := beq_eq_false_iff_ne.2 (by omega)
  obtain ⟨cs, hcs⟩ : ∃ cs, cs = (zs.take n).map (Value.int .u8) := ⟨_, rfl⟩
  have hcl : cs.length = n := by rw [hcs]; simp; omega
  have hcat : ∀ i, i < n → cs[i]? = some (.int .u8 (zs.getD i 0)) := fun i hi => by rw [hcs]; simp [hi, List.getD, show i < zs.length by omega]
  have hone : ∀ v ∈ cs, v.oneCell' = true := by rw [hcs]; exact ints_oneCell .u8 _
  have HAT : Hid (∀ i, i < n → cs[i]? = some (.int .u8 (zs.getD i 0))) := hcat
  have HL : Hid (cs.length = n) := hcl
  have HO : Hid (∀ v ∈ cs, v.oneCell' = true) := hone
  clear hcs hcat hone hcl
  go_enter Ybaf.func3, Ybaf.ntmps3
  go_wp2_with (first
    | (at_make; refine wpList_make_full _ rfl _ _ 22 rfl w.heap.size 5 i0 (.int .u8 0) 1 Ybaf.underlying22 hi hz0 hz1 _ _ _ _ n rfl rfl rfl rfl (by rw [hz2]; omega) (by unfold maxLen; omega) (Nat.le_refl _) ?_; intro w1 hown1 hg1)
    | (refine wpList_copy_whole _ rfl _ _ 22 rfl 5 Ybaf.underlying22 HS.out w.heap.size w.heap.size n n _ rfl hown1 (some ⟨b, off, none⟩) cap rfl cs HL.out (fun _ => ⟨_, rfl, ?ha⟩) HO.out ?_))
  case ha =>
    intro j v hj
    have hj' : j < n := by have := (List.getElem?_eq_some_iff.1 hj).1; rw [HL.out] at this; exact this
    rw [HAT.out j hj'] at hj
    cases hj
    rw [Addr.add_lit]
    exact hg1.cell (HC.out j hj') (by simp)
  intro w2 hown2 hg2
  have HG : Hid (w.grownBy w2 none) := hg1.andThen hg2 (fun j hj => by cases hj; exact Or.inl (Nat.le_refl _))
  have HV : Hid (∀ i, i < n → w2.cell? ⟨w.heap.size, 0 + i, none⟩ = some (.int .u8 (zs.getD i 0))) := fun i hi => by
    have := hown2.cells (g := w.heap.size) rfl i _ (HAT.out i hi)
    rw [Addr.add_lit] at this
    exact this
  have hs2 : w.heap.size < w2.heap.size := (hown2.lt w.heap.size rfl).2
  clear hown1 hown2 hg1 hg2 hi hz0 hz1 hz2 HAT HL HO HS
  go_wp2_with fail
  refine (read_ok w2.heap.size w.heap.size n m t zs (.slice none 0 0) _ ⟨by simp, by simp, fun i hi => (World.cell?_alloc_past _ _ _ hs2).trans (HV.out i hi)⟩ hn HZ.out hm hfit (by simp) (by simp) (by omega)).mono ?_
  rintro e w3 ⟨rfl, A3, f8, hg3⟩
  have f1 := A3.val
  have HI : Hid (∀ i, i < n → w3.cell? ⟨b, off + i, none⟩ = some (.int .u8 (zs.getD i 0))) := fun i hi => hg3.cell ((World.cell?_alloc_past _ _ _ (by have := hs2; show b < _; omega)).trans (HG.out.cell (HC.out i hi) (by simp))) (by simp; omega)
  have HV3 : Hid (∀ i, i < n → w3.cell? ⟨w.heap.size, 0 + i, none⟩ = some (.int .u8 (zs.getD i 0))) := A3.byt
  have HB : Hid (Below w.heap.size w w3) := (((Below.refl _ _).grown HG.out (Nat.le_refl _) (fun j hj => by cases hj)).alloc (by omega) _).grown hg3 (by simp; omega) (fun j hj => by cases hj; omega)
  have hin := HI.out 0 h0
  rw [Nat.add_zero, HZ.out] at hin
  clear hg3 HV HC HG A3
  go_wp2_with fail
  refine (bytes_same _ _ n n cap zs w3 hn (Or.inr ⟨w.heap.size, 0, b, off, rfl, rfl, HV3.out, HI.out⟩)).mono ?_
  rintro e w4 ⟨rfl, q, rfl⟩
  have hd1 : decide ((n : Int) - 1 < (m : Int)) = false := by simp; omega
  have hd4 : decide ((4 : Int) ≤ (m : Int)) = false := by simp; omega
  obtain ⟨L, hL⟩ : ∃ L, L = n - m - 1 := ⟨_, rfl⟩
  obtain ⟨o1, ho1⟩ : ∃ o1, o1 = if n = 1 then 0 else 1 := ⟨_, rfl⟩
  rw [← hL, ← ho1] at f8
  have HO1 : Hid (o1 = if n = 1 then 0 else 1) := ho1
  have hLn : L + m + 1 = n := by omega
  have hdL : ((L : Int) != (n : Int) - (m : Int) - 1) = false := by rw [bne_eq_false_iff_eq]; omega
  clear hL ho1
  go_wp2
  go_loopw [13] (fun i wr => ∃ j p : Nat, j ≤ L ∧ i = .int .i64 ((j : Int) + 1) ∧ wr = w3.drewN p) (fun i _ => L + 1 - (intOf i).toNat)
  case atStart => exact ⟨0, q, Nat.zero_le _, rfl, rfl⟩
  case round =>
    obtain ⟨j, p, hj, rfl, rfl⟩ := hrel
    by_cases hlt : j < L
    · have e1 : o1 = 1 := by rw [HO1.out, if_neg (by omega)]
      have g1 : w3.cell? ⟨w.heap.size, o1 + j, none⟩ = some (.int .u8 (zs.getD (j + 1) 0)) := by rw [e1, Nat.add_comm 1 j]; have := HV3.out (j + 1) (by omega); rwa [Nat.zero_add] at this
      have g2 := HI.out (j + 1) (by omega)
      clear e1
      obtain ⟨z, hz⟩ : ∃ z, z = zs.getD (j + 1) 0 := ⟨_, rfl⟩
      rw [← hz] at g1 g2
      clear hz
      go_wp2
      go_quiet (fail)
      go_wp2
      go_roundw
      case rel => exact ⟨j + 1, _, by omega, by go_num, rfl⟩
      case measure => simp [intOf]; omega
    · go_wp2
      go_ret
      exact ⟨rfl, below_drewN HB.out _⟩
end Go.Proofs.YbulkancoFmt
