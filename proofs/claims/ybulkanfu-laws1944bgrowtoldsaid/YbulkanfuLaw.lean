/-
  THE WALK of 'LawS1944BGrowTold'.
-/
import Derived.Test.YbulkanfuGrow
namespace Go.Proofs.Ybulkanfu.lawS1944BGrowTold
open Go.RowKit

/-- What is known of the slice that came in: n bytes zs. -/
def Src (w : World) (a : Option Addr) (n : Nat) (zs : List Int) : Prop := n = 0 ∨ ∃ b off, a = some ⟨b, off, none⟩ ∧ n ≤ zs.length ∧ ∀ i, i < n → w.cell? ⟨b, off + i, none⟩ = some (.int .u8 (zs.getD i 0))

set_option maxRecDepth 100000 in
set_option maxHeartbeats 1600000 in
theorem law_any (a : Option Addr) (n cap x : Nat) (z : Int) (zs : List Int) (w : World) (hn : n ≤ 1024) (hx : x ≤ 255) (h : Src w a n zs) :
    Calls Yba.prog 3 #[.slice a n cap, .int .u8 x, .int .i64 z] w fun e w' => e = .returned (.bool true) ∧ Below w.heap.size w w' := by
  have HS : Hid ((Yba.prog.info? 5).map (·.size) = some 1) := by
    obtain ⟨i0, hi, hz0, hz1, hz2⟩ := info_parts Yba.info5
    show _ = _; rw [hi]; simp [hz1]
  have HH : Hid (Src w a n zs) := h
  clear h
  obtain ⟨cs, hcs⟩ : ∃ cs : List Value, cs = (List.range n).map fun i => Value.int .u8 (zs.getD i 0) := ⟨_, rfl⟩
  have HL : Hid (cs.length = n) := by show _ = _; rw [hcs]; simp
  have HAT : Hid (∀ i, i < n → cs[i]? = some (.int .u8 (zs.getD i 0))) := fun i hi => by rw [hcs]; simp [hi]
  have HO : Hid (∀ v ∈ cs, v.oneCell' = true) := fun v hv => by rw [hcs] at hv; obtain ⟨i, _, rfl⟩ := List.mem_map.1 hv; rfl
  clear hcs
  go_enter Yba.func3, Yba.ntmps3
  go_wp2_with (at_make; refine wpList_make_room _ rfl _ _ rfl n (n + x) _ _ rfl rfl (by omega) (by omega) (by omega) (by omega) ?_)
  intro w1 xs hown1 hg1
  go_wp2_with (refine wpList_copy_whole _ rfl _ _ 22 rfl 5 Yba.underlying22 HS.out w.heap.size w.heap.size n (n + x) _ rfl hown1 a cap rfl cs HL.out ?ha HO.out ?_)
  case ha =>
    intro h0
    rcases HH.out with h | ⟨b, off, rfl, hzl, hc⟩
    · omega
    refine ⟨_, rfl, fun j v hj => ?_⟩
    have hj' : j < n := by have := (List.getElem?_eq_some_iff.1 hj).1; rw [HL.out] at this; exact this
    rw [HAT.out j hj'] at hj
    cases hj
    rw [Addr.add_lit]
    exact hg1.cell (hc j hj') (by simp)
  intro w2 hown2 hg2
  have HG : Hid (w.grownBy w2 none) := ⟨hg2.os.trans hg1.os, hg2.tape.trans hg1.tape, hg2.output.trans hg1.output, Nat.le_trans hg1.size hg2.size, fun k hk hne => (hg2.block k (Nat.lt_of_lt_of_le hk hg1.size) (by simp; omega)).trans (hg1.block k hk (by simp))⟩
  have HV : Hid (∀ i, i < n → w2.cell? ⟨w.heap.size, 0 + i, none⟩ = some (.int .u8 (zs.getD i 0))) := fun i hi => by
    have := hown2.cells (g := w.heap.size) rfl i _ (HAT.out i hi)
    rw [Addr.add_lit] at this
    exact this
  have hs2 : w.heap.size < w2.heap.size := (hown2.lt w.heap.size rfl).2
  clear hown1 hown2 hg1 hg2 HAT HL HO HS
  go_wp2_with fail
  refine (expect_any (w2.heap.size + 1) w2.heap.size n (n + x) (some ⟨w.heap.size, 0, none⟩) z (.int .i64 0) _ (by simp) (by simp) (by omega) (by simp) (by simp) (by simp)).mono ?_
  rintro e w3 ⟨rfl, h, c, q0, q1, q2, hg3⟩
  have r1 : w3.cell? ⟨w2.heap.size + 1, 1, none⟩ = some (.slice (some ⟨w.heap.size, 0, none⟩) n (n + x)) := hg3.cell (by simp) (by simp)
  have r2 : w3.cell? ⟨w2.heap.size + 1, 2, none⟩ = some (.int .i64 0) := hg3.cell (by simp) (by simp)
  have r3 : w3.cell? ⟨w2.heap.size + 1, 3, none⟩ = some .nilIface := hg3.cell (by simp) (by simp)
  have HV3 : Hid (∀ i, i < n → w3.cell? ⟨w.heap.size, 0 + i, none⟩ = some (.int .u8 (zs.getD i 0))) := fun i hi => hg3.cell (((World.cell?_alloc_past _ _ _ (by simp; omega)).trans (World.cell?_alloc_past _ _ _ hs2)).trans (HV.out i hi)) (by simp; omega)
  have HSame : Hid (Alike2 w3 (some ⟨w.heap.size, 0, none⟩) a n zs) := by
    rcases HH.out with h | ⟨b, off, rfl, hzl, hc⟩
    · exact Or.inl h
    · refine Or.inr ⟨w.heap.size, 0, b, off, rfl, rfl, HV3.out, fun i hi => ?_⟩
      have hbl : b < w.heap.size := World.block_lt_of_cell? w ⟨b, off + i, none⟩ (hc i hi)
      exact hg3.cell (((World.cell?_alloc_past _ _ _ (by simp; omega)).trans (World.cell?_alloc_past _ _ _ (by show b < _; omega))).trans (HG.out.cell (hc i hi) (by simp))) (by simp; omega)
  have HB : Hid (Below w.heap.size w w3) := ((((Below.refl _ _).grown HG.out (Nat.le_refl _) (fun j hj => by cases hj)).alloc (by omega) _).alloc (by simp; omega) _).grown hg3 (by simp; omega) (fun j hj => by cases hj; omega)
  clear hg3 HV3 HV HG HH
  go_wp2_with fail
  refine (bytes_same (some ⟨w.heap.size, 0, none⟩) a n (n + x) cap zs w3 hn HSame.out).mono ?_
  rintro e w4 ⟨rfl, q, rfl⟩
  go_wp2
  go_ret
  exact ⟨rfl, below_drewN HB.out _⟩
end Go.Proofs.Ybulkanfu.lawS1944BGrowTold
