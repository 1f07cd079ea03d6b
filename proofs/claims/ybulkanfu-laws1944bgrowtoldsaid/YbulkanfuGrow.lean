/-
  THE WALKS of 'zzs1944bsame', 'zzs1944bgrower.Grow' and 'output.expect'; 'make' with room and 'copy' over a row that the call owns.
-/
import Derived.Test.YbulkanfuRows
import Derived.WalkKit
import Derived.WalkSpells
import Derived.WalkLawsBesides
import Derived.OpenShut
import Derived.Laws.CopyOwn
import Derived.Deep.QuietTactic
import Derived.BigQuiet
import Derived.Deep.RegionWith
import Derived.Deep.RegionHeld3
namespace Go.Proofs.Ybulkanfu.lawS1944BGrowTold
open Go.RowKit

/-! ### 'copy' over a row that the call owns -/
theorem wpList_copy_whole {P : Program} (w : World) {ops : Array Oper} {rest : List Oper} {o : Oper} {a : Act} {Q : Exit → Act → World → Prop} (hgd : o.guard = none) (d s : Operand) (t : TypeId)
    (ho : o.op = .call { callee := .builtin .copy, args := #[d, s], argTypes := #[t, t] }) (e : TypeId) (hu : P.underlying t = some (.slice e)) (hsz : (P.info? e).map (·.size) = some 1)
    (base g n cap : Nat) (xs : List Value) (hd : a.eval d = .slice (some ⟨g, 0, none⟩) n cap) (hown : w.ownsRow base e 1 (.slice (some ⟨g, 0, none⟩) n cap) n xs)
    (sp : Option Addr) (sc : Nat) (hs : a.eval s = .slice sp n sc) (cs : List Value) (hcs : cs.length = n)
    (hpos : 0 < n → ∃ ad, sp = some ad ∧ ∀ j v, cs[j]? = some v → w.cell? (ad.add j) = some v) (h1 : ∀ v ∈ cs, v.oneCell' = true)
    (hK : ∀ w', w'.ownsRow base e 1 (.slice (some ⟨g, 0, none⟩) n cap) n cs → w.grownBy w' (some g) → wpList P ops Q rest (a.put o.dst (goInt n)) w') :
    wpList P ops Q (o :: rest) a w := by
  obtain ⟨hlen, ⟨hnone, _⟩ | ⟨g', cap', cur, hv, hb, hg, hnc, hcm, hcz, htake⟩⟩ := hown
  · cases hnone
  cases hv
  by_cases h0 : n = 0
  · subst h0
    have hnil : cs = [] := List.eq_nil_of_length_eq_zero hcs
    subst hnil
    refine wpList_copy_nothing hgd d s t t ho e hu hsz _ sp 0 cap 0 sc hd hs (by simp) ?_
    exact hK w ⟨by simp, .inr ⟨g, cap, cur, rfl, hb, hg, hnc, hcm, hcz, by simp⟩⟩ (World.grownBy.refl _ _)
  · obtain ⟨ad, rfl, hsrc⟩ := hpos (by omega)
    refine wpList_copy_own hgd d s t t ho e hu hsz g 0 n cap ad n sc hd hs cur e hg cs (by rw [hcs]; simp) hsrc (by omega) h1 ?_
    rw [hcs]
    refine hK _ ⟨by omega, .inr ⟨g, cap, _, rfl, hb, setRow_heap w g cur _ e (0, 0) hg, hnc, hcm, ?_, ?_⟩⟩ ⟨rfl, rfl, rfl, by simp [World.setRow], fun k hk hne => setRow_other w g k _ (by intro e; exact hne (by rw [e]))⟩
    · simp only [List.size_toArray, List.length_append, List.length_take, List.length_drop, Array.length_toList]
      omega
    · simp [hcs]

theorem Yba.info5 : (Yba.prog.info? 5).map (fun i => (i.zero, i.size, i.bytes)) = some (some (.int .u8 0), 1, 1) := by kernel_rfl

/-- Two slices of n bytes, cell by cell alike. -/
def Alike2 (w : World) (a a' : Option Addr) (n : Nat) (zs : List Int) : Prop :=
  n = 0 ∨ ∃ b o b' o', a = some ⟨b, o, none⟩ ∧ a' = some ⟨b', o', none⟩ ∧ (∀ i, i < n → w.cell? ⟨b, o + i, none⟩ = some (.int .u8 (zs.getD i 0))) ∧ (∀ i, i < n → w.cell? ⟨b', o' + i, none⟩ = some (.int .u8 (zs.getD i 0)))

set_option maxHeartbeats 400000 in
theorem bytes_same (a a' : Option Addr) (n c c' : Nat) (zs : List Int) (w : World) (hn : n ≤ 1024) (h : Alike2 w a a' n zs) :
    Calls Yba.prog 6 #[.slice a n c, .slice a' n c'] w fun e w' => e = .returned (.bool true) ∧ ∃ q, w' = w.drewN q := by
  go_enter Yba.func6, Yba.ntmps6
  go_wp2
  go_loopw [5] (fun i wr => ∃ k q : Nat, k ≤ n ∧ i = .int .i64 k ∧ wr = w.drewN q) (fun i _ => n - (intOf i).toNat)
  case atStart => exact ⟨0, 0, Nat.zero_le _, rfl, rfl⟩
  case round =>
    obtain ⟨k, q, hk, rfl, rfl⟩ := hrel
    by_cases hlt : k < n
    · rcases h with h | ⟨b, o, b', o', rfl, rfl, h1, h2⟩
      · omega
      have c1 := h1 k hlt
      have c2 := h2 k hlt
      clear h1 h2
      obtain ⟨z, hz⟩ : ∃ z, z = zs.getD k 0 := ⟨_, rfl⟩
      rw [← hz] at c1 c2
      clear hz
      go_wp2
      go_quiet (fail)
      go_wp2
      go_roundw
      case rel => exact ⟨k + 1, _, by omega, by go_num, rfl⟩
      case measure => simp [intOf]; omega
    · go_wp2
      go_ret
      exact ⟨rfl, q, rfl⟩


/-- 'make([]byte, n, cap)'. -/
theorem wpList_make_room (w : World) {ops : Array Oper} {rest : List Oper} {o : Oper} {a : Act} {Q : Exit → Act → World → Prop} (hgd : o.guard = none) (l c : Operand) (ho : o.op = Op.makeSlice 22 l c)
    (n cap : Nat) (L C : Int) (hl : a.eval l = .int .i64 L) (hc : a.eval c = .int .i64 C) (hL : L = (n : Int)) (hC : C = (cap : Int)) (hnc : n ≤ cap) (hcap : cap ≤ 2000)
    (hK : ∀ w' xs, w'.ownsRow w.heap.size 5 1 (.slice (some ⟨w.heap.size, 0, none⟩) n cap) n xs → w.grownBy w' none → wpList Yba.prog ops Q rest (a.put o.dst (.slice (some ⟨w.heap.size, 0, none⟩) n cap)) w') :
    wpList Yba.prog ops Q (o :: rest) a w := by
  obtain ⟨i0, hi, hz0, hz1, hz2⟩ := info_parts Yba.info5
  subst hL hC
  have hr := run_make (P := Yba.prog) w 22 5 i0 (.int .u8 0) Yba.underlying22 hi hz0 .i64 .i64 n cap (by omega) (by omega) (by rw [hz2]; omega) (by omega)
  simp only [Int.toNat_natCast, hz1] at hr
  refine wpList_plain hgd fun K hK' => ?_
  unfold Oper.wp
  simp [execOp, ho, hl, hc, hr, Result.andThen]
  refine hK' _ _ (hK _ ((madeCells (Value.int .u8 0).cells (cap * 1)).toList.take n) ⟨by simp [size_madeCells]; omega, .inr ⟨w.heap.size, cap, madeCells (Value.int .u8 0).cells (cap * 1), rfl, Nat.le_refl _, by simpa using heap_alloc_new w _, hnc, by unfold maxLen; omega, size_madeCells _ _, by simp⟩⟩ (World.grownBy_alloc w _ none))

theorem Yba.info3 : (Yba.prog.info? 3).map (fun i => (i.zero, i.size, i.bytes)) = some (some (.int .i64 0), 1, 8) := by kernel_rfl

theorem grown_setCell (w : World) (b o : Nat) (u : Value) : w.grownBy (w.setCell ⟨b, o, none⟩ u) (some b) :=
  ⟨rfl, rfl, rfl, by simp [World.setCell], fun k hk hne => by simp [World.setCell, Array.getElem?_modify]; intro e; exact absurd (by rw [e]) hne⟩

set_option maxHeartbeats 800000 in
theorem grow_any (G : Nat) (z : Int) (v1 : Value) (w : World) (c0 : w.cell? ⟨G, 0, none⟩ = some (.slice none 0 0)) (c1 : w.cell? ⟨G, 1, none⟩ = some v1) (hf : w.frozen? ⟨G, 0, none⟩ = false) :
    Calls Yba.prog 22 #[.pointer (some ⟨G, 0, none⟩), .int .i64 z] w fun e w' => e = .returned (.tuple #[]) ∧
      ∃ h c, w'.cell? ⟨G, 0, none⟩ = some (.slice (some ⟨h, 0, none⟩) 1 c) ∧ w'.cell? ⟨h, 0, none⟩ = some (.int .i64 z) ∧ w'.cell? ⟨G, 1, none⟩ = some v1 ∧ w.grownBy w' (some G) := by
  obtain ⟨i0, hi, hz0, hz1, hz2⟩ := info_parts Yba.info3
  have hl := World.block_lt_of_cell? w _ c0
  go_enter Yba.func22, Yba.ntmps22
  go_wp2_with (first | (at_builtin; refine wpList_append_own _ rfl (.tmp 8) (.tmp 10) 24 rfl w.heap.size 3 i0 (.int .i64 0) 1 8 Yba.underlying24 hi hz0 hz1 hz2 rfl (by decide) _ _ _ rfl (World.ownsRow_nil _ _ _ _) ⟨w.heap.size, 0, none⟩ 1 1 [.int .i64 z] rfl rfl (cell_one_new _ _ _) (ints_oneCell .i64 [z]) (by unfold maxLen; omega) (by omega) (by simp) ?_))
  intro v' w1 hown hgrow _
  obtain ⟨h, c, hv, hcl, hgb⟩ : ∃ h c, v' = .slice (some ⟨h, 0, none⟩) 1 c ∧ w1.cell? ⟨h, 0, none⟩ = some (.int .i64 z) ∧ w.heap.size ≤ h := by
    rcases hown.2 with ⟨_, h0⟩ | ⟨g, cap, cur, rfl, hb, hg, hc, hm, hs, ht⟩
    · omega
    · refine ⟨g, cap, rfl, ?_, hb⟩
      have := hown.cells (g := g) rfl 0 (.int .i64 z) rfl
      rwa [Addr.add_lit] at this
  have d0 : w1.cell? ⟨G, 0, none⟩ = some (.slice none 0 0) := hgrow.cell ((World.cell?_alloc_past _ _ _ hl).trans c0) (by simp [Value.ownBlock])
  have d1 : w1.cell? ⟨G, 1, none⟩ = some v1 := hgrow.cell ((World.cell?_alloc_past _ _ _ hl).trans c1) (by simp [Value.ownBlock])
  have df : w1.frozen? ⟨G, 0, none⟩ = false := by
    rw [World.frozen?_of_block (w := w.alloc _) (hgrow.block G (by simp; omega) (by simp [Value.ownBlock]))]
    exact (World.frozen?_alloc_past _ _ _ hl).trans hf
  have HG : Hid (w.grownBy w1 none) := (World.grownBy_alloc _ _ none).trans hgrow
  clear hown hgrow
  rw [hv]
  clear hv
  go_wp2
  go_end0
  refine ⟨rfl, h, c, World.cell?_setCell_same _ _ _ d0, (World.cell?_setCell_other _ _ _ _ (by intro e; injection e with e1; omega)).trans hcl, (World.cell?_setCell_other _ _ _ _ (by simp)).trans d1, ?_⟩
  have k := grown_setCell w1 G 0 (.slice (some ⟨h, 0, none⟩) 1 c)
  have g := HG.out
  exact ⟨k.os.trans g.os, k.tape.trans g.tape, k.output.trans g.output, Nat.le_trans g.size k.size, fun j hj hn => (k.block j (Nat.lt_of_lt_of_le hj g.size) hn).trans (g.block j hj (by simp))⟩

theorem assert41 (a : Addr) (w : World) : (Instr.typeAssert (.iface 23 (.pointer (some a))) 29 41 true).run Yba.prog w = .ok (.tuple #[.iface 23 (.pointer (some a)), .bool true]) w := by kernel_rfl

theorem nil_ahead (a : Addr) (w : World) : (nilAhead 161 23 (.pointer (some a)) "Grow").run Yba.prog w = .ok (some false) w := by kernel_rfl
theorem method_grow (a : Addr) (w : World) : (method 161 23 (.pointer (some a)) "Grow").run Yba.prog w = .ok (22, .pointer (some a)) w := by kernel_rfl

set_option maxHeartbeats 1600000 in
theorem expect_any (O G n c : Nat) (bp : Option Addr) (z : Int) (v1 : Value) (w : World) (o0 : w.cell? ⟨O, 0, none⟩ = some (.iface 23 (.pointer (some ⟨G, 0, none⟩)))) (o1 : w.cell? ⟨O, 1, none⟩ = some (.slice bp n c)) (hOG : O ≠ G)
    (c0 : w.cell? ⟨G, 0, none⟩ = some (.slice none 0 0)) (c1 : w.cell? ⟨G, 1, none⟩ = some v1) (hf : w.frozen? ⟨G, 0, none⟩ = false) :
    Calls Yba.prog 5 #[.pointer (some ⟨O, 0, none⟩), .int .i64 z] w fun e w' => e = .returned (.tuple #[]) ∧
      ∃ h c, w'.cell? ⟨G, 0, none⟩ = some (.slice (some ⟨h, 0, none⟩) 1 c) ∧ w'.cell? ⟨h, 0, none⟩ = some (.int .i64 (IntKind.i64.wrap ((n : Int) + z))) ∧ w'.cell? ⟨G, 1, none⟩ = some v1 ∧ w.grownBy w' (some G) := by
  have has := assert41
  have hna := nil_ahead
  have hme := method_grow
  go_enter Yba.func5, Yba.ntmps5
  go_wp2
  go_region_held3 (fun w' => w'.cell? ⟨O, 1, none⟩ = some (.slice bp n c)) (go_keep)
    ((go_at_call 22; refine (grow_any G _ v1 _ (by exact c0) (by exact c1) (by exact hf)).mono ?_; rintro e w' ⟨rfl, h, c2, q0, q1, q2, hg⟩; have q3 : w'.cell? ⟨O, 1, none⟩ = some (.slice bp n c) := hg.cell o1 (by simp [hOG])))
  go_wp2
  go_end0
  exact ⟨rfl, h, c2, q0, q1, q2, ⟨hg.os, hg.tape, hg.output, hg.size, hg.block⟩⟩
end Go.Proofs.Ybulkanfu.lawS1944BGrowTold
