/-
  THE WALKS of 'zzs1938ceq', 'AttributeType.Name', 'Attribute.error', 'Attribute.paddingError' and 'readTWANConnMode'; 'copy' over a row that the call owns.
-/
import Derived.Test.YbulkancoFmtRows
import Derived.WalkKit
import Derived.WalkSpells
import Derived.WalkLawsBesides
import Derived.OpenShut
import Derived.Laws.CopyOwn
import Derived.Deep.QuietTactic
import Derived.BigQuiet
import Derived.Maps.OwnSet
import Derived.Stop.CallBack
import Derived.Stop.IfaceNil
namespace Go.Proofs.YbulkancoFmt
open Go.RowKit Go.Extern.Stop Go.Stop Go.Extern

/-! ### 'copy' over a row that the call owns -/
theorem wpList_copy_whole {P : Program} (w : World) {ops : Array Oper} {rest : List Oper} {o : Oper} {a : Act} {Q : Exit → Act → World → Prop} (hgd : o.guard = none) (d s : Operand) (t : TypeId)
    (ho : o.op = .call { callee := .builtin .copy, args := #[d, s], argTypes := #[t, t] }) (e : TypeId) (hu : P.underlying t = some (.slice e)) (hsz : (P.info? e).map (·.size) = some 1)
    (base g n cap : Nat) (xs : List Value) (hd : a.eval d = .slice (some ⟨g, 0, none⟩) n cap) (hown : w.ownsRow base e 1 (.slice (some ⟨g, 0, none⟩) n cap) n xs)
    (sp : Option Addr) (sc : Nat) (hs : a.eval s = .slice sp n sc) (cs : List Value) (hcs : cs.length = n)
    (hpos : 0 < n → ∃ ad, sp = some ad ∧ ∀ j v, cs[j]? = some v → w.cell? (ad.add j) = some v) (h1 : ∀ v ∈ cs, v.oneCell' = true)
    (hK : ∀ w', w'.ownsRow base e 1 (.slice (some ⟨g, 0, none⟩) n cap) n cs → w.grownBy w' (some g) → wpList P ops Q rest (a.put o.dst (goInt n)) w') :
    wpList P ops Q (o :: rest) a w := by
  obtain ⟨hlen, ⟨hnone, _⟩ | ⟨g', cap', cur, hv, hb, hg, hnc, hcm, hcz, htake⟩⟩ := hown
  · cases hnone
  cases hv
  by_cases h0 : n = 0
  · subst h0
    have hnil : cs = [] := List.eq_nil_of_length_eq_zero hcs
    subst hnil
    refine wpList_copy_nothing hgd d s t t ho e hu hsz _ sp 0 cap 0 sc hd hs (by simp) ?_
    exact hK w ⟨by simp, .inr ⟨g, cap, cur, rfl, hb, hg, hnc, hcm, hcz, by simp⟩⟩ (World.grownBy.refl _ _)
  · obtain ⟨ad, rfl, hsrc⟩ := hpos (by omega)
    refine wpList_copy_own hgd d s t t ho e hu hsz g 0 n cap ad n sc hd hs cur e hg cs (by rw [hcs]; simp) hsrc (by omega) h1 ?_
    rw [hcs]
    refine hK _ ⟨by omega, .inr ⟨g, cap, _, rfl, hb, setRow_heap w g cur _ e (0, 0) hg, hnc, hcm, ?_, ?_⟩⟩ ⟨rfl, rfl, rfl, by simp [World.setRow], fun k hk hne => setRow_other w g k _ (by intro e; exact hne (by rw [e]))⟩
    · simp only [List.size_toArray, List.length_append, List.length_take, List.length_drop, Array.length_toList]
      omega
    · simp [hcs]

theorem Ybaf.info5 : (Ybaf.prog.info? 5).map (fun i => (i.zero, i.size, i.bytes)) = some (some (.int .u8 0), 1, 1) := by kernel_rfl

/-- Two slices of n bytes, cell by cell alike. -/
def Alike2 (w : World) (a a' : Option Addr) (n : Nat) (zs : List Int) : Prop :=
  n = 0 ∨ ∃ b o b' o', a = some ⟨b, o, none⟩ ∧ a' = some ⟨b', o', none⟩ ∧ (∀ i, i < n → w.cell? ⟨b, o + i, none⟩ = some (.int .u8 (zs.getD i 0))) ∧ (∀ i, i < n → w.cell? ⟨b', o' + i, none⟩ = some (.int .u8 (zs.getD i 0)))

set_option maxHeartbeats 400000 in
theorem bytes_same (a a' : Option Addr) (n c c' : Nat) (zs : List Int) (w : World) (hn : n ≤ 1024) (h : Alike2 w a a' n zs) :
    Calls Ybaf.prog 5 #[.slice a n c, .slice a' n c'] w fun e w' => e = .returned (.bool true) ∧ ∃ q, w' = w.drewN q := by
  go_enter Ybaf.func5, Ybaf.ntmps5
  go_wp2
  go_loopw [5] (fun i wr => ∃ k q : Nat, k ≤ n ∧ i = .int .i64 k ∧ wr = w.drewN q) (fun i _ => n - (intOf i).toNat)
  case atStart => exact ⟨0, 0, Nat.zero_le _, rfl, rfl⟩
  case round =>
    obtain ⟨k, q, hk, rfl, rfl⟩ := hrel
    by_cases hlt : k < n
    · rcases h with h | ⟨b, o, b', o', rfl, rfl, h1, h2⟩
      · omega
      have c1 := h1 k hlt
      have c2 := h2 k hlt
      clear h1 h2
      obtain ⟨z, hz⟩ : ∃ z, z = zs.getD k 0 := ⟨_, rfl⟩
      rw [← hz] at c1 c2
      clear hz
      go_wp2
      go_quiet (fail)
      go_wp2
      go_roundw
      case rel => exact ⟨k + 1, _, by omega, by go_num, rfl⟩
      case measure => simp [intOf]; omega
    · go_wp2
      go_ret
      exact ⟨rfl, q, rfl⟩

/-! ### fmt.Sprintf at two ints -/
theorem call9 (args : Array Value) (w : World) : (callFunc 9 args).run Ybaf.prog w = (FmtCalls.sprintf #[9, 44] #[9] args).run Ybaf.prog w :=
  run_callFunc_next Ybaf.func9 (by kernel_rfl) (by kernel_rfl) (by kernel_rfl) args w
theorem guardF (name : String) (w : World) : (FmtStop.guard name).run Ybaf.prog w = .ok () w := by kernel_rfl
theorem nextTurns : Extern.next FmtCalls.turnsRow = some (FmtCalls.begun #[] #[]) := by kernel_rfl
def shape3 : List UInt8 := [5, 3, 0, 0, 0, 0, 0, 0, 0, 105, 110, 116]
theorem act3 (name : String) (x : Value) (w : World) : (FmtCalls.act name false 100 false (.iface 3 x)).run Ybaf.prog w = .ok (.closed false) w := by kernel_rfl
theorem op3 (name : String) (x : Int) (w : World) : (FmtStop.operand name false 100 false (.iface 3 (.int .i64 x))).run Ybaf.prog w = .ok (shape3, Go.Extern.Stop.digits 8 (x % 2 ^ 64).toNat) w := by kernel_rfl


/-! ### the names' map -/
theorem law24 : Maps.Keyed Ybaf.prog 24 := Maps.int_keyed Ybaf.underlying24
theorem zero9 (w : World) : (zeroValue 9).run Ybaf.prog w = .ok (.string ⟨#[]⟩) w := by kernel_rfl
/-- The variable 'attributeNames' holds a map of strings. -/
def Named (w : World) : Prop := ∃ bm n, ∃ D : DataW Unit, w.cell? ⟨0, 0, none⟩ = some (.map (some bm)) ∧ w.ownsMap Ybaf.prog 24 (plainElem Ybaf.prog 9) bm n D

theorem named_look {w : World} (h : Named w) (t : Int) (ht : (Lit.int .u8 t).wf = true) : ∃ m s, w.cell? ⟨0, 0, none⟩ = some m ∧ (Instr.lookup 47 m (.int .u8 t) false).run Ybaf.prog w = .ok (.string s) w := by
  obtain ⟨bm, n, D, hc, hown⟩ := h
  obtain ⟨v, ps, hrun, hv⟩ := hown.lookup law24 Ybaf.underlying47 (zero9 w) (plainElem_string (H := Unit) Ybaf.underlying9 (s := ⟨#[]⟩) (by decide)) (Maps.keyOf_int_mk Ybaf.underlying24 ht)
  obtain ⟨s, rfl, _⟩ := plainElem_string_inv Ybaf.underlying9 hv
  exact ⟨_, s, hc, hrun⟩

theorem named_grown {w w' : World} (h : Named w) (hg : w.grownBy w' none) : Named w' := by
  obtain ⟨bm, n, D, hc, hown⟩ := h
  exact ⟨bm, n, D, hg.cell hc (by simp), hown.kept hg (by simp)⟩

set_option maxHeartbeats 400000 in
theorem name_any (t : Int) (w : World) (ht : (Lit.int .u8 t).wf = true) (h : Named w) :
    Calls Ybaf.prog 8 #[.int .u8 t] w fun e w' => (∃ s, e = .returned (.string s)) ∧ w' = w := by
  obtain ⟨m, s, hc, hl⟩ := named_look h t ht
  clear h ht
  go_enter Ybaf.func8, Ybaf.ntmps8
  go_wp2
  go_ret
  exact ⟨⟨s, rfl⟩, rfl⟩

attribute [local go_sem] call9 guardF act3 op3
theorem turns_run (f : ByteArray) (b : Nat) (x y : Int) (w : World) (c0 : w.cell? ⟨b, 0, none⟩ = some (.iface 3 (.int .i64 x))) (c1 : w.cell? ⟨b, 1, none⟩ = some (.iface 3 (.int .i64 y))) :
    ∃ s, (FmtCalls.begun #[] #[] (FmtCalls.save 0 0 (.slice (some ⟨b, 0, none⟩) 2 2) f [] [(0, 100, false), (1, 100, false)])).run Ybaf.prog w = .ok (.value (.string s)) w.drew := by
  refine ⟨?_, ?_⟩
  rotate_left
  · go_simp
    exact rfl

set_option maxHeartbeats 800000 in
theorem error_any (f : ByteArray) (hf : FmtStop.printed? f 2 = some [(0, 100, false), (1, 100, false)]) (P b : Nat) (off t x y : Int) (w : World)
    (ht : (Lit.int .u8 t).wf = true) (h : Named w) (hp : w.cell? ⟨P, 0, none⟩ = some (.int .u8 t)) (c0 : w.cell? ⟨b, 0, none⟩ = some (.iface 3 (.int .i64 x))) (c1 : w.cell? ⟨b, 1, none⟩ = some (.iface 3 (.int .i64 y))) :
    Calls Ybaf.prog 6 #[.pointer (some ⟨P, 0, none⟩), .int .i64 off, .string f, .slice (some ⟨b, 0, none⟩) 2 2] w fun e w' =>
      ∃ g, e = .returned (.iface 37 (.pointer (some ⟨g, 0, none⟩))) ∧ w'.cell? ⟨g, 1, none⟩ = some (.int .i64 off) ∧ w.heap.size ≤ g ∧ w.grownBy w' none := by
  have HN : Hid (Named w) := h
  clear h
  go_enter Ybaf.func6, Ybaf.ntmps6
  go_wp2_with fail
  refine (name_any t w ht HN.out).mono ?_
  rintro e w' ⟨⟨s, rfl⟩, rfl⟩
  obtain ⟨s2, hs2⟩ := turns_run f b x y w' c0 c1
  have HS : Hid (_ = _) := hs2
  clear hs2
  go_wp2
  all_goals
    refine rows_value nextTurns HS.out ?_
    go_wp2
    go_ret
    exact ⟨w'.heap.size, rfl, by simp, Nat.le_refl _, ⟨rfl, rfl, rfl, by simp, fun k hk _ => heap_alloc_old w' _ hk⟩⟩

/-- What 'readTWANConnMode' is told of its receiver: its type, its value's slice and that slice's bytes. -/
structure Att (P V n : Nat) (t : Int) (zs : List Int) (w : World) : Prop where
  typ : w.cell? ⟨P, 0, none⟩ = some (.int .u8 t)
  val : w.cell? ⟨P, 1, none⟩ = some (.slice (some ⟨V, 0, none⟩) n n)
  byt : ∀ i, i < n → w.cell? ⟨V, 0 + i, none⟩ = some (.int .u8 (zs.getD i 0))

theorem Att.grown {P V n : Nat} {t : Int} {zs : List Int} {w w' : World} (h : Att P V n t zs w) (hg : w.grownBy w' none) : Att P V n t zs w' :=
  ⟨hg.cell h.typ (by simp), hg.cell h.val (by simp), fun i hi => hg.cell (h.byt i hi) (by simp)⟩

set_option maxHeartbeats 800000 in
theorem padding_any (P : Nat) (off t x : Int) (w : World) (ht : (Lit.int .u8 t).wf = true) (h : Named w) (hp : w.cell? ⟨P, 0, none⟩ = some (.int .u8 t)) :
    Calls Ybaf.prog 7 #[.pointer (some ⟨P, 0, none⟩), .int .i64 off, .int .i64 x] w fun e w' =>
      ∃ g, e = .returned (.iface 37 (.pointer (some ⟨g, 0, none⟩))) ∧ w'.cell? ⟨g, 1, none⟩ = some (.int .i64 off) ∧ w.heap.size ≤ g ∧ w.grownBy w' none := by
  have HN : Hid (Named w) := h
  clear h
  have hpl := World.block_lt_of_cell? w _ hp
  go_enter Ybaf.func7, Ybaf.ntmps7
  go_wp2_with fail
  refine (error_any _ (by kernel_rfl) P w.heap.size off t x 4 _ ht (named_grown HN.out (World.grownBy_alloc _ _ none)) ((World.cell?_alloc_past _ _ _ hpl).trans hp) (by simp) (by simp)).mono ?_
  rintro e w' ⟨g, rfl, hc, hgs, hg⟩
  go_wp2
  go_ret
  exact ⟨g, rfl, hc, by simp at hgs; omega, (World.grownBy_alloc _ _ none).trans hg⟩

set_option maxHeartbeats 800000 in
theorem read_past (P V n : Nat) (t : Int) (zs : List Int) (w : World) (ht : (Lit.int .u8 t).wf = true) (h : Named w) (A : Att P V n t zs w) (h0 : 0 < n) (hn : n ≤ 1024) (hz : 0 ≤ zs.getD 0 0 ∧ zs.getD 0 0 ≤ 255)
    (hbig : (n : Int) - 1 < zs.getD 0 0) :
    Calls Ybaf.prog 4 #[.pointer (some ⟨P, 0, none⟩)] w fun e w' =>
      ∃ g, e = .returned (.iface 37 (.pointer (some ⟨g, 0, none⟩))) ∧ w'.cell? ⟨g, 1, none⟩ = some (.int .i64 0) ∧ w.heap.size ≤ g ∧ w.grownBy w' none := by
  have HN : Hid (Named w) := h
  have c0 := A.typ
  have c1 := A.val
  have cb := A.byt 0 h0
  clear h A
  obtain ⟨z, hz'⟩ : ∃ z, z = zs.getD 0 0 := ⟨_, rfl⟩
  rw [← hz'] at cb hz hbig
  clear hz'
  have hpl := World.block_lt_of_cell? w _ c0
  go_enter Ybaf.func4, Ybaf.ntmps4
  go_wp2_with fail
  refine (error_any _ (by kernel_rfl) P w.heap.size 0 t z (n - 1) _ ht (named_grown HN.out (World.grownBy_alloc _ _ none)) ((World.cell?_alloc_past _ _ _ hpl).trans c0) (by simp) (by simp)).mono ?_
  rintro e w' ⟨g, rfl, hc, hgs, hg⟩
  go_wp2
  go_ret
  exact ⟨g, rfl, hc, by simp at hgs; omega, (World.grownBy_alloc _ _ none).trans hg⟩

set_option maxHeartbeats 800000 in
theorem read_four (P V n : Nat) (t : Int) (zs : List Int) (w : World) (ht : (Lit.int .u8 t).wf = true) (h : Named w) (A : Att P V n t zs w) (h0 : 0 < n) (hn : n ≤ 1024) (hz : 0 ≤ zs.getD 0 0 ∧ zs.getD 0 0 ≤ 255)
    (hfit : zs.getD 0 0 ≤ (n : Int) - 1) (hfour : 4 ≤ zs.getD 0 0) :
    Calls Ybaf.prog 4 #[.pointer (some ⟨P, 0, none⟩)] w fun e w' =>
      ∃ g, e = .returned (.iface 37 (.pointer (some ⟨g, 0, none⟩))) ∧ w'.cell? ⟨g, 1, none⟩ = some (.int .i64 0) ∧ w.heap.size ≤ g ∧ w.grownBy w' none := by
  have HN : Hid (Named w) := h
  have c0 := A.typ
  have c1 := A.val
  have cb := A.byt 0 h0
  clear h A
  obtain ⟨z, hz'⟩ : ∃ z, z = zs.getD 0 0 := ⟨_, rfl⟩
  rw [← hz'] at cb hz hfit hfour
  clear hz'
  go_enter Ybaf.func4, Ybaf.ntmps4
  go_wp2_with fail
  refine (padding_any P 0 t z w ht HN.out c0).mono ?_
  rintro e w' ⟨g, rfl, hc, hgs, hg⟩
  go_wp2
  go_ret
  exact ⟨g, rfl, hc, hgs, hg⟩

theorem grown_setCell (w : World) (b o : Nat) (u : Value) : w.grownBy (w.setCell ⟨b, o, none⟩ u) (some b) :=
  ⟨rfl, rfl, rfl, by simp [World.setCell], fun k hk hne => by simp [World.setCell, Array.getElem?_modify]; intro e; exact absurd (by rw [e]) hne⟩

set_option maxHeartbeats 800000 in
theorem read_ok (P V n m : Nat) (t : Int) (zs : List Int) (old : Value) (w : World) (A : Att P V n t zs w) (hn : n ≤ 1024) (hz : zs.getD 0 0 = m) (hm : m < 4) (hfit : m + 1 ≤ n)
    (hold : w.cell? ⟨P, 8, none⟩ = some old) (hfz : w.frozen? ⟨P, 8, none⟩ = false) (hPV : V ≠ P) :
    Calls Ybaf.prog 4 #[.pointer (some ⟨P, 0, none⟩)] w fun e w' =>
      e = .returned .nilIface ∧ Att P V n t zs w' ∧ w'.cell? ⟨P, 8, none⟩ = some (.slice (some ⟨V, if n = 1 then 0 else 1, none⟩) (n - m - 1) (n - 1)) ∧ w.grownBy w' (some P) := by
  have HF : Hid (∀ u, Att P V n t zs (w.setCell ⟨P, 8, none⟩ u) ∧ (w.setCell ⟨P, 8, none⟩ u).cell? ⟨P, 8, none⟩ = some u ∧ w.grownBy (w.setCell ⟨P, 8, none⟩ u) (some P)) := fun u =>
    ⟨⟨(World.cell?_setCell_other _ _ _ _ (by simp)).trans A.typ, (World.cell?_setCell_other _ _ _ _ (by simp)).trans A.val, fun i hi => (World.cell?_setCell_other _ _ _ _ (by intro e; injection e with e1; exact hPV e1.symm)).trans (A.byt i hi)⟩, World.cell?_setCell_same _ _ _ hold, grown_setCell w P 8 u⟩
  have c0 := A.typ
  have c1 := A.val
  have cb := A.byt 0 (by omega)
  clear A
  rw [hz] at cb
  clear hz
  go_enter Ybaf.func4, Ybaf.ntmps4
  go_wp2
  all_goals
    go_ret
    first | exact ⟨rfl, HF.out _⟩ | (have h1 : n = 1 := (by assumption); subst h1; exact ⟨rfl, HF.out _⟩)
end Go.Proofs.YbulkancoFmt
