/-
  newBrahmsNode: the node that it lays, its slots' seeds, and what it leaves of the source.
-/
import Derived.Test.YbulkzgwSrc
import Derived.Deep.DeepCutAuto
import Derived.Deep.CutRange
import Derived.Deep.RegionWith
namespace Go.Proofs.Ybulkzgw
open Go.RowKit
set_option linter.unusedVariables false

theorem Yba.info42 : (Yba.prog.info? 42).map (fun i => (i.zero, i.size, i.bytes)) = some (some (.agg #[.int .u64 0, .int .u64 0, .int .u32 0, .int .u32 0, .bool false]), 5, 32) := by kernel_rfl

theorem run_make42 (m : Nat) (hm : m < 300) (w : World) :
    (Instr.makeSlice 37 (.int .i64 (m : Int)) (.int .i64 (m : Int))).run Yba.prog w = .ok (.slice (some ⟨w.heap.size, 0, none⟩) m m) (w.alloc (.cells (madeCells #[.int .u64 0, .int .u64 0, .int .u32 0, .int .u32 0, .bool false] (m * 5)) 42)) := by
  obtain ⟨i, hi, hz, hs, hb⟩ := info_parts Yba.info42
  have h := run_make (P := Yba.prog) w 37 42 i _ Yba.underlying37 hi hz .i64 .i64 m m (by omega) (Int.le_refl _) (by rw [hb]; omega) (by omega)
  rw [hs] at h
  simpa [Value.cells] using h

/-- The node as newBrahmsNode lays it. -/
def nodeCells (me size : Int) (m rb sb lb : Nat) : Array Value :=
  #[.int .u32 me, .func (.func 4) #[] #[.pointer (some ⟨lb, 0, none⟩)], .pointer (some ⟨rb, 0, none⟩), .int .i64 size, .slice none 0 0, .slice (some ⟨sb, 0, none⟩) m m, .int .i64 0,
    .slice none 0 0, .slice none 0 0, .slice none 0 0, .slice none 0 0, .slice none 0 0, .slice none 0 0]

structure NodeIn (w0 w : World) (me size : Int) (m rb sb nb s lb : Nat) (d : Nat → Int) : Prop where
  node : w.heap[nb]? = some (.cells (nodeCells me size m rb sb lb) 40 (0, 0))
  rand : w.heap[rb]? = some (.cells #[.iface 25 (.pointer (some ⟨s, 0, none⟩))] 51 (0, 0))
  slots : w.rowIs sb 42 (m * 5) (slotF d)
  rnew : w0.heap.size ≤ rb
  snew : w0.heap.size ≤ sb
  nnew : w0.heap.size ≤ nb
  ns : nb ≠ sb
  nr : nb ≠ rb
  rs : rb ≠ sb
  grown : w0.grownBy w (some s)

theorem made42_row (w : World) (m : Nat) :
    (w.alloc (.cells (madeCells #[.int .u64 0, .int .u64 0, .int .u32 0, .int .u32 0, .bool false] (m * 5)) 42)).rowIs w.heap.size 42 (m * 5) (slotF fun _ => 0) := by
  refine ⟨_, Deep.blk_alloc_new _ _, size_madeCells _ _, fun i hi => ?_⟩
  have h5 : i % 5 < 5 := Nat.mod_lt _ (by omega)
  simp only [madeCells, Array.getElem?_map, Array.getElem?_range, hi, if_true, Option.map_some]
  congr 1
  have hs : (#[Value.int .u64 0, .int .u64 0, .int .u32 0, .int .u32 0, .bool false] : Array Value).size = 5 := rfl
  rw [hs]
  unfold slotF
  generalize i % 5 = r at h5
  match r, h5 with
  | 0, _ => rfl
  | 1, _ => rfl
  | 2, _ => rfl
  | 3, _ => rfl
  | 4, _ => rfl

theorem heap3_0 (w : World) (x y z : Obj) : (((w.alloc x).alloc y).alloc z).heap[w.heap.size]? = some x := by
  show (((w.heap.push x).push y).push z)[w.heap.size]? = _
  simp only [Array.getElem?_push, Array.size_push]; rw [if_neg (by omega), if_neg (by omega), if_pos trivial]
theorem heap3_1 (w : World) (x y z : Obj) : (((w.alloc x).alloc y).alloc z).heap[w.heap.size + 1]? = some y := by
  show (((w.heap.push x).push y).push z)[w.heap.size + 1]? = _
  simp only [Array.getElem?_push, Array.size_push]; rw [if_neg (by omega), if_pos trivial]
theorem heap3_2 (w : World) (x y z : Obj) : (((w.alloc x).alloc y).alloc z).heap[w.heap.size + 1 + 1]? = some z := by
  show (((w.heap.push x).push y).push z)[w.heap.size + 1 + 1]? = _
  simp only [Array.getElem?_push, Array.size_push]; rw [if_pos trivial]
theorem grown3 (w : World) (x y z : Obj) (r : Option Nat) : w.grownBy ((((w.alloc x).alloc y).alloc z).drew) r :=
  have h := grownBy_trans (grownBy_trans (World.grownBy_alloc w x r) (World.grownBy_alloc _ y r)) (World.grownBy_alloc _ z r)
  ⟨h.os, h.tape, h.output, h.size, h.block⟩

theorem node_made1 (w : World) (me size : Int) (m s lb : Nat) :
    NodeIn w (((w.alloc (.cells #[.iface 25 (.pointer (some ⟨s, 0, none⟩))] 51)).alloc (.cells (madeCells #[.int .u64 0, .int .u64 0, .int .u32 0, .int .u32 0, .bool false] (m * 5)) 42)).alloc
      (.cells (nodeCells me size m w.heap.size (w.heap.size + 1) lb) 40)).drew me size m w.heap.size (w.heap.size + 1) (w.heap.size + 1 + 1) s lb (fun _ => 0) where
  node := heap3_2 w _ _ _
  rand := heap3_0 w _ _ _
  slots := by
    have h := (made42_row (w.alloc (.cells #[.iface 25 (.pointer (some ⟨s, 0, none⟩))] 51)) m).alloc (.cells (nodeCells me size m w.heap.size (w.heap.size + 1) lb) 40)
    simp only [World.size_alloc] at h
    exact h.drew
  rnew := Nat.le_refl _
  snew := by omega
  nnew := by omega
  ns := by omega
  nr := by omega
  rs := by omega
  grown := grown3 w _ _ _ _

theorem node_made2 (w : World) (me size : Int) (m s lb : Nat) :
    NodeIn w (((w.alloc (.cells (madeCells #[.int .u64 0, .int .u64 0, .int .u32 0, .int .u32 0, .bool false] (m * 5)) 42)).alloc (.cells #[.iface 25 (.pointer (some ⟨s, 0, none⟩))] 51)).alloc
      (.cells (nodeCells me size m (w.heap.size + 1) w.heap.size lb) 40)).drew me size m (w.heap.size + 1) w.heap.size (w.heap.size + 1 + 1) s lb (fun _ => 0) where
  node := heap3_2 w _ _ _
  rand := heap3_1 w _ _ _
  slots := (((made42_row w m).alloc _).alloc _).drew
  rnew := by omega
  snew := Nat.le_refl _
  nnew := by omega
  ns := by omega
  nr := by omega
  rs := by omega
  grown := grown3 w _ _ _ _

theorem cell_of_heap {w : World} {b : Nat} {cs : Array Value} {t : TypeId} (h : w.heap[b]? = some (.cells cs t (0, 0))) (i : Nat) : w.cell? ⟨b, i, none⟩ = cs[i]? := by
  simp [World.cell?, h]

theorem ValsAt.grown {w w' : World} {a : Option Addr} {len s : Nat} {zs : List Int} (h : ValsAt w a len zs) (hva : ∀ b off, 0 < len → a = some ⟨b, off, none⟩ → b < s) (hs : s < w.heap.size) (hg : w.grownBy w' (some s)) : ValsAt w' a len zs := by
  intro k hk
  obtain ⟨b, off, e, hc⟩ := h k hk
  have hb := hva b off (by omega) e
  exact ⟨b, off, e, hg.cell hc (by simp; omega)⟩

/-- One round of the loop that draws the seeds: the source has moved on (W1), then the k-th slot has been reset. -/
theorem node_step {w wr W1 : World} {me size : Int} {m rb sb nb s lb k : Nat} {d : Nat → Int} (h : NodeIn w wr me size m rb sb nb s lb d) (hs : s < w.heap.size) (hg : wr.grownBy W1 (some s)) (z : Int) :
    NodeIn w (resetW W1 sb (k * 5) z) me size m rb sb nb s lb (fun j => if j = k then z else d j) := by
  have hg2 := resetW_grown W1 sb (k * 5) z
  have hsz := h.slots.lt
  have e : ∀ b, b ≠ s → b ≠ sb → b < wr.heap.size → (resetW W1 sb (k * 5) z).heap[b]? = wr.heap[b]? := fun b hb hb2 hlt =>
    (hg2.block b (Nat.lt_of_lt_of_le hlt hg.size) (by simp; exact hb2)).trans (hg.block b hlt (by simp; exact hb))
  have lt_of : ∀ {b : Nat} {o : Obj}, wr.heap[b]? = some o → b < wr.heap.size := fun hb => (Array.getElem?_eq_some_iff.1 hb).1
  have hr := h.rnew
  have hn := h.nnew
  have hss := h.snew
  refine ⟨?_, ?_, ?_, h.rnew, h.snew, h.nnew, h.ns, h.nr, h.rs, ?_⟩
  · rw [e nb (by omega) h.ns (lt_of h.node)]; exact h.node
  · rw [e rb (by omega) h.rs (lt_of h.rand)]; exact h.rand
  · exact resetW_row z (h.slots.of_block (hg.block sb hsz (by simp; omega)))
  · refine ⟨hg2.os.trans (hg.os.trans h.grown.os), hg2.tape.trans (hg.tape.trans h.grown.tape), hg2.output.trans (hg.output.trans h.grown.output), Nat.le_trans h.grown.size (Nat.le_trans hg.size hg2.size), fun b hb hne => ?_⟩
    have hbs : b ≠ s := fun e => hne (by rw [e])
    rw [e b hbs (by omega) (Nat.lt_of_lt_of_le hb h.grown.size)]
    exact h.grown.block b hb hne

theorem grownBy_src (wr : World) (s : Nat) (v : Value) (n n1 : Nat) : wr.grownBy (((wr.drewN n1).setCell ⟨s, 1, none⟩ v).drewN n) (some s) :=
  have h := grownBy_set wr ⟨s, 1, none⟩ v
  ⟨h.os, h.tape, h.output, h.size, h.block⟩

theorem old3 (w : World) (x y z : Obj) {s : Nat} (hs : s < w.heap.size) : (((w.alloc x).alloc y).alloc z).drew.heap[s]? = w.heap[s]? := (grown3 w x y z none).block s hs (by simp)
structure SrcAt (w : World) (s : Nat) (a : Option Addr) (len cap k : Nat) : Prop where
  c0 : w.cell? ⟨s, 0, none⟩ = some (.slice a len cap)
  c1 : w.cell? ⟨s, 1, none⟩ = some (.int .i64 k)
  f1 : w.frozen? ⟨s, 1, none⟩ = false
theorem SrcAt.of_block {w w' : World} {s : Nat} {a : Option Addr} {len cap k : Nat} (h : SrcAt w s a len cap k) (e : w'.heap[s]? = w.heap[s]?) : SrcAt w' s a len cap k :=
  ⟨(World.cell?_of_block (a := ⟨s, 0, none⟩) e).trans h.c0, (World.cell?_of_block (a := ⟨s, 1, none⟩) e).trans h.c1, (World.frozen?_of_block (a := ⟨s, 1, none⟩) e).trans h.f1⟩
/-- The source behind one draw and the reset of a slot elsewhere. -/
theorem SrcAt.step {wr : World} {s : Nat} {a : Option Addr} {len cap k : Nat} (h : SrcAt wr s a len cap k) (n sb o : Nat) (hne : sb ≠ s) (z : Int) :
    SrcAt (resetW ((wr.setCell ⟨s, 1, none⟩ (.int .i64 (k + 1))).drewN n) sb o z) s a len cap (k + 1) := by
  have h1 : SrcAt ((wr.setCell ⟨s, 1, none⟩ (.int .i64 (k + 1))).drewN n) s a len cap (k + 1) :=
    ⟨(World.cell?_setCell_other wr ⟨s, 1, none⟩ ⟨s, 0, none⟩ _ (by simp)).trans h.c0, World.cell?_setCell_same wr ⟨s, 1, none⟩ _ h.c1, by rw [World.frozen?_drewN, World.frozen?_setCell]; exact h.f1⟩
  exact h1.of_block ((resetW_grown _ sb o z).block s (by have := World.block_lt_of_cell? _ _ h1.c0; exact this) (by simp; exact fun e => hne e.symm))

theorem keepA {wr : World} {s b : Nat} (h : b ≠ s) {o : Nat} {x : Value} (hx : wr.cell? ⟨b, o, none⟩ = some x) (v : Value) (n : Nat) : ((wr.setCell ⟨s, 1, none⟩ v).drewN n).cell? ⟨b, o, none⟩ = some x :=
  (grownBy_set wr ⟨s, 1, none⟩ v).cell hx (by simp; exact h)
theorem slotsA {wr : World} {s sb n5 : Nat} {f : Nat → Value} (h : wr.rowIs sb 42 n5 f) (hne : sb ≠ s) (v : Value) (n : Nat) : ((wr.setCell ⟨s, 1, none⟩ v).drewN n).rowIs sb 42 n5 f :=
  have h' := h.setOther (a := ⟨s, 1, none⟩) hne v
  h'
theorem keepB {W : World} {sb b : Nat} (h : b ≠ sb) {o o' : Nat} {x : Value} {z : Int} (hx : W.cell? ⟨b, o, none⟩ = some x) : (resetW W sb o' z).cell? ⟨b, o, none⟩ = some x :=
  (resetW_grown W sb o' z).cell hx (by simp; exact h)

set_option maxHeartbeats 1000000 in
theorem new_any (me size : Int) (m s lb : Nat) (a : Option Addr) (len cap : Nat) (zs : List Int) (w : World) (hm : m < 300) (hl : len ≤ 1024) (hv : ValsAt w a len zs) (hsw : s < w.heap.size)
    (hva : ∀ b off, 0 < len → a = some ⟨b, off, none⟩ → b < s) 
    (hsrc : SrcAt w s a len cap 0) :
    Calls Yba.prog 5 #[.int .u32 me, .int .i64 size, .int .i64 m, .func (.func 4) #[] #[.pointer (some ⟨lb, 0, none⟩)], .iface 25 (.pointer (some ⟨s, 0, none⟩))] w fun e w' =>
      ∃ rb sb nb, e = .returned (.pointer (some ⟨nb, 0, none⟩)) ∧ NodeIn w w' me size m rb sb nb s lb (fun i => if i < m then drawn len zs i else 0) ∧
        SrcAt w' s a len cap m := by
  have hmk := run_make42 m hm
  go_enter Yba.func5, Yba.ntmps5
  go_upto_region 1 with fail
  go_cut [11] (fun v wx => ∃ rb sb nb, v = .pointer (some ⟨nb, 0, none⟩) ∧ NodeIn w wx me size m rb sb nb s lb (fun _ => 0) ∧ SrcAt wx s a len cap 0)
  case first =>
    go_region_with (go_at_call 8; refine (newrand_any _ _).mono ?_; rintro e w' ⟨rfl, rfl⟩)
    · go_wp2_with fail
      go_meet
      case rel => exact ⟨w.heap.size, w.heap.size + 1, w.heap.size + 1 + 1, rfl, node_made1 w me size m s lb, hsrc.of_block (old3 w _ _ _ hsw)⟩
    · go_wp2_with fail
      go_meet
      case rel => exact ⟨w.heap.size + 1, w.heap.size, w.heap.size + 1 + 1, rfl, node_made2 w me size m s lb, hsrc.of_block (old3 w _ _ _ hsw)⟩
  case rest =>
    obtain ⟨rb, sb, nb, rfl, hN, hS⟩ := hcut
    have hn5 : wc.cell? ⟨nb, 5, none⟩ = some (.slice (some ⟨sb, 0, none⟩) m m) := cell_of_heap hN.node 5
    clear hmk hsrc
    go_wp2
    go_loopw [27] (fun i wr => ∃ k : Nat, k ≤ m ∧ i = .int .i64 k ∧ NodeIn w wr me size m rb sb nb s lb (fun j => if j < k then drawn len zs j else 0) ∧ SrcAt wr s a len cap k)
      (fun i _ => m - (intOf i).toNat)
    case atStart => exact ⟨0, Nat.zero_le _, rfl, by simpa using hN, hS⟩
    case round =>
      obtain ⟨k, hk, rfl, hNr, hSr⟩ := hrel
      have r5 : wr.cell? ⟨nb, 5, none⟩ = some (.slice (some ⟨sb, 0, none⟩) m m) := cell_of_heap hNr.node 5
      have r2 : wr.cell? ⟨nb, 2, none⟩ = some (.pointer (some ⟨rb, 0, none⟩)) := cell_of_heap hNr.node 2
      have rr : wr.cell? ⟨rb, 0, none⟩ = some (.iface 25 (.pointer (some ⟨s, 0, none⟩))) := cell_of_heap hNr.rand 0
      have rv : ValsAt wr a len zs := hv.grown hva hsw hNr.grown
      have hnbs : nb ≠ s := by have := hNr.nnew; omega
      have hsbs : sb ≠ s := by have := hNr.snew; omega
      clear hn5 hS hN
      by_cases hlt : k < m
      · have i1 : (0 : Int) ≤ (k : Int) := by omega
        have i2 : (k : Int) < (m : Int) := by omega
        go_wp2
        have hns := hNr.ns
        go_region_held3 (fun w' => w'.cell? ⟨nb, 5, none⟩ = some (.slice (some ⟨sb, 0, none⟩) m m) ∧ w'.cell? ⟨nb, 2, none⟩ = some (.pointer (some ⟨rb, 0, none⟩))) (first | (go_keep; done) | with_reducible exact ⟨keepA hnbs r5 _ _, keepA hnbs r2 _ _⟩ | with_reducible exact ⟨keepB hns (keepA hnbs r5 _ _), keepB hns (keepA hnbs r2 _ _)⟩) (first | (go_at_call 7; refine (rand_any rb s a len cap k zs _ hl (by omega) (by exact rv) (by exact rr) (by exact hSr.c0) (by exact hSr.c1) (by exact hSr.f1)).mono ?_; rintro e w' ⟨rfl, n, rfl⟩) | (go_at_call 6; refine (reset_any sb k m _ _ _ (by exact (slotsA hNr.slots hsbs _ _)) hlt).mono ?_; rintro e w' ⟨rfl, rfl⟩))
        have hd : ∀ j, (if j = k then drawn len zs k else if j < k then drawn len zs j else 0) = if j < k + 1 then drawn len zs j else 0 := by
          intro j
          by_cases e : j = k
          · subst e; simp
          · by_cases e2 : j < k
            · rw [if_neg e, if_pos e2, if_pos (by omega)]
            · rw [if_neg e, if_neg e2, if_neg (by omega)]
        have hN' := node_step (k := k) hNr hsw (grownBy_src wr s (.int .i64 ((k : Int) + 1)) (1 + n) 0) (drawn len zs k)
        rw [show (fun j => if j = k then drawn len zs k else if j < k then drawn len zs j else 0) = fun j => if j < k + 1 then drawn len zs j else 0 from funext hd] at hN'
        have hS' := hSr.step (1 + n) sb (k * 5) hsbs (drawn len zs k)
        clear hd hNr hSr r5 r2 rr rv
        go_wp2
        go_roundw
        case rel => exact ⟨k + 1, by omega, by go_num, hN', hS'⟩
        case measure => simp [intOf]; omega
      · have e : k = m := by omega
        subst e
        go_wp2
        go_ret
        exact ⟨rb, sb, nb, rfl, hNr, hSr⟩
end Go.Proofs.Ybulkzgw
