/-
  zzs1272cbuild.
-/
import Derived.Test.YbulkzhyCS
import Derived.Carry
namespace Go.Proofs.Ybulkzhy
open Go.RowKit
set_option linter.unusedVariables false

/-- The rows as a loop reads them. -/
def RowsAt (w : World) (a : Option Addr) (n : Nat) (ds : List (List Int)) : Prop :=
  ∀ r, r < n → ∃ b off A C, a = some ⟨b, off, none⟩ ∧ b < w.heap.size ∧ w.cell? ⟨b, off + r, none⟩ = some (.slice A (ds.getD r []).length C) ∧ (ds.getD r []).length ≤ maxLen ∧
    ((A = none ∧ (ds.getD r []).length = 0 ∧ C = 0) ∨ ((ds.getD r []).length = 0 ∧ ∃ ad, A = some ad) ∨ ∃ b' o', A = some ⟨b', o', none⟩ ∧ b' < w.heap.size ∧ ∀ c, c < (ds.getD r []).length → w.cell? ⟨b', o' + c, none⟩ = some (.int .i32 ((ds.getD r []).getD c 0)))

/-- The places ahead of row x. -/
def offs (ds : List (List Int)) (x : Nat) : Nat := ((ds.take x).map List.length).sum
theorem offs_zero (ds : List (List Int)) : offs ds 0 = 0 := rfl
theorem offs_succ {ds : List (List Int)} {x : Nat} (h : x < ds.length) : offs ds (x + 1) = offs ds x + (ds.getD x []).length := by
  unfold offs
  rw [List.take_succ_eq_append_getElem h, List.map_append, List.sum_append]
  simp only [List.map_cons, List.map_nil, List.sum_cons, List.sum_nil, Nat.add_zero]
  congr 1
  simp [h]

theorem Yba.info3 : (Yba.prog.info? 3).map (fun i => (i.zero, i.size, i.bytes)) = some (some (.int .i64 0), 1, 8) := by kernel_rfl
noncomputable def zero46 : Value := ((Yba.prog.info? 46).bind (·.zero)).getD default
theorem Yba.info46 : (Yba.prog.info? 46).map (fun i => (i.zero, i.size, i.bytes)) = some (some zero46, 3, 12) := by kernel_rfl
theorem zero46_cells : zero46.cells = #[.int .i32 0, .int .i32 0, .int .i32 0] := by kernel_rfl

theorem run_make38 (n : Nat) (hn : n ≤ 1024) (w : World) :
    (Instr.makeSlice 38 (.int .i64 ((n : Int) + 1 + 1)) (.int .i64 ((n : Int) + 1 + 1))).run Yba.prog w = .ok (.slice (some ⟨w.heap.size, 0, none⟩) (n + 2) (n + 2)) (w.alloc (.cells (madeCells #[.int .i64 0] (n + 2)) 3)) := by
  obtain ⟨i, hi, hz, hs, hb⟩ := info_parts Yba.info3
  have h := run_make (P := Yba.prog) w 38 3 i _ Yba.underlying38 hi hz .i64 .i64 ((n : Int) + 1 + 1) ((n : Int) + 1 + 1) (by omega) (by omega) (by rw [hb]; omega) (by omega)
  rw [hs] at h
  rw [show ((n : Int) + 1 + 1).toNat = n + 2 by omega] at h
  simpa [Value.cells] using h
theorem run_make39 (n : Nat) (hn : n ≤ 65536) (w : World) :
    (Instr.makeSlice 39 (.int .i64 0) (.int .i64 (n : Int))).run Yba.prog w = .ok (.slice (some ⟨w.heap.size, 0, none⟩) 0 n) (w.alloc (.cells (madeCells #[.int .i32 0, .int .i32 0, .int .i32 0] (n * 3)) 46)) := by
  obtain ⟨i, hi, hz, hs, hb⟩ := info_parts Yba.info46
  have h := run_make (P := Yba.prog) w 39 46 i _ Yba.underlying39 hi hz .i64 .i64 0 (n : Int) (by omega) (by omega) (by rw [hb]; omega) (by omega)
  rw [hs] at h
  rw [show ((n : Int)).toNat = n by omega, zero46_cells] at h
  simpa using h

/-- The table in memory: n rows; 'first' holds f; 'seeded' is sv; 'later' is empty. -/
structure Tab (w : World) (n : Nat) (f : Nat → Int) (sv : Value) (W : World) : Prop where
  below : Below w.heap.size w W
  size : w.heap.size + 4 ≤ W.heap.size
  tab : W.heap[w.heap.size + 2]? = some (.cells #[.slice (some ⟨w.heap.size, 0, none⟩) (n + 2) (n + 2), sv, .map (some (w.heap.size + 1))] 42 (0, 0))
  mp : W.heap[w.heap.size + 1]? = some (.map #[] 0)
  first : W.rowIs w.heap.size 3 (n + 2) (fun j => .int .i64 (f j))

theorem Tab.of_blocks {w W W' : World} {n : Nat} {f : Nat → Int} {sv : Value} (h : Tab w n f sv W) (hb : Below w.heap.size w W') (hs : W.heap.size ≤ W'.heap.size) (he : ∀ k, k < w.heap.size + 3 → W'.heap[k]? = W.heap[k]?) : Tab w n f sv W' :=
  ⟨hb, Nat.le_trans h.size hs, (he _ (by omega)).trans h.tab, (he _ (by omega)).trans h.mp, h.first.of_block (he _ (by omega))⟩
theorem Tab.keep {w W W' : World} {n : Nat} {f : Nat → Int} {sv : Value} (h : Tab w n f sv W) (hb : Below (w.heap.size + 3) W W') : Tab w n f sv W' :=
  h.of_blocks (h.below.trans (hb.mono (by omega))) hb.size hb.block
theorem Tab.grown {w W W' : World} {n : Nat} {f : Nat → Int} {sv : Value} (h : Tab w n f sv W) (hg : W.grownBy W' (some (w.heap.size + 3))) : Tab w n f sv W' :=
  h.keep ⟨hg.os, hg.tape, hg.output, hg.size, fun k hk => hg.block k (by have := h.size; omega) (fun e => by injection e with e; omega)⟩
theorem Tab.alloc {w W : World} {n : Nat} {f : Nat → Int} {sv : Value} (h : Tab w n f sv W) (o : Obj) : Tab w n f sv (W.alloc o) :=
  h.keep ((Below.refl _ _).alloc (by have := h.size; omega) o)
theorem Tab.setFirst {w W : World} {n : Nat} {f : Nat → Int} {sv : Value} (h : Tab w n f sv W) (i : Nat) (z : Int) : Tab w n (fun j => if j = i then z else f j) sv (W.setCell ⟨w.heap.size, i, none⟩ (.int .i64 z)) := by
  have hb : ∀ k, k ≠ w.heap.size → (W.setCell ⟨w.heap.size, i, none⟩ (.int .i64 z)).heap[k]? = W.heap[k]? := fun k hk => Below.heap_setCell _ _ _ _ hk
  refine ⟨h.below.setCell (Nat.le_refl _) _, by simpa [World.setCell] using h.size, (hb _ (by omega)).trans h.tab, (hb _ (by omega)).trans h.mp, ?_⟩
  exact (h.first.set i _).congr fun j _ => by split <;> rfl
theorem Tab.congr {w W : World} {n : Nat} {f f' : Nat → Int} {sv : Value} (h : Tab w n f sv W) (e : ∀ j, j < n + 2 → f j = f' j) : Tab w n f' sv W :=
  ⟨h.below, h.size, h.tab, h.mp, h.first.congr fun j hj => by rw [e j hj]⟩
theorem Tab.cell {w W : World} {n : Nat} {f : Nat → Int} {sv : Value} (h : Tab w n f sv W) :
    W.cell? ⟨w.heap.size + 2, 0, none⟩ = some (.slice (some ⟨w.heap.size, 0, none⟩) (n + 2) (n + 2)) ∧ W.cell? ⟨w.heap.size + 2, 1, none⟩ = some sv ∧ W.cell? ⟨w.heap.size + 2, 2, none⟩ = some (.map (some (w.heap.size + 1))) ∧
      W.frozen? ⟨w.heap.size + 2, 1, none⟩ = false := by
  refine ⟨?_, ?_, ?_, ?_⟩ <;> simp [World.cell?, World.frozen?, h.tab]

/-- A row's slots, cell by cell. -/
def rowC (x : Nat) (l : List Int) : List Value := l.zipIdx.flatMap fun p => [E32 p.1, E32 (p.2 : Int), E32 (x : Int)]
def flatC (ds : List (List Int)) (x : Nat) : List Value := (List.range x).flatMap fun r => rowC r (srt (ds.getD r []))
theorem flatC_succ (ds : List (List Int)) (x : Nat) : flatC ds (x + 1) = flatC ds x ++ rowC x (srt (ds.getD x [])) := by
  unfold flatC; rw [List.range_succ, List.flatMap_append]; simp
theorem rowC_snoc (x : Nat) (l : List Int) {j : Nat} (h : j < l.length) : rowC x (l.take (j + 1)) = rowC x (l.take j) ++ [E32 (l.getD j 0), E32 (j : Int), E32 (x : Int)] := by
  unfold rowC
  rw [List.take_succ_eq_append_getElem h, List.zipIdx_append, List.flatMap_append]
  simp [h, Nat.min_eq_left (Nat.le_of_lt h)]
theorem rowC_nil (x : Nat) (l : List Int) : rowC x (l.take 0) = [] := rfl

theorem RowV.lift {base base' : Nat} {w : World} {v : Value} {l : List Int} (h : RowV base w v l) (hb : base' ≤ base) : RowV base' w v l := by
  rcases h with h | ⟨g, cap, h1, h2, h3, h4⟩
  · exact Or.inl h
  · exact Or.inr ⟨g, cap, h1, Nat.le_trans hb h2, h3, h4⟩
theorem RowV.at {base m C : Nat} {A : Option Addr} {w : World} {l : List Int} (h : RowV base w (.slice A m C) l) : l.length = m ∧ ∀ t, t < m → ∃ g, A = some ⟨g, 0, none⟩ ∧ base ≤ g ∧ g < w.heap.size ∧ w.cell? ⟨g, t, none⟩ = some (.int .i32 (l.getD t 0)) := by
  obtain ⟨A', C', e, h2⟩ := h.read
  injection e with e1 e2 e3
  subst e1; subst e2
  refine ⟨rfl, fun t ht => ?_⟩
  obtain ⟨g, q1, q2, q3, q4⟩ := h2 t ht
  rw [Nat.zero_add] at q4
  exact ⟨g, q1, q2, q3, q4⟩
theorem heap_new (w : World) (o : Obj) : (w.alloc o).heap[w.heap.size]? = some o := by
  show (w.heap.push o)[w.heap.size]? = some o
  simp
theorem Yba.cloneS (A : Option Addr) (C m : Nat) (l : List Int) (w : World) (hm : l.length = m) (hn : m ≤ 65536)
    (hA : (A = none ∧ m = 0 ∧ C = 0) ∨ (m = 0 ∧ ∃ ad, A = some ad) ∨ ∃ b' o', A = some ⟨b', o', none⟩ ∧ b' < w.heap.size ∧ ∀ c, c < m → w.cell? ⟨b', o' + c, none⟩ = some (.int .i32 (l.getD c 0))) :
    Calls Yba.prog 13 #[.slice A m C] w fun e w' => ∃ A' C', e = .returned (.slice A' m C') ∧ RowV w.heap.size w' (.slice A' m C') l ∧ Below w.heap.size w w' := by
  subst hm
  refine (Yba.cloneV A C l w hn hA).mono ?_
  rintro e w' ⟨v, rfl, hr, hb⟩
  obtain ⟨A', C', rfl, -⟩ := hr.read
  exact ⟨A', C', rfl, hr, hb⟩
theorem offs_mono (ds : List (List Int)) {x y : Nat} (h : x ≤ y) : offs ds x ≤ offs ds y := by
  unfold offs
  obtain ⟨k, rfl⟩ : ∃ k, y = x + k := ⟨y - x, by omega⟩
  rw [List.take_add, List.map_append, List.sum_append]
  omega
theorem wrap32 (k : Nat) (h : k ≤ 65536) : IntKind.i32.wrap (k : Int) = (k : Int) := by
  rw [IntKind.wrap_i32]; omega

theorem owns_block {w w' : World} {base g n cap size : Nat} {e : TypeId} {xs : List Value} (h : w.ownsRow base e size (.slice (some ⟨g, 0, none⟩) n cap) n xs) (hb : w'.heap[g]? = w.heap[g]?) : w'.ownsRow base e size (.slice (some ⟨g, 0, none⟩) n cap) n xs := by
  refine ⟨h.1, ?_⟩
  rcases h.2 with ⟨h0, _⟩ | ⟨g', cap', cur, hv, hbase, hh, r⟩
  · cases h0
  · have e1 := hv
    injection e1 with e2
    injection e2 with e3
    injection e3 with e4
    subst e4
    exact Or.inr ⟨g, cap', cur, hv, hbase, hb.trans hh, r⟩
theorem RowV.grown {base k : Nat} {w w' : World} {v : Value} {l : List Int} (h : RowV base w v l) (hk : k < base) (hg : w.grownBy w' (some k)) : RowV base w' v l := by
  rcases h with h | ⟨g, cap, h1, h2, h3, h4⟩
  · exact Or.inl h
  · have hb : w'.heap[g]? = w.heap[g]? := hg.block g h3 (fun e => by injection e with e; omega)
    refine Or.inr ⟨g, cap, h1, h2, Nat.lt_of_lt_of_le h3 hg.size, fun j hj => ?_⟩
    have := h4 j hj
    exact ⟨(World.cell?_of_block (w := w) hb).trans this.1, (World.frozen?_of_block (w := w) hb).trans this.2⟩
theorem RowV.alloc {base : Nat} {w : World} {v : Value} {l : List Int} (h : RowV base w v l) (o : Obj) : RowV base (w.alloc o) v l := h.keep ((Below.refl _ _).alloc (Nat.le_refl _) o)
theorem Tab.setSeeded {w W : World} {n : Nat} {f : Nat → Int} {sv sv' : Value} (h : Tab w n f sv W) : Tab w n f sv' (W.setCell ⟨w.heap.size + 2, 1, none⟩ sv') := by
  have hb : ∀ k, k ≠ w.heap.size + 2 → (W.setCell ⟨w.heap.size + 2, 1, none⟩ sv').heap[k]? = W.heap[k]? := fun k hk => Below.heap_setCell _ _ _ _ hk
  refine ⟨h.below.setCell (by show w.heap.size ≤ w.heap.size + 2; omega) _, by simpa [World.setCell] using h.size, ?_, (hb _ (by omega)).trans h.mp, h.first.of_block (hb _ (by omega))⟩
  simp [World.setCell, Array.getElem?_modify, h.tab]

set_option maxRecDepth 100000 in
set_option maxHeartbeats 4000000 in
theorem build_any (a : Option Addr) (n c : Nat) (ds : List (List Int)) (w : World) (hn : n ≤ maxLen) (hl : ds.length = n) (hL : RowsAt w a n ds) :
    Calls Yba.prog 9 #[.slice a n c] w fun e w' => (e = .returned (.pointer none) ∧ Below w.heap.size w w') ∨
      (e = .returned (.pointer (some ⟨w.heap.size + 2, 0, none⟩)) ∧ Hid (n ≤ 1024 ∧ offs ds n ≤ 65536) ∧ Tab w n (fun j => (offs ds j : Int)) (.slice (some ⟨w.heap.size + 3, 0, none⟩) (offs ds n) (offs ds n)) w' ∧
        w'.ownsRow (w.heap.size + 3) 46 3 (.slice (some ⟨w.heap.size + 3, 0, none⟩) (offs ds n) (offs ds n)) (offs ds n) (flatC ds n)) := by
  have hnm : n ≤ 9223372036854775807 := hn
  have HL : Hid (ds.length = n) := hl
  have HR : Hid (RowsAt w a n ds) := hL
  clear hl hL
  by_cases hbig : 1024 < n
  · have hbigz : (1024 : Int) < (n : Int) := by omega
    go_enter Yba.func9, Yba.ntmps9
    go_wp2
    go_ret
    exact Or.inl ⟨rfl, Below.refl _ _⟩
  have hsm : ¬ ((1024 : Int) < (n : Int)) := by omega
  go_enter Yba.func9, Yba.ntmps9
  go_wp2
  go_loopg [3, 19] n (fun k s3 s19 wr => ∃ i : Nat, s3 = .int .i64 (offs ds i) ∧ s19 = .int .i64 i ∧ i ≤ n ∧ n - i ≤ k ∧ offs ds i ≤ 65536 ∧ w = wr)
  case atStart => exact ⟨0, rfl, rfl, Nat.zero_le _, by omega, by rw [offs_zero]; omega, rfl⟩
  case round =>
    obtain ⟨i, rfl, rfl, hi, hk, hof, rfl⟩ := hrel
    by_cases hin : i < n
    · have hinz : (i : Int) < (n : Int) := by omega
      obtain ⟨b, off, A, C, ea, hbw, hcell, hrm, -⟩ := HR.out i hin
      subst ea
      have HO : Hid (offs ds (i + 1) = offs ds i + (ds.getD i []).length) := offs_succ (by rw [HL.out]; exact hin)
      generalize (ds.getD i []).length = m at hcell HO hrm
      have hrm' : m ≤ 9223372036854775807 := hrm
      by_cases hm : 65536 < m
      · have hmz : (65536 : Int) < (m : Int) := by omega
        go_wp2
        go_ret
        exact Or.inl ⟨rfl, Below.refl _ _⟩
      · have hmz : ¬ ((65536 : Int) < (m : Int)) := by omega
        by_cases ht : 65536 < offs ds i + m
        · have htz : (65536 : Int) < ((offs ds i : Nat) : Int) + (m : Int) := by omega
          go_wp2
          go_ret
          exact Or.inl ⟨rfl, Below.refl _ _⟩
        · have htz : ¬ ((65536 : Int) < ((offs ds i : Nat) : Int) + (m : Int)) := by omega
          go_wp2
          go_roundg (n - (i + 1))
          case measure => omega
          case rel => exact ⟨i + 1, by rw [HO.out]; simp, by go_num, by omega, Nat.le_refl _, by rw [HO.out]; omega, rfl⟩
    · obtain rfl : i = n := by omega
      have hinz : ¬ ((i : Int) < (i : Int)) := by omega
      have hm38 := run_make38 i (by omega)
      have hm39 := run_make39 (offs ds i) hof
      have hmm := @run_makeMap Yba.prog
      go_wp2
      clear hm38 hm39 hmm
      have HT0 : Hid (Tab w i (fun j => if j ≤ 0 then (offs ds j : Int) else 0) (.slice none 0 0) ((((w.alloc (.cells (madeCells #[.int .i64 0] (i + 2)) 3)).alloc (.map #[] 0)).alloc (.cells #[.slice (some ⟨w.heap.size, 0, none⟩) (i + 2) (i + 2), .slice none 0 0, .map (some (w.heap.size + 1))] 42)).alloc (.cells (madeCells #[.int .i32 0, .int .i32 0, .int .i32 0] (offs ds i * 3)) 46)) ∧
          ((((w.alloc (.cells (madeCells #[.int .i64 0] (i + 2)) 3)).alloc (.map #[] 0)).alloc (.cells #[.slice (some ⟨w.heap.size, 0, none⟩) (i + 2) (i + 2), .slice none 0 0, .map (some (w.heap.size + 1))] 42)).alloc (.cells (madeCells #[.int .i32 0, .int .i32 0, .int .i32 0] (offs ds i * 3)) 46)).ownsRow (w.heap.size + 3) 46 3 (.slice (some ⟨w.heap.size + 3, 0, none⟩) 0 (offs ds i)) 0 []) := by
        have e1 : (((w.alloc (.cells (madeCells #[.int .i64 0] (i + 2)) 3)).alloc (.map #[] 0)).alloc (.cells #[.slice (some ⟨w.heap.size, 0, none⟩) (i + 2) (i + 2), .slice none 0 0, .map (some (w.heap.size + 1))] 42)).heap.size = w.heap.size + 3 := by simp
        refine ⟨⟨((((Below.refl _ _).alloc (Nat.le_refl _) _).alloc (by simp <;> omega) _).alloc (by simp <;> omega) _).alloc (by simp <;> omega) _, by simp, ?_, ?_, ?_⟩, ?_⟩
        · rw [Below.heap_alloc _ _ _ (by simp)]
          have := heap_new ((w.alloc (.cells (madeCells #[.int .i64 0] (i + 2)) 3)).alloc (.map #[] 0)) (.cells #[.slice (some ⟨w.heap.size, 0, none⟩) (i + 2) (i + 2), .slice none 0 0, .map (some (w.heap.size + 1))] 42)
          simpa using this
        · rw [Below.heap_alloc _ _ _ (by simp <;> omega), Below.heap_alloc _ _ _ (by simp)]
          have := heap_new (w.alloc (.cells (madeCells #[.int .i64 0] (i + 2)) 3)) (.map #[] 0)
          simpa using this
        · refine ((((World.rowIs_made w (.int .i64 0) (i + 2) 3).alloc _).alloc _).alloc _).congr fun j _ => ?_
          by_cases hj : j = 0
          · subst hj; simp [offs_zero]
          · rw [if_neg (by omega)]
        · have := World.ownsRow_made (((w.alloc (.cells (madeCells #[.int .i64 0] (i + 2)) 3)).alloc (.map #[] 0)).alloc (.cells #[.slice (some ⟨w.heap.size, 0, none⟩) (i + 2) (i + 2), .slice none 0 0, .map (some (w.heap.size + 1))] 42)) (e := 46) (size := 3) (base := w.heap.size + 3) (madeCells #[.int .i32 0, .int .i32 0, .int .i32 0] (offs ds i * 3)) (offs ds i) (by omega) (by unfold maxLen; omega) (by rw [size_madeCells])
          rw [e1] at this
          exact this
      generalize ((((w.alloc (.cells (madeCells #[.int .i64 0] (i + 2)) 3)).alloc (.map #[] 0)).alloc (.cells #[.slice (some ⟨w.heap.size, 0, none⟩) (i + 2) (i + 2), .slice none 0 0, .map (some (w.heap.size + 1))] 42)).alloc (.cells (madeCells #[.int .i32 0, .int .i32 0, .int .i32 0] (offs ds i * 3)) 46)) = W0 at HT0 ⊢
      go_loopg [8, 46] i (fun k s8 s46 wr => ∃ x : Nat, s46 = .int .i64 x ∧ x ≤ i ∧ i - x ≤ k ∧ s8 = .slice (some ⟨w.heap.size + 3, 0, none⟩) (offs ds x) (offs ds i) ∧ Tab w i (fun j => if j ≤ x then (offs ds j : Int) else 0) (.slice none 0 0) wr ∧
          wr.ownsRow (w.heap.size + 3) 46 3 (.slice (some ⟨w.heap.size + 3, 0, none⟩) (offs ds x) (offs ds i)) (offs ds x) (flatC ds x))
      case atStart => exact ⟨0, rfl, Nat.zero_le _, by omega, rfl, HT0.out.1, HT0.out.2⟩
      case round =>
        obtain ⟨x, rfl, hx, hk2, rfl, htab, hown⟩ := hrel
        clear HT0
        have HT : Hid (Tab w i (fun j => if j ≤ x then (offs ds j : Int) else 0) (.slice none 0 0) wr) := htab
        have HW : Hid (wr.ownsRow (w.heap.size + 3) 46 3 (.slice (some ⟨w.heap.size + 3, 0, none⟩) (offs ds x) (offs ds i)) (offs ds x) (flatC ds x)) := hown
        clear htab hown
        by_cases hxn : x < i
        · have hxz : (x : Int) < (i : Int) := by omega
          obtain ⟨b, off, A, C, ea, hbw, hcell, hrm, hA⟩ := HR.out x hxn
          subst ea
          have HO : Hid (offs ds (x + 1) = offs ds x + (ds.getD x []).length) := offs_succ (by rw [HL.out]; exact hxn)
          have hmono : offs ds (x + 1) ≤ offs ds i := offs_mono ds (by omega)
          obtain ⟨l, hl⟩ : ∃ l, l = ds.getD x [] := ⟨_, rfl⟩
          rw [← hl] at hcell hrm hA HO
          obtain ⟨m, hm⟩ : ∃ m, m = l.length := ⟨_, rfl⟩
          rw [← hm] at hcell hrm hA HO
          have hOz := HO.out
          have hm16 : m ≤ 65536 := by omega
          have hcell' : wr.cell? ⟨b, off + x, none⟩ = some (.slice A m C) := (HT.out.below.cell (p := ⟨b, off + x, none⟩) hbw).trans hcell
          have hA' : (A = none ∧ m = 0 ∧ C = 0) ∨ (m = 0 ∧ ∃ ad, A = some ad) ∨ ∃ b' o', A = some ⟨b', o', none⟩ ∧ b' < wr.heap.size ∧ ∀ c, c < m → wr.cell? ⟨b', o' + c, none⟩ = some (.int .i32 (l.getD c 0)) := by
            rcases hA with h | h | ⟨b', o', h1, h2, h3⟩
            · exact Or.inl h
            · exact Or.inr (Or.inl h)
            · exact Or.inr <| Or.inr ⟨b', o', h1, Nat.lt_of_lt_of_le h2 HT.out.below.size, fun c hc => (HT.out.below.cell (p := ⟨b', o' + c, none⟩) h2).trans (h3 c hc)⟩
          have hcl := Yba.cloneS A C m l wr hm.symm hm16 hA'
          have hso : ∀ A' C' w1, RowV wr.heap.size w1 (.slice A' m C') l → Calls Yba.prog 14 #[.slice A' m C'] w1 fun e w' => e = .returned (.tuple #[]) ∧ RowV wr.heap.size w' (.slice A' m C') (srt l) ∧ Below wr.heap.size w1 w' := fun A' C' w1 h => Yba.sortV h (by omega)
          have HM : Hid (m = l.length ∧ l = ds.getD x []) := ⟨hm, hl⟩
          have hww := HT.out.size
          clear hA hA' hcell hm hl hOz
          go_wp2_with (first
            | (go_at_call 13; refine hcl.mono ?_; rintro e w1 ⟨A', C', rfl, hr1, hb1⟩)
            | (go_at_call 14; refine (hso _ _ _ hr1).mono ?_; rintro e w2 ⟨rfl, hr2, hb2⟩))
          have HT2 : Hid (Tab w i (fun j => if j ≤ x then (offs ds j : Int) else 0) (.slice none 0 0) w2) := HT.out.keep ((hb1.trans hb2).mono (by omega))
          have HW2 : Hid (w2.ownsRow (w.heap.size + 3) 46 3 (.slice (some ⟨w.heap.size + 3, 0, none⟩) (offs ds x) (offs ds i)) (offs ds x) (flatC ds x)) := owns_block HW.out ((hb1.trans hb2).block _ (by omega))
          have HR2 : Hid (RowV (w.heap.size + 4) w2 (.slice A' m C') (srt l)) := hr2.lift hww
          clear hr1 hb1 hr2 hb2 hcl hso HT HW hcell'
          go_loopg [8, 57] m (fun k s8 s57 w3 => ∃ j : Nat, s57 = .int .i64 j ∧ j ≤ m ∧ m - j ≤ k ∧ s8 = .slice (some ⟨w.heap.size + 3, 0, none⟩) (offs ds x + j) (offs ds i) ∧ Hid (Tab w i (fun j => if j ≤ x then (offs ds j : Int) else 0) (.slice none 0 0) w3) ∧
              Hid (w3.ownsRow (w.heap.size + 3) 46 3 (.slice (some ⟨w.heap.size + 3, 0, none⟩) (offs ds x + j) (offs ds i)) (offs ds x + j) (flatC ds x ++ rowC x ((srt l).take j))) ∧ Hid (RowV (w.heap.size + 4) w3 (.slice A' m C') (srt l)))
          case atStart => exact ⟨0, rfl, Nat.zero_le _, by omega, rfl, HT2, by rw [rowC_nil, List.append_nil]; exact HW2, HR2⟩
          case round =>
            obtain ⟨j, rfl, hj, hk3, rfl, HT3, HW3, HR3⟩ := hrel
            clear HT2 HW2 HR2
            by_cases hjm : j < m
            · have hjz : (j : Int) < (m : Int) := by omega
              obtain ⟨g, eA, hg1, hg2, hgc⟩ := HR3.out.at.2 j hjm
              subst eA
              have hw1 := wrap32 j (by omega)
              have hw2 := wrap32 x (by omega)
              have HC : Hid (rowC x ((srt l).take (j + 1)) = rowC x ((srt l).take j) ++ [E32 ((srt l).getD j 0), E32 (j : Int), E32 (x : Int)]) := rowC_snoc x (srt l) (by rw [srt_length, ← HM.out.1]; exact hjm)
              generalize (srt l).getD j 0 = v at hgc HC
              have hown4 : ∀ o : Obj, (wr.alloc o).ownsRow (w.heap.size + 3) 46 3 (.slice (some ⟨w.heap.size + 3, 0, none⟩) (offs ds x + j) (offs ds i)) (offs ds x + j) (flatC ds x ++ rowC x ((srt l).take j)) := fun o => HW3.out.alloc o
              have hnews : ∀ q u, [Value.int .i32 v, .int .i32 (j : Int), .int .i32 (x : Int)][q]? = some u → (wr.alloc (.cells #[.int .i32 v, .int .i32 (j : Int), .int .i32 (x : Int)] 46)).cell? ((⟨wr.heap.size, 0, none⟩ : Addr).add q) = some u := fun q u hu => by
                rw [Addr.add_lit, Nat.zero_add, World.cell?_alloc_at _ _ _ _ (by simp)]
                simpa using hu
              have hroom : offs ds x + j + 1 ≤ offs ds i := by have := HO.out; omega
              obtain ⟨i0, hi0, hz0, hz1, hz2⟩ := info_parts Yba.info46
              go_wp2_with (at_builtin; refine wpList_append_own_spare _ rfl _ _ _ rfl (w.heap.size + 3) 46 i0 3 Yba.underlying39 hi0 hz1 (w.heap.size + 3) (offs ds x + j) (offs ds i) _ rfl (hown4 _) ⟨wr.heap.size, 0, none⟩ 1 1 [.int .i32 v, .int .i32 (j : Int), .int .i32 (x : Int)] rfl rfl hnews (by intro u hu; simp at hu; rcases hu with rfl | rfl | rfl <;> rfl) hroom ?_)
              intro w4 hown5 hg5
              have HN : Hid (Tab w i (fun j => if j ≤ x then (offs ds j : Int) else 0) (.slice none 0 0) w4 ∧ w4.ownsRow (w.heap.size + 3) 46 3 (.slice (some ⟨w.heap.size + 3, 0, none⟩) (offs ds x + (j + 1)) (offs ds i)) (offs ds x + (j + 1)) (flatC ds x ++ rowC x ((srt l).take (j + 1))) ∧ RowV (w.heap.size + 4) w4 (.slice (some ⟨g, 0, none⟩) m C') (srt l)) := by
                refine ⟨(HT3.out.alloc _).grown hg5, ?_, (HR3.out.alloc _).grown (by omega) hg5⟩
                rw [HC.out]
                exact hown5
              clear hown4 hown5 hg5 hnews HT3 HW3 HR3 HC hgc
              go_wp2
              go_roundg (m - (j + 1))
              case measure => omega
              case rel => exact ⟨j + 1, by go_num, by omega, Nat.le_refl _, rfl, HN.out.1, HN.out.2.1, HN.out.2.2⟩
            · obtain rfl : j = m := by omega
              have hjz : ¬ ((j : Int) < (j : Int)) := by omega
              have hc0 : wr.cell? ⟨w.heap.size + 1 + 1, 0, none⟩ = some (.slice (some ⟨w.heap.size, 0, none⟩) (i + 2) (i + 2)) := HT3.out.cell.1
              have hc1 := HT3.out.first.cell (show x + 1 < i + 2 by omega)
              have hf1 := HT3.out.first.frozen (x + 1)
              have HN : Hid (Tab w i (fun j => if j ≤ x + 1 then (offs ds j : Int) else 0) (.slice none 0 0) (wr.setCell ⟨w.heap.size, x + 1, none⟩ (.int .i64 ((offs ds x : Int) + (j : Int)))) ∧ (wr.setCell ⟨w.heap.size, x + 1, none⟩ (.int .i64 ((offs ds x : Int) + (j : Int)))).ownsRow (w.heap.size + 3) 46 3 (.slice (some ⟨w.heap.size + 3, 0, none⟩) (offs ds (x + 1)) (offs ds i)) (offs ds (x + 1)) (flatC ds (x + 1))) := by
                have e1 : (srt l).take j = srt l := List.take_of_length_le (by rw [srt_length, ← HM.out.1]; exact Nat.le_refl _)
                constructor
                · refine (HT3.out.setFirst (x + 1) _).congr fun q _ => ?_
                  by_cases hq : q = x + 1
                  · subst hq; simp [HO.out]
                  · rw [if_neg hq]
                    by_cases hq2 : q ≤ x
                    · rw [if_pos hq2, if_pos (by omega)]
                    · rw [if_neg hq2, if_neg (by omega)]
                · have := HW3.out
                  rw [e1, HM.out.2, ← flatC_succ, ← HO.out] at this
                  exact ownsRow_setCell_below this (by show w.heap.size < w.heap.size + 3; omega) _
              clear HT3 HW3 HR3
              go_wp2
              go_roundg (i - (x + 1))
              case measure => omega
              case rel => exact ⟨x + 1, by go_num, by omega, Nat.le_refl _, by rw [HO.out], HN.out.1, HN.out.2⟩
        · obtain rfl : x = i := by omega
          have hxz : ¬ ((x : Int) < (x : Int)) := by omega
          have hc0 : wr.cell? ⟨w.heap.size + 1 + 1, 0, none⟩ = some (.slice (some ⟨w.heap.size, 0, none⟩) (x + 2) (x + 2)) := HT.out.cell.1
          have hc1 := HT.out.first.cell (show x + 1 < x + 2 by omega)
          have hf1 := HT.out.first.frozen (x + 1)
          have HN : Hid (Tab w x (fun j => (offs ds j : Int)) (.slice none 0 0) (wr.setCell ⟨w.heap.size, x + 1, none⟩ (.int .i64 (offs ds x : Int))) ∧ (wr.setCell ⟨w.heap.size, x + 1, none⟩ (.int .i64 (offs ds x : Int))).ownsRow (w.heap.size + 3) 46 3 (.slice (some ⟨w.heap.size + 3, 0, none⟩) (offs ds x) (offs ds x)) (offs ds x) (flatC ds x)) := by
            refine ⟨(HT.out.setFirst (x + 1) _).congr fun q hq => ?_, ownsRow_setCell_below HW.out (by show w.heap.size < w.heap.size + 3; omega) _⟩
            by_cases hq1 : q = x + 1
            · subst hq1
              rw [if_pos rfl]
              congr 1
              unfold offs
              rw [List.take_of_length_le (Nat.le_of_eq HL.out), List.take_of_length_le (by rw [HL.out]; omega)]
            · rw [if_neg hq1, if_pos (by omega)]
          have HF : Hid (Tab w x (fun j => (offs ds j : Int)) (.slice (some ⟨w.heap.size + 3, 0, none⟩) (offs ds x) (offs ds x)) ((wr.setCell ⟨w.heap.size, x + 1, none⟩ (.int .i64 (offs ds x : Int))).setCell ⟨w.heap.size + 2, 1, none⟩ (.slice (some ⟨w.heap.size + 3, 0, none⟩) (offs ds x) (offs ds x))) ∧
              ((wr.setCell ⟨w.heap.size, x + 1, none⟩ (.int .i64 (offs ds x : Int))).setCell ⟨w.heap.size + 2, 1, none⟩ (.slice (some ⟨w.heap.size + 3, 0, none⟩) (offs ds x) (offs ds x))).ownsRow (w.heap.size + 3) 46 3 (.slice (some ⟨w.heap.size + 3, 0, none⟩) (offs ds x) (offs ds x)) (offs ds x) (flatC ds x)) :=
            ⟨HN.out.1.setSeeded, ownsRow_setCell_below HN.out.2 (by show w.heap.size + 2 < w.heap.size + 3; omega) _⟩
          have hc2 : (wr.setCell ⟨w.heap.size, x + 1, none⟩ (.int .i64 (offs ds x : Int))).cell? ⟨w.heap.size + 1 + 1, 1, none⟩ = some (.slice none 0 0) := HN.out.1.cell.2.1
          have hf2 : (wr.setCell ⟨w.heap.size, x + 1, none⟩ (.int .i64 (offs ds x : Int))).frozen? ⟨w.heap.size + 1 + 1, 1, none⟩ = false := HN.out.1.cell.2.2.2
          have HS : Hid (Hid (x ≤ 1024 ∧ offs ds x ≤ 65536)) := ⟨by omega, hof⟩
          clear HN HT HW
          go_wp2
          go_ret
          exact Or.inr ⟨rfl, HS.out.out.1, HF.out.1, HF.out.2⟩
end Go.Proofs.Ybulkzhy
