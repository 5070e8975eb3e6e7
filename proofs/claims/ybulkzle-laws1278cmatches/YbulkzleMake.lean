/-
  zzs1278cmake: the owners, the two jobs, and what each look-up gives.
-/
import Derived.Test.YbulkzleKept
namespace Go.Proofs.Ybulkzle
open Go.RowKit Go.ChangeMaps
set_option linter.unusedVariables false

/-! ### blocks laid one behind another -/
theorem hp0 (v : World) (x : Obj) : (v.alloc x).heap[v.heap.size]? = some x := heap_alloc_new v x
theorem hp1 (v : World) (x y : Obj) : ((v.alloc x).alloc y).heap[v.heap.size]? = some x := by rw [Below.heap_alloc _ _ _ (by simp), hp0]
theorem hp2 (v : World) (x y z : Obj) : (((v.alloc x).alloc y).alloc z).heap[v.heap.size]? = some x := by rw [Below.heap_alloc _ _ _ (by simp; omega), hp1]
theorem hp3 (v : World) (x y z u : Obj) : ((((v.alloc x).alloc y).alloc z).alloc u).heap[v.heap.size]? = some x := by rw [Below.heap_alloc _ _ _ (by simp; omega), hp2]
theorem hq0 (v : World) (x y : Obj) : ((v.alloc x).alloc y).heap[v.heap.size + 1]? = some y := by have := hp0 (v.alloc x) y; rwa [World.size_alloc] at this
theorem hq1 (v : World) (x y z : Obj) : (((v.alloc x).alloc y).alloc z).heap[v.heap.size + 1]? = some y := by have := hp1 (v.alloc x) y z; rwa [World.size_alloc] at this
theorem hq2 (v : World) (x y z u : Obj) : ((((v.alloc x).alloc y).alloc z).alloc u).heap[v.heap.size + 1]? = some y := by have := hp2 (v.alloc x) y z u; rwa [World.size_alloc] at this
theorem hr0 (v : World) (x y z : Obj) : (((v.alloc x).alloc y).alloc z).heap[v.heap.size + 1 + 1]? = some z := by have := hq0 (v.alloc x) y z; rwa [World.size_alloc] at this
theorem hr1 (v : World) (x y z u : Obj) : ((((v.alloc x).alloc y).alloc z).alloc u).heap[v.heap.size + 1 + 1]? = some z := by have := hq1 (v.alloc x) y z u; rwa [World.size_alloc] at this
theorem hs0 (v : World) (x y z u : Obj) : ((((v.alloc x).alloc y).alloc z).alloc u).heap[v.heap.size + 1 + 1 + 1]? = some u := by have := hr0 (v.alloc x) y z u; rwa [World.size_alloc] at this
/-! ### the same, the number of the first block given -/
theorem hp0' {v : World} {n : Nat} (h : n = v.heap.size) (x : Obj) : (v.alloc x).heap[n]? = some x := by subst h; exact hp0 v x
theorem hp1' {v : World} {n : Nat} (h : n = v.heap.size) (x y : Obj) : ((v.alloc x).alloc y).heap[n]? = some x := by subst h; exact hp1 v x y
theorem hp2' {v : World} {n : Nat} (h : n = v.heap.size) (x y z : Obj) : (((v.alloc x).alloc y).alloc z).heap[n]? = some x := by subst h; exact hp2 v x y z
theorem hp3' {v : World} {n : Nat} (h : n = v.heap.size) (x y z u : Obj) : ((((v.alloc x).alloc y).alloc z).alloc u).heap[n]? = some x := by subst h; exact hp3 v x y z u
theorem hq0' {v : World} {n : Nat} (h : n = v.heap.size) (x y : Obj) : ((v.alloc x).alloc y).heap[n + 1]? = some y := by subst h; exact hq0 v x y
theorem hq1' {v : World} {n : Nat} (h : n = v.heap.size) (x y z : Obj) : (((v.alloc x).alloc y).alloc z).heap[n + 1]? = some y := by subst h; exact hq1 v x y z
theorem hq2' {v : World} {n : Nat} (h : n = v.heap.size) (x y z u : Obj) : ((((v.alloc x).alloc y).alloc z).alloc u).heap[n + 1]? = some y := by subst h; exact hq2 v x y z u
theorem hr0' {v : World} {n : Nat} (h : n = v.heap.size) (x y z : Obj) : (((v.alloc x).alloc y).alloc z).heap[n + 1 + 1]? = some z := by subst h; exact hr0 v x y z
theorem hr1' {v : World} {n : Nat} (h : n = v.heap.size) (x y z u : Obj) : ((((v.alloc x).alloc y).alloc z).alloc u).heap[n + 1 + 1]? = some z := by subst h; exact hr1 v x y z u
theorem hs0' {v : World} {n : Nat} (h : n = v.heap.size) (x y z u : Obj) : ((((v.alloc x).alloc y).alloc z).alloc u).heap[n + 1 + 1 + 1]? = some u := by subst h; exact hs0 v x y z u
theorem cell_h {w : World} {b : Nat} {c : Array Value} {v : Value} {t : TypeId} (h : w.heap[b]? = some (.cells c t (0, 0))) (hv : c[0]? = some v) : w.cell? ⟨b, 0, none⟩ = some v := by simp [World.cell?, h, hv]

theorem set_last (xs : Array Obj) (a b : Obj) : (xs.push a).setIfInBounds xs.size b = xs.push b := by
  apply Array.ext_getElem?
  intro i
  rw [Array.getElem?_setIfInBounds, Array.getElem?_push, Array.getElem?_push]
  by_cases h : xs.size = i
  · subst h; simp
  · rw [if_neg h, if_neg (fun e => h e.symm), if_neg (fun e => h e.symm)]
theorem upd1 (w : World) (mb : Nat) (a : Addr) (v : Value) (h : mb = w.heap.size) :
    (Instr.mapUpdate 43 (.map (some mb)) (.pointer (some a)) v).run Yba.prog (w.alloc (.map #[] 0)) = .ok () (w.alloc (.map #[⟨.pointer (some a), v, 0⟩] 1)) := by
  subst h
  rw [upd_first _ _ a v (hp0 w _)]
  congr 1
  show ({ (w.alloc (.map #[] 0)) with heap := (w.heap.push _).setIfInBounds w.heap.size _ } : World) = _
  rw [set_last]
  rfl

theorem upd2 (v : World) (c1 c2 : Array Value) (tb jb mb : Nat) (s1 s2 : Value) (h1 : tb = v.heap.size) (h2 : jb = v.heap.size + 1) (h3 : mb = v.heap.size + 1 + 1) :
    (Instr.mapUpdate 43 (.map (some mb)) (.pointer (some ⟨jb, 0, none⟩)) s2).run Yba.prog (((v.alloc (.cells c1 36)).alloc (.cells c2 36)).alloc (.map #[⟨.pointer (some ⟨tb, 0, none⟩), s1, 0⟩] 1)) =
      .ok () (((v.alloc (.cells c1 36)).alloc (.cells c2 36)).alloc (.map #[⟨.pointer (some ⟨tb, 0, none⟩), s1, 0⟩, ⟨.pointer (some ⟨jb, 0, none⟩), s2, 1⟩] 2)) := by
  subst h1 h2 h3
  rw [upd_second _ _ (a := ⟨v.heap.size + 1, 0, none⟩) (b := ⟨v.heap.size, 0, none⟩) (by simp) ⟨_, _, hq1 v _ _ _⟩ ⟨_, _, hp2 v _ _ _⟩ s1 s2 (hr0 v _ _ _)]
  congr 1
  show ({ (((v.alloc (.cells c1 36)).alloc (.cells c2 36)).alloc (.map #[⟨.pointer (some ⟨v.heap.size, 0, none⟩), s1, 0⟩] 1)) with heap := (((v.heap.push _).push _).push _).setIfInBounds (v.heap.size + 1 + 1) _ } : World) = _
  rw [show v.heap.size + 1 + 1 = ((v.heap.push (.cells c1 36)).push (.cells c2 36)).size by simp, set_last]
  rfl

/-- What zzs1278cmake leaves. -/
structure Made (w w' : World) (ob : Nat) (r : Option Nat) (t j : Addr) (a : ByteArray) (ka : Bool) (ra : Int) (b : ByteArray) (kb : Bool) (rb : Int) : Prop where
  cell : w'.cell? ⟨ob, 0, none⟩ = some (.map r)
  lt : ob < w'.heap.size
  lookT : Looks w' r t a ka ra
  lookJ : Looks w' r j b kb rb
  below : Below w.heap.size w w'

theorem Looks.nil (w : World) (p : Addr) : Looks w none p ByteArray.empty false 0 := fun w' _ => look_nil w' _
theorem Looks.hit {w : World} {mb : Nat} {p : Addr} {a : ByteArray} {k : Bool} {x : Int} {n c : Nat} {es : List MapEntry} (h : w.heap[mb]? = some (.map (⟨.pointer (some p), .agg #[.string a, .bool k, .int .i64 x], n⟩ :: es).toArray c)) : Looks w (some mb) p a k x :=
  fun w' hb => look_hit w' mb p _ n c es ((hb.block mb (Array.getElem?_eq_some_iff.1 h).1).trans h)
theorem plain_later {w w' : World} {b : Nat} {c : Array Value} {t : TypeId} (h : w.heap[b]? = some (.cells c t (0, 0))) (hb : Below w.heap.size w w') : Plain w' b := ⟨c, t, (hb.block b (Array.getElem?_eq_some_iff.1 h).1).trans h⟩
theorem Looks.miss {w : World} {mb bp bq : Nat} {cp cq : Array Value} {tp tq : TypeId} {v : Value} {n c : Nat} (hne : bp ≠ bq) (hp : w.heap[bp]? = some (.cells cp tp (0, 0))) (hq : w.heap[bq]? = some (.cells cq tq (0, 0))) (h : w.heap[mb]? = some (.map #[⟨.pointer (some ⟨bq, 0, none⟩), v, n⟩] c)) : Looks w (some mb) ⟨bp, 0, none⟩ ByteArray.empty false 0 :=
  fun w' hb => look_miss1 w' mb (a := ⟨bp, 0, none⟩) (b := ⟨bq, 0, none⟩) (fun e => hne (congrArg Addr.block e)) (plain_later hp hb) (plain_later hq hb) v n c ((hb.block mb (Array.getElem?_eq_some_iff.1 h).1).trans h)
theorem Looks.second {w : World} {mb bp bq : Nat} {cp cq : Array Value} {tp tq : TypeId} {v : Value} {a : ByteArray} {k : Bool} {x : Int} {n n2 c : Nat} (hne : bp ≠ bq) (hp : w.heap[bp]? = some (.cells cp tp (0, 0))) (hq : w.heap[bq]? = some (.cells cq tq (0, 0)))
    (h : w.heap[mb]? = some (.map #[⟨.pointer (some ⟨bq, 0, none⟩), v, n⟩, ⟨.pointer (some ⟨bp, 0, none⟩), .agg #[.string a, .bool k, .int .i64 x], n2⟩] c)) : Looks w (some mb) ⟨bp, 0, none⟩ a k x :=
  fun w' hb => look_second w' mb (a := ⟨bp, 0, none⟩) (b := ⟨bq, 0, none⟩) (fun e => hne (congrArg Addr.block e)) (plain_later hp hb) (plain_later hq hb) v _ n n2 c ((hb.block mb (Array.getElem?_eq_some_iff.1 h).1).trans h)

theorem below2 (w : World) (x y : Obj) : Below w.heap.size w ((w.alloc x).alloc y) := ((Below.refl _ _).alloc (Nat.le_refl _) _).alloc (by simp) _
theorem below_more {w v : World} (h : Below w.heap.size w v) (x : Obj) : Below w.heap.size w (v.alloc x) := h.alloc h.size _

variable (a b : ByteArray) (ka kb : Bool) (ra rb : Int) (w : World)

set_option maxHeartbeats 400000 in
theorem make_sT (hJ : Bool) : Calls Yba.prog 6 #[.bool true, .bool true, .bool hJ, .agg #[.string a, .bool ka, .int .i64 ra], .agg #[.string b, .bool kb, .int .i64 rb]] w fun e w' =>
    ∃ ob r t, e = .returned (.tuple #[.pointer (some ⟨ob, 0, none⟩), .pointer (some t), .pointer (some t)]) ∧ Made w w' ob r t t a ka ra a ka ra := by
  have hmm := @run_makeMap Yba.prog
  have hu1 := upd1
  cases hJ
  all_goals
    go_enter Yba.func6, Yba.ntmps6
    go_wp2
    go_ret3
    refine ⟨w.heap.size + 1 + 1 + 1 + 1, some (w.heap.size + 1 + 1 + 1), ⟨w.heap.size + 1 + 1, 0, none⟩, rfl, ?_⟩
    have v := below2 w (.cells #[.string a, .bool ka, .int .i64 ra] 38) (.cells #[.string b, .bool kb, .int .i64 rb] 38)
    refine ⟨?_, by simp, Looks.hit (es := []) (hq1' (n := w.heap.size + 1 + 1) (by simp) _ _ _), Looks.hit (es := []) (hq1' (n := w.heap.size + 1 + 1) (by simp) _ _ _), below_more (below_more (below_more v _) _) _⟩
    exact cell_h (hr0' (v := (w.alloc (.cells #[.string a, .bool ka, .int .i64 ra] 38)).alloc (.cells #[.string b, .bool kb, .int .i64 rb] 38)) (n := w.heap.size + 1 + 1) (by simp) _ _ _) rfl

set_option maxHeartbeats 400000 in
theorem make_sF (hJ : Bool) : Calls Yba.prog 6 #[.bool true, .bool false, .bool hJ, .agg #[.string a, .bool ka, .int .i64 ra], .agg #[.string b, .bool kb, .int .i64 rb]] w fun e w' =>
    ∃ ob r t, e = .returned (.tuple #[.pointer (some ⟨ob, 0, none⟩), .pointer (some t), .pointer (some t)]) ∧ Made w w' ob r t t ByteArray.empty false 0 ByteArray.empty false 0 := by
  cases hJ
  all_goals
    go_enter Yba.func6, Yba.ntmps6
    go_wp2
    go_ret3
    refine ⟨w.heap.size + 1 + 1 + 1, none, ⟨w.heap.size + 1 + 1, 0, none⟩, rfl, ?_⟩
    have v := below2 w (.cells #[.string a, .bool ka, .int .i64 ra] 38) (.cells #[.string b, .bool kb, .int .i64 rb] 38)
    refine ⟨?_, by simp, Looks.nil _ _, Looks.nil _ _, below_more (below_more v _) _⟩
    exact cell_h (hq0' (v := (w.alloc (.cells #[.string a, .bool ka, .int .i64 ra] 38)).alloc (.cells #[.string b, .bool kb, .int .i64 rb] 38)) (n := w.heap.size + 1 + 1) (by simp) _ _) rfl

set_option maxHeartbeats 400000 in
theorem make_FF : Calls Yba.prog 6 #[.bool false, .bool false, .bool false, .agg #[.string a, .bool ka, .int .i64 ra], .agg #[.string b, .bool kb, .int .i64 rb]] w fun e w' =>
    ∃ ob r t j, e = .returned (.tuple #[.pointer (some ⟨ob, 0, none⟩), .pointer (some t), .pointer (some j)]) ∧ Made w w' ob r t j ByteArray.empty false 0 ByteArray.empty false 0 := by
  go_enter Yba.func6, Yba.ntmps6
  go_wp2
  go_ret3
  refine ⟨w.heap.size + 1 + 1 + 1 + 1, none, ⟨w.heap.size + 1 + 1, 0, none⟩, ⟨w.heap.size + 1 + 1 + 1, 0, none⟩, rfl, ?_⟩
  have v := below2 w (.cells #[.string a, .bool ka, .int .i64 ra] 38) (.cells #[.string b, .bool kb, .int .i64 rb] 38)
  refine ⟨?_, by simp, Looks.nil _ _, Looks.nil _ _, below_more (below_more (below_more v _) _) _⟩
  exact cell_h (hr0' (v := (w.alloc (.cells #[.string a, .bool ka, .int .i64 ra] 38)).alloc (.cells #[.string b, .bool kb, .int .i64 rb] 38)) (n := w.heap.size + 1 + 1) (by simp) _ _ _) rfl

set_option maxHeartbeats 400000 in
theorem make_TF : Calls Yba.prog 6 #[.bool false, .bool true, .bool false, .agg #[.string a, .bool ka, .int .i64 ra], .agg #[.string b, .bool kb, .int .i64 rb]] w fun e w' =>
    ∃ ob r t j, e = .returned (.tuple #[.pointer (some ⟨ob, 0, none⟩), .pointer (some t), .pointer (some j)]) ∧ Made w w' ob r t j a ka ra ByteArray.empty false 0 := by
  have hmm := @run_makeMap Yba.prog
  have hu1 := upd1
  go_enter Yba.func6, Yba.ntmps6
  go_wp2
  go_ret3
  refine ⟨w.heap.size + 1 + 1 + 1 + 1 + 1, some (w.heap.size + 1 + 1 + 1 + 1), ⟨w.heap.size + 1 + 1, 0, none⟩, ⟨w.heap.size + 1 + 1 + 1, 0, none⟩, rfl, ?_⟩
  have v := below2 w (.cells #[.string a, .bool ka, .int .i64 ra] 38) (.cells #[.string b, .bool kb, .int .i64 rb] 38)
  refine ⟨?_, by simp, Looks.hit (es := []) (hr1' (n := w.heap.size + 1 + 1) (by simp) _ _ _ _), Looks.miss (by omega) (hq2' (n := w.heap.size + 1 + 1) (by simp) _ _ _ _) (hp3' (n := w.heap.size + 1 + 1) (by simp) _ _ _ _) (hr1' (n := w.heap.size + 1 + 1) (by simp) _ _ _ _), below_more (below_more (below_more (below_more v _) _) _) _⟩
  exact cell_h (hs0' (v := (w.alloc (.cells #[.string a, .bool ka, .int .i64 ra] 38)).alloc (.cells #[.string b, .bool kb, .int .i64 rb] 38)) (n := w.heap.size + 1 + 1) (by simp) _ _ _ _) rfl

set_option maxHeartbeats 400000 in
theorem make_FT : Calls Yba.prog 6 #[.bool false, .bool false, .bool true, .agg #[.string a, .bool ka, .int .i64 ra], .agg #[.string b, .bool kb, .int .i64 rb]] w fun e w' =>
    ∃ ob r t j, e = .returned (.tuple #[.pointer (some ⟨ob, 0, none⟩), .pointer (some t), .pointer (some j)]) ∧ Made w w' ob r t j ByteArray.empty false 0 b kb rb := by
  have hmm := @run_makeMap Yba.prog
  have hu1 := upd1
  go_enter Yba.func6, Yba.ntmps6
  go_wp2
  go_ret3
  refine ⟨w.heap.size + 1 + 1 + 1 + 1 + 1, some (w.heap.size + 1 + 1 + 1 + 1), ⟨w.heap.size + 1 + 1, 0, none⟩, ⟨w.heap.size + 1 + 1 + 1, 0, none⟩, rfl, ?_⟩
  have v := below2 w (.cells #[.string a, .bool ka, .int .i64 ra] 38) (.cells #[.string b, .bool kb, .int .i64 rb] 38)
  refine ⟨?_, by simp, Looks.miss (by omega) (hp3' (n := w.heap.size + 1 + 1) (by simp) _ _ _ _) (hq2' (n := w.heap.size + 1 + 1) (by simp) _ _ _ _) (hr1' (n := w.heap.size + 1 + 1) (by simp) _ _ _ _), Looks.hit (es := []) (hr1' (n := w.heap.size + 1 + 1) (by simp) _ _ _ _), below_more (below_more (below_more (below_more v _) _) _) _⟩
  exact cell_h (hs0' (v := (w.alloc (.cells #[.string a, .bool ka, .int .i64 ra] 38)).alloc (.cells #[.string b, .bool kb, .int .i64 rb] 38)) (n := w.heap.size + 1 + 1) (by simp) _ _ _ _) rfl

set_option maxHeartbeats 400000 in
theorem make_TT : Calls Yba.prog 6 #[.bool false, .bool true, .bool true, .agg #[.string a, .bool ka, .int .i64 ra], .agg #[.string b, .bool kb, .int .i64 rb]] w fun e w' =>
    ∃ ob r t j, e = .returned (.tuple #[.pointer (some ⟨ob, 0, none⟩), .pointer (some t), .pointer (some j)]) ∧ Made w w' ob r t j a ka ra b kb rb := by
  have hmm := @run_makeMap Yba.prog
  have hu1 := upd1
  have hu2 := upd2
  go_enter Yba.func6, Yba.ntmps6
  go_wp2
  go_ret3
  refine ⟨w.heap.size + 1 + 1 + 1 + 1 + 1, some (w.heap.size + 1 + 1 + 1 + 1), ⟨w.heap.size + 1 + 1, 0, none⟩, ⟨w.heap.size + 1 + 1 + 1, 0, none⟩, rfl, ?_⟩
  have v := below2 w (.cells #[.string a, .bool ka, .int .i64 ra] 38) (.cells #[.string b, .bool kb, .int .i64 rb] 38)
  refine ⟨?_, by simp, Looks.hit (hr1' (n := w.heap.size + 1 + 1) (by simp) _ _ _ _), Looks.second (by omega) (hq2' (n := w.heap.size + 1 + 1) (by simp) _ _ _ _) (hp3' (n := w.heap.size + 1 + 1) (by simp) _ _ _ _) (hr1' (n := w.heap.size + 1 + 1) (by simp) _ _ _ _), below_more (below_more (below_more (below_more v _) _) _) _⟩
  exact cell_h (hs0' (v := (w.alloc (.cells #[.string a, .bool ka, .int .i64 ra] 38)).alloc (.cells #[.string b, .bool kb, .int .i64 rb] 38)) (n := w.heap.size + 1 + 1) (by simp) _ _ _ _) rfl
end Go.Proofs.Ybulkzle
