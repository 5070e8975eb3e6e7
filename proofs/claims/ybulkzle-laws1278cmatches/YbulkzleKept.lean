/-
  keptBy, keeps, kind.
-/
import Derived.Test.YbulkzleMap
import Derived.Deep.RegionHeld3
import Derived.Deep.QuietTactic
import Derived.BigQuiet
import Derived.Deep.DeepCutAuto
namespace Go.Proofs.Ybulkzle
open Go.RowKit Go.ChangeMaps
set_option linter.unusedVariables false

def shr (a : ByteArray) (k : Bool) (r : Int) : Value := .agg #[.string a, .bool k, .int .i64 r]

set_option maxHeartbeats 400000 in
theorem kept_nil (p q : Option Addr) (w : World) :
    Calls Yba.prog 5 #[.pointer none, .pointer p, .pointer q] w fun e w' => e = .returned (.int .i64 0) ∧ w' = w := by
  go_enter Yba.func5, Yba.ntmps5
  go_wp2
  go_ret
  exact ⟨rfl, rfl⟩

/-- What the look-up of p gives, in whatever world in which nothing old has turned. -/
def Looks (w : World) (r : Option Nat) (p : Addr) (a : ByteArray) (k : Bool) (x : Int) : Prop :=
  ∀ w', Below w.heap.size w w' → (Instr.lookup 43 (.map r) (.pointer (some p)) false).run Yba.prog w' = .ok (.agg #[.string a, .bool k, .int .i64 x]) w'

theorem Looks.d0 {w : World} {r : Option Nat} {p : Addr} {a : ByteArray} {k : Bool} {x : Int} (h : Looks w r p a k x) : (Instr.lookup 43 (.map r) (.pointer (some p)) false).run Yba.prog w.drew = .ok (.agg #[.string a, .bool k, .int .i64 x]) w.drew := h _ (Below.refl _ _).drew
theorem Looks.d1 {w : World} {r : Option Nat} {p : Addr} {a : ByteArray} {k : Bool} {x : Int} (h : Looks w r p a k x) (o : Obj) : (Instr.lookup 43 (.map r) (.pointer (some p)) false).run Yba.prog (w.alloc o).drew = .ok (.agg #[.string a, .bool k, .int .i64 x]) (w.alloc o).drew := h _ ((Below.refl _ _).alloc (Nat.le_refl _) _).drew
theorem Looks.d2 {w : World} {r : Option Nat} {p : Addr} {a : ByteArray} {k : Bool} {x : Int} (h : Looks w r p a k x) (o o' : Obj) : (Instr.lookup 43 (.map r) (.pointer (some p)) false).run Yba.prog ((w.alloc o).alloc o').drew = .ok (.agg #[.string a, .bool k, .int .i64 x]) ((w.alloc o).alloc o').drew := h _ (((Below.refl _ _).alloc (Nat.le_refl _) _).alloc (by simp) _).drew

def shC (a : ByteArray) (k : Bool) (x : Int) : Obj := .cells #[.string a, .bool k, .int .i64 x] 38 (0, 0)
/-- The two variables behind the first statement. -/
structure Two (w wx : World) (tb jb : Nat) (a b : ByteArray) (ka kb : Bool) (ra rb : Int) : Prop where
  t : wx.heap[tb]? = some (shC a ka ra)
  j : wx.heap[jb]? = some (shC b kb rb)
  below : Below w.heap.size w wx
theorem Two.mk1 (w : World) (a b : ByteArray) (ka kb : Bool) (ra rb : Int) : Two w (((w.alloc (shC a ka ra)).alloc (shC b kb rb)).drew) w.heap.size (w.heap.size + 1) a b ka kb ra rb :=
  ⟨by show ((w.alloc (shC a ka ra)).alloc (shC b kb rb)).heap[w.heap.size]? = _; rw [Below.heap_alloc _ _ _ (by simp), heap_alloc_new],
   by have := heap_alloc_new (w.alloc (shC a ka ra)) (shC b kb rb); rw [World.size_alloc] at this; exact this, (((Below.refl _ _).alloc (Nat.le_refl _) _).alloc (by simp) _).drew⟩
theorem Two.mk2 (w : World) (a b : ByteArray) (ka kb : Bool) (ra rb : Int) : Two w (((w.alloc (shC b kb rb)).alloc (shC a ka ra)).drew) (w.heap.size + 1) w.heap.size a b ka kb ra rb :=
  have h := Two.mk1 w b a kb ka rb ra
  ⟨h.j, h.t, h.below⟩

set_option maxHeartbeats 400000 in
theorem kind_t (a : ByteArray) (x : Int) (w : World) :
    Calls Yba.prog 8 #[.agg #[.string a, .bool true, .int .i64 x]] w fun e w' => e = .returned (.int .i64 1) ∧ w' = w.alloc (.cells #[.string a, .bool true, .int .i64 x] 38) := by
  go_enter Yba.func8, Yba.ntmps8
  go_wp2
  go_ret
  exact ⟨rfl, rfl⟩
set_option maxHeartbeats 400000 in
theorem kind_f (a : ByteArray) (x : Int) (w : World) :
    Calls Yba.prog 8 #[.agg #[.string a, .bool false, .int .i64 x]] w fun e w' => e = .returned (.int .i64 0) ∧ w' = w.alloc (.cells #[.string a, .bool false, .int .i64 x] 38) := by
  go_enter Yba.func8, Yba.ntmps8
  go_wp2
  go_ret
  exact ⟨rfl, rfl⟩
set_option maxHeartbeats 400000 in
theorem keeps_t1 (a : ByteArray) (x : Int) (w : World) :
    Calls Yba.prog 7 #[.agg #[.string a, .bool true, .int .i64 x], .int .i64 1] w fun e w' => e = .returned (.bool true) ∧ w' = w.alloc (.cells #[.string a, .bool true, .int .i64 x] 38) := by
  go_enter Yba.func7, Yba.ntmps7
  go_wp2
  go_ret
  exact ⟨rfl, rfl⟩
set_option maxHeartbeats 400000 in
theorem keeps_t0 (a : ByteArray) (x : Int) (w : World) :
    Calls Yba.prog 7 #[.agg #[.string a, .bool true, .int .i64 x], .int .i64 0] w fun e w' => e = .returned (.bool true) ∧ w' = w.alloc (.cells #[.string a, .bool true, .int .i64 x] 38) := by
  go_enter Yba.func7, Yba.ntmps7
  go_wp2
  go_ret
  exact ⟨rfl, rfl⟩
set_option maxHeartbeats 400000 in
theorem keeps_f1 (a : ByteArray) (x : Int) (w : World) :
    Calls Yba.prog 7 #[.agg #[.string a, .bool false, .int .i64 x], .int .i64 1] w fun e w' => e = .returned (.bool true) ∧ w' = w.alloc (.cells #[.string a, .bool false, .int .i64 x] 38) := by
  go_enter Yba.func7, Yba.ntmps7
  go_wp2
  go_ret
  exact ⟨rfl, rfl⟩
set_option maxHeartbeats 400000 in
theorem keeps_f0 (a : ByteArray) (x : Int) (w : World) :
    Calls Yba.prog 7 #[.agg #[.string a, .bool false, .int .i64 x], .int .i64 0] w fun e w' => e = .returned (.bool false) ∧ w' = w.alloc (.cells #[.string a, .bool false, .int .i64 x] 38) := by
  go_enter Yba.func7, Yba.ntmps7
  go_wp2
  go_ret
  exact ⟨rfl, rfl⟩

/-- What keptBy answers. -/
def keptV (a b : ByteArray) (ka kb : Bool) (ra : Int) : Int := if a.toList == b.toList then 0 else if ka || kb then ra else 0

set_option maxHeartbeats 2000000 in
theorem kept_any (ob : Nat) (r : Option Nat) (t j : Addr) (a b : ByteArray) (ka kb : Bool) (ra rb : Int) (w : World) (hc : w.cell? ⟨ob, 0, none⟩ = some (.map r)) (hob : ob < w.heap.size)
    (hT : Looks w r t a ka ra) (hJ : Looks w r j b kb rb) :
    Calls Yba.prog 5 #[.pointer (some ⟨ob, 0, none⟩), .pointer (some t), .pointer (some j)] w fun e w' => e = .returned (.int .i64 (keptV a b ka kb ra)) ∧ Below w.heap.size w w' := by
  have hT0 := hT.d0
  have hT1 := hT.d1
  have hT2 := hT.d2
  have hJ0 := hJ.d0
  have hJ1 := hJ.d1
  have hJ2 := hJ.d2
  clear hT hJ
  go_enter Yba.func5, Yba.ntmps5
  go_upto_region 3 with fail
  go_cut [7, 8] (fun p q wx => ∃ tb jb : Nat, p = .pointer (some ⟨tb, 0, none⟩) ∧ q = .pointer (some ⟨jb, 0, none⟩) ∧ Two w wx tb jb a b ka kb ra rb)
  case first =>
    go_region_held3 (fun w' => w'.cell? ⟨ob, 0, none⟩ = some (.map r)) (go_keep) (fail)
    all_goals (go_wp2_with fail; go_meet)
    all_goals first | exact ⟨_, _, rfl, rfl, Two.mk1 w a b ka kb ra rb⟩ | exact ⟨_, _, rfl, rfl, Two.mk2 w a b ka kb ra rb⟩
  case rest =>
    obtain ⟨tb, jb, rfl, rfl, h2⟩ := hcut
    clear hT0 hT1 hT2 hJ0 hJ1 hJ2 hc hob
    have t0 : wc.cell? ⟨tb, 0, none⟩ = some (.string a) := by simp [World.cell?, h2.t, shC]
    have t1 : wc.cell? ⟨tb, 1, none⟩ = some (.bool ka) := by simp [World.cell?, h2.t, shC]
    have t2 : wc.cell? ⟨tb, 2, none⟩ = some (.int .i64 ra) := by simp [World.cell?, h2.t, shC]
    have j0 : wc.cell? ⟨jb, 0, none⟩ = some (.string b) := by simp [World.cell?, h2.j, shC]
    have j1 : wc.cell? ⟨jb, 1, none⟩ = some (.bool kb) := by simp [World.cell?, h2.j, shC]
    have j2 : wc.cell? ⟨jb, 2, none⟩ = some (.int .i64 rb) := by simp [World.cell?, h2.j, shC]
    have htb : tb < wc.heap.size := World.block_lt_of_cell? _ _ t0
    have hjb : jb < wc.heap.size := World.block_lt_of_cell? _ _ j0
    have hB := h2.below
    clear h2
    cases hab : (a.toList == b.toList)
    · have HV : Hid (keptV a b ka kb ra = if ka || kb then ra else 0) := by unfold keptV; rw [hab]; rfl
      cases ka <;> cases kb
      · go_wp2_with fail
        go_region_held3 (fun w' => w'.cell? ⟨tb, 0, none⟩ = some (.string a) ∧ w'.cell? ⟨tb, 1, none⟩ = some (.bool false) ∧ w'.cell? ⟨tb, 2, none⟩ = some (.int .i64 ra) ∧ w'.cell? ⟨jb, 0, none⟩ = some (.string b) ∧ w'.cell? ⟨jb, 1, none⟩ = some (.bool false) ∧ w'.cell? ⟨jb, 2, none⟩ = some (.int .i64 rb)) (go_keep) (first | (go_at_call 8; refine (kind_f b rb _).mono ?_; rintro e w' ⟨rfl, rfl⟩) | (go_at_call 7; refine (keeps_f0 a ra _).mono ?_; rintro e w' ⟨rfl, rfl⟩))
        go_wp2
        go_ret
        exact ⟨by rw [HV.out]; rfl, ((hB.alloc hB.size _).alloc (by have := hB.size; simp; omega) _).drew⟩
      · go_wp2_with fail
        go_region_held3 (fun w' => w'.cell? ⟨tb, 0, none⟩ = some (.string a) ∧ w'.cell? ⟨tb, 1, none⟩ = some (.bool false) ∧ w'.cell? ⟨tb, 2, none⟩ = some (.int .i64 ra) ∧ w'.cell? ⟨jb, 0, none⟩ = some (.string b) ∧ w'.cell? ⟨jb, 1, none⟩ = some (.bool true) ∧ w'.cell? ⟨jb, 2, none⟩ = some (.int .i64 rb)) (go_keep) (first | (go_at_call 8; refine (kind_t b rb _).mono ?_; rintro e w' ⟨rfl, rfl⟩) | (go_at_call 7; refine (keeps_f1 a ra _).mono ?_; rintro e w' ⟨rfl, rfl⟩))
        go_wp2
        go_ret
        exact ⟨by rw [HV.out]; rfl, ((hB.alloc hB.size _).alloc (by have := hB.size; simp; omega) _).drew⟩
      · go_wp2_with fail
        go_region_held3 (fun w' => w'.cell? ⟨tb, 0, none⟩ = some (.string a) ∧ w'.cell? ⟨tb, 1, none⟩ = some (.bool true) ∧ w'.cell? ⟨tb, 2, none⟩ = some (.int .i64 ra) ∧ w'.cell? ⟨jb, 0, none⟩ = some (.string b) ∧ w'.cell? ⟨jb, 1, none⟩ = some (.bool false) ∧ w'.cell? ⟨jb, 2, none⟩ = some (.int .i64 rb)) (go_keep) (first | (go_at_call 8; refine (kind_f b rb _).mono ?_; rintro e w' ⟨rfl, rfl⟩) | (go_at_call 7; refine (keeps_t0 a ra _).mono ?_; rintro e w' ⟨rfl, rfl⟩))
        go_wp2
        go_ret
        exact ⟨by rw [HV.out]; rfl, ((hB.alloc hB.size _).alloc (by have := hB.size; simp; omega) _).drew⟩
      · go_wp2_with fail
        go_region_held3 (fun w' => w'.cell? ⟨tb, 0, none⟩ = some (.string a) ∧ w'.cell? ⟨tb, 1, none⟩ = some (.bool true) ∧ w'.cell? ⟨tb, 2, none⟩ = some (.int .i64 ra) ∧ w'.cell? ⟨jb, 0, none⟩ = some (.string b) ∧ w'.cell? ⟨jb, 1, none⟩ = some (.bool true) ∧ w'.cell? ⟨jb, 2, none⟩ = some (.int .i64 rb)) (go_keep) (first | (go_at_call 8; refine (kind_t b rb _).mono ?_; rintro e w' ⟨rfl, rfl⟩) | (go_at_call 7; refine (keeps_t1 a ra _).mono ?_; rintro e w' ⟨rfl, rfl⟩))
        go_wp2
        go_ret
        exact ⟨by rw [HV.out]; rfl, ((hB.alloc hB.size _).alloc (by have := hB.size; simp; omega) _).drew⟩
    · have HV : Hid (keptV a b ka kb ra = 0) := by unfold keptV; rw [hab]; rfl
      go_wp2_with fail
      go_quiet (fail)
      go_wp2
      go_ret
      exact ⟨by rw [HV.out]; rfl, below_drewN hB _⟩
end Go.Proofs.Ybulkzle
