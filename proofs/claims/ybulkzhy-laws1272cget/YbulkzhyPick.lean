/-
  The table as its readers see it; zzs1272cpick.
-/
import Derived.Test.YbulkzhyBuild
namespace Go.Proofs.Ybulkzhy
open Go.RowKit
set_option linter.unusedVariables false

structure TV (B n m : Nat) (fo : Nat → Nat) (D K X : Nat → Int) (W : World) : Prop where
  lt : B + 4 ≤ W.heap.size
  t0 : W.cell? ⟨B + 2, 0, none⟩ = some (.slice (some ⟨B, 0, none⟩) (n + 2) (n + 2))
  t1 : W.cell? ⟨B + 2, 1, none⟩ = some (.slice (some ⟨B + 3, 0, none⟩) m m)
  t2 : W.cell? ⟨B + 2, 2, none⟩ = some (.map (some (B + 1)))
  first : ∀ j, j < n + 2 → W.cell? ⟨B, j, none⟩ = some (.int .i64 (fo j))
  sd : ∀ p, p < m → W.cell? ⟨B + 3, p * 3, none⟩ = some (.int .i32 (D p))
  sk : ∀ p, p < m → W.cell? ⟨B + 3, p * 3 + 1, none⟩ = some (.int .i32 (K p))
  sx : ∀ p, p < m → W.cell? ⟨B + 3, p * 3 + 2, none⟩ = some (.int .i32 (X p))
  mp : W.heap[B + 1]? = some (.map #[] 0)

theorem TV.keep {B n m : Nat} {fo : Nat → Nat} {D K X : Nat → Int} {W W' : World} (h : TV B n m fo D K X W) (hb : Below W.heap.size W W') : TV B n m fo D K X W' := by
  have hl := h.lt
  have hc : ∀ k o, k < B + 4 → W'.cell? ⟨k, o, none⟩ = W.cell? ⟨k, o, none⟩ := fun k o hk => hb.cell (p := ⟨k, o, none⟩) (by show k < _; omega)
  exact ⟨Nat.le_trans hl hb.size, (hc _ _ (by omega)).trans h.t0, (hc _ _ (by omega)).trans h.t1, (hc _ _ (by omega)).trans h.t2, fun j hj => (hc _ _ (by omega)).trans (h.first j hj), fun p hp => (hc _ _ (by omega)).trans (h.sd p hp),
    fun p hp => (hc _ _ (by omega)).trans (h.sk p hp), fun p hp => (hc _ _ (by omega)).trans (h.sx p hp), (hb.block _ (by omega)).trans h.mp⟩

/-- What the offsets are. -/
structure Fo (n m : Nat) (fo : Nat → Nat) (D : Nat → Int) : Prop where
  small : n ≤ 1024 ∧ m ≤ 65536
  mono : ∀ x, x ≤ n → fo x ≤ fo (x + 1) ∧ fo (x + 1) ≤ m
  sorted : ∀ x p q, x ≤ n → fo x ≤ p → p < q → q < fo (x + 1) → D p ≤ D q

set_option maxRecDepth 100000 in
set_option maxHeartbeats 4000000 in
theorem pick_any (B n m : Nat) (fo : Nat → Nat) (D K X : Nat → Int) (W : World) (hv : TV B n m fo D K X W) (hF : Fo n m fo D) (sel sel2 : Nat) (h1 : sel < 65536) (h2 : sel2 < 65536) (pk : Bool) (d : Int) :
    Calls Yba.prog 10 #[.pointer (some ⟨B + 2, 0, none⟩), .int .u16 sel, .int .u16 sel2, .bool pk, .int .i32 d] W fun e w' => ∃ d', e = .returned (.tuple #[.int .i64 ((sel % (n + 1) : Nat) : Int), .int .i32 d']) ∧ ∃ q, w' = W.drewN q := by
  have hsm := hF.small
  obtain ⟨x, hx⟩ : ∃ x, x = sel % (n + 1) := ⟨_, rfl⟩
  have hxn : x ≤ n := by rw [hx]; exact Nat.le_of_lt_succ (Nat.mod_lt _ (by omega))
  have hmo := hF.mono x hxn
  have hrem : (sel : Int) % ((n : Int) + 2 - 1) = (x : Int) := by
    rw [hx, show (n : Int) + 2 - 1 = ((n + 1 : Nat) : Int) by omega]; rfl
  rw [← hx]
  have ht0 := hv.t0
  have ht1 := hv.t1
  have hf0 := hv.first x (by omega)
  have hf1 := hv.first (x + 1) (by omega)
  have hsd := hv.sd
  clear hx hv hF
  generalize fo x = s at hf0 hmo
  generalize fo (x + 1) = e at hf1 hmo
  by_cases hp : pk = true ∧ s < e
  · obtain ⟨rfl, hse⟩ := hp
    have hsez : (s : Int) < (e : Int) := by omega
    obtain ⟨y, hy⟩ : ∃ y, y = sel2 % (e - s) := ⟨_, rfl⟩
    have hyl : y < e - s := by rw [hy]; exact Nat.mod_lt _ (by omega)
    have hrem2 : (sel2 : Int) % ((e : Int) - (s : Int)) = (y : Int) := by
      rw [hy, show (e : Int) - (s : Int) = ((e - s : Nat) : Int) by omega]; rfl
    have hcd := hsd (s + y) (by omega)
    generalize D (s + y) = d2 at hcd
    clear hy hsd
    go_enter Yba.func10, Yba.ntmps10
    go_wp2_with fail
    go_big_quiet (fail)
    go_wp2_with fail
    revert nq; intro nq1
    go_big_quiet (fail)
    go_wp2_with fail
    go_ret2
    exact ⟨d2, by rw [← hrem]; rfl, nq1 + nq, by rw [World.drewN_drewN]⟩
  · clear hsd
    cases pk
    · clear hp
      go_enter Yba.func10, Yba.ntmps10
      go_wp2_with fail
      go_big_quiet (fail)
      go_wp2_with fail
      go_ret2
      exact ⟨d, by rw [← hrem]; rfl, _, rfl⟩
    · have hse : ¬ ((s : Int) < (e : Int)) := fun h => hp ⟨rfl, by omega⟩
      clear hp
      go_enter Yba.func10, Yba.ntmps10
      go_wp2_with fail
      go_big_quiet (fail)
      go_wp2_with fail
      go_ret2
      exact ⟨d, by rw [← hrem]; rfl, _, rfl⟩
end Go.Proofs.Ybulkzhy
