/-
  What zzs1272cbuild's table holds, place by place. No walk here.
-/
import Derived.Test.YbulkzhyPick
namespace Go.Proofs.Ybulkzhy
open Go.RowKit
set_option linter.unusedVariables false

def rowF (x i : Nat) (l : List Int) : List Value := (l.zipIdx i).flatMap fun p => [E32 p.1, E32 (p.2 : Int), E32 (x : Int)]
theorem rowF_cons (x i : Nat) (a : Int) (l : List Int) : rowF x i (a :: l) = [E32 a, E32 (i : Int), E32 (x : Int)] ++ rowF x (i + 1) l := by
  unfold rowF; rw [List.zipIdx_cons, List.flatMap_cons]
theorem rowF_length (x : Nat) : ∀ (l : List Int) (i : Nat), (rowF x i l).length = l.length * 3
  | [], _ => rfl
  | a :: l, i => by rw [rowF_cons, List.length_append, rowF_length x l]; simp; omega
theorem rowF_get (x : Nat) : ∀ (l : List Int) (i k c : Nat), k < l.length → c < 3 → (rowF x i l)[k * 3 + c]? = [E32 (l.getD k 0), E32 ((i + k : Nat) : Int), E32 (x : Int)][c]?
  | [], _, _, _, h, _ => absurd h (Nat.not_lt_zero _)
  | a :: l, i, 0, c, _, hc => by
    rw [rowF_cons, Nat.zero_mul, Nat.zero_add, List.getElem?_append_left (by simpa using hc)]; rfl
  | a :: l, i, k + 1, c, h, hc => by
    rw [rowF_cons, List.getElem?_append_right (by simp; omega), show (k + 1) * 3 + c - [E32 a, E32 (i : Int), E32 (x : Int)].length = k * 3 + c by simp; omega,
      rowF_get x l (i + 1) k c (by simpa using h) hc, show i + 1 + k = i + (k + 1) by omega]
    rfl
theorem rowC_length (x : Nat) (l : List Int) : (rowC x l).length = l.length * 3 := rowF_length x l 0
theorem rowC_get (x : Nat) (l : List Int) {k c : Nat} (hk : k < l.length) (hc : c < 3) : (rowC x l)[k * 3 + c]? = [E32 (l.getD k 0), E32 (k : Int), E32 (x : Int)][c]? := by
  have := rowF_get x l 0 k c hk hc
  rwa [Nat.zero_add] at this
theorem flatC_length {ds : List (List Int)} : ∀ {x : Nat}, x ≤ ds.length → (flatC ds x).length = offs ds x * 3
  | 0, _ => rfl
  | x + 1, h => by
    rw [flatC_succ, List.length_append, rowC_length, srt_length, flatC_length (x := x) (by omega), offs_succ (by omega)]; omega
theorem flatC_get {ds : List (List Int)} {n x k c : Nat} (hn : n ≤ ds.length) (hx : x < n) (hk : k < (ds.getD x []).length) (hc : c < 3) :
    (flatC ds n)[(offs ds x + k) * 3 + c]? = [E32 ((srt (ds.getD x [])).getD k 0), E32 (k : Int), E32 (x : Int)][c]? := by
  induction n with
  | zero => omega
  | succ n ih =>
    have hl := flatC_length (ds := ds) (x := n) (by omega)
    have hm := offs_succ (ds := ds) (x := x) (by omega)
    rw [flatC_succ]
    rcases Nat.lt_or_eq_of_le (Nat.le_of_lt_succ hx) with h | h
    · have := offs_mono ds (show x + 1 ≤ n by omega)
      rw [List.getElem?_append_left (by omega)]
      exact ih (by omega) h
    · subst h
      rw [List.getElem?_append_right (by omega), hl, show (offs ds x + k) * 3 + c - offs ds x * 3 = k * 3 + c by omega]
      exact rowC_get x _ (by rw [srt_length]; exact hk) hc
theorem flatC_mem {ds : List (List Int)} {n : Nat} {v : Value} (h : v ∈ flatC ds n) : ∃ z, v = E32 z := by
  unfold flatC rowC at h
  simp only [List.mem_flatMap, List.mem_cons, List.not_mem_nil, or_false] at h
  obtain ⟨_, _, p, _, rfl | rfl | rfl⟩ := h <;> exact ⟨_, rfl⟩

def valZ : Option Value → Int
  | some (.int _ z) => z
  | _ => 0
def atZ (fl : List Value) (q : Nat) : Int := valZ fl[q]?
theorem atZ_is {ds : List (List Int)} {n q : Nat} (h : q < (flatC ds n).length) : (flatC ds n)[q]? = some (.int .i32 (atZ (flatC ds n) q)) := by
  obtain ⟨z, hz⟩ := flatC_mem (List.getElem_mem h)
  unfold atZ
  rw [List.getElem?_eq_getElem h, hz]
  rfl

theorem tab_view {w W : World} {n : Nat} {ds : List (List Int)} (hl : ds.length = n) (hs : n ≤ 1024) (hof : offs ds n ≤ 65536)
    (ht : Tab w n (fun j => (offs ds j : Int)) (.slice (some ⟨w.heap.size + 3, 0, none⟩) (offs ds n) (offs ds n)) W)
    (ho : W.ownsRow (w.heap.size + 3) 46 3 (.slice (some ⟨w.heap.size + 3, 0, none⟩) (offs ds n) (offs ds n)) (offs ds n) (flatC ds n)) :
    ∃ D K X, TV w.heap.size n (offs ds n) (offs ds) D K X W ∧ Fo n (offs ds n) (offs ds) D ∧
      ∀ x k, x < n → k < (ds.getD x []).length → D (offs ds x + k) = (srt (ds.getD x [])).getD k 0 ∧ K (offs ds x + k) = (k : Int) ∧ X (offs ds x + k) = (x : Int) := by
  have hlen : (flatC ds n).length = offs ds n * 3 := flatC_length (by omega)
  have hcell : ∀ q, q < offs ds n * 3 → W.cell? ⟨w.heap.size + 3, q, none⟩ = some (.int .i32 (atZ (flatC ds n) q)) := by
    intro q hq
    rcases ho.2 with ⟨h0, _⟩ | ⟨g, cap, cur, hv, hbase, hb, hnc, hcm, hcs, htake⟩
    · cases h0
    have e1 := hv
    injection e1 with e2
    injection e2 with e3
    injection e3 with e4
    subst e4
    have : (cur.toList.take (offs ds n * 3))[q]? = (flatC ds n)[q]? := by rw [htake]
    rw [List.getElem?_take, if_pos hq, Array.getElem?_toList, atZ_is (by omega)] at this
    simp [World.cell?, hb, this]
  have hpt : ∀ x k c, x < n → k < (ds.getD x []).length → c < 3 → some (Value.int .i32 (atZ (flatC ds n) ((offs ds x + k) * 3 + c))) = [E32 ((srt (ds.getD x [])).getD k 0), E32 (k : Int), E32 (x : Int)][c]? := by
    intro x k c hx hk hc
    rw [← flatC_get (by omega) hx hk hc]
    have h1 := offs_succ (ds := ds) (x := x) (by omega)
    have h2 := offs_mono ds (show x + 1 ≤ n by omega)
    exact (atZ_is (by omega)).symm
  have hD : ∀ x k, x < n → k < (ds.getD x []).length → atZ (flatC ds n) ((offs ds x + k) * 3) = (srt (ds.getD x [])).getD k 0 ∧ atZ (flatC ds n) ((offs ds x + k) * 3 + 1) = (k : Int) ∧ atZ (flatC ds n) ((offs ds x + k) * 3 + 2) = (x : Int) := by
    intro x k hx hk
    have a0 := hpt x k 0 hx hk (by omega)
    have a1 := hpt x k 1 hx hk (by omega)
    have a2 := hpt x k 2 hx hk (by omega)
    simp [E32] at a0 a1 a2
    exact ⟨by simpa using a0, a1, a2⟩
  obtain ⟨c1, c2, c3, -⟩ := ht.cell
  refine ⟨fun p => atZ (flatC ds n) (p * 3), fun p => atZ (flatC ds n) (p * 3 + 1), fun p => atZ (flatC ds n) (p * 3 + 2), ⟨ht.size, c1, c2, c3, fun j hj => ht.first.cell hj, fun p hp => hcell _ (by omega), fun p hp => hcell _ (by omega), fun p hp => hcell _ (by omega), ht.mp⟩, ⟨⟨hs, hof⟩, ?_, ?_⟩, hD⟩
  · intro x hx
    refine ⟨offs_mono ds (by omega), ?_⟩
    rcases Nat.lt_or_eq_of_le hx with h | h
    · exact offs_mono ds (by omega)
    · subst h
      unfold offs
      rw [List.take_of_length_le (Nat.le_of_eq hl), List.take_of_length_le (by omega)]
      exact Nat.le_refl _
  · intro x p q hx h1 h2 h3
    rcases Nat.lt_or_eq_of_le hx with h | h
    · have e := offs_succ (ds := ds) (x := x) (by omega)
      have d1 := (hD x (p - offs ds x) h (by omega)).1
      have d2 := (hD x (q - offs ds x) h (by omega)).1
      rw [show offs ds x + (p - offs ds x) = p by omega] at d1
      rw [show offs ds x + (q - offs ds x) = q by omega] at d2
      show atZ _ _ ≤ atZ _ _
      rw [d1, d2]
      exact srt_le _ (by omega) (by omega)
    · exfalso
      subst h
      unfold offs at h1 h3
      rw [List.take_of_length_le (Nat.le_of_eq hl)] at h1
      rw [List.take_of_length_le (by omega)] at h3
      omega
end Go.Proofs.Ybulkzhy
