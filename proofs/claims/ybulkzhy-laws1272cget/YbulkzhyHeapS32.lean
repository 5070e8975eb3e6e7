/-
  slices.heapSortOrdered[int32] computes 'Sort.heapSort'.
-/
import Derived.Test.YbulkzhyHeap32
namespace Go.Proofs.Ybulkzhy
open Go.RowKit Go.Sort
set_option linter.unusedVariables false

theorem sift_size (hi F root : Nat) (d : Array Int) : (siftDown ltInt hi F root d).size = d.size := by
  induction h : hi - root using Nat.strongRecOn generalizing root d with
  | _ n ih =>
    rw [siftDown]
    split
    · rfl
    · split
      · split
        · rfl
        · split
          · rw [ih _ (by omega) _ _ rfl, size_swp]
          · rfl
      · split
        · rfl
        · rw [ih _ (by omega) _ _ rfl, size_swp]

theorem half_start (L : Nat) : ((L : Int) - 1).tdiv 2 = (((L - 1) / 2 + 1 : Nat) : Int) - 1 := by
  cases L with
  | zero => rfl
  | succ n => rw [Int.tdiv_eq_ediv_of_nonneg (by omega)]; omega

set_option maxHeartbeats 2000000 in
set_option maxRecDepth 1000000 in
theorem Yba.heap32 (blk off cap N a b : Nat) (d : Array Int) (w : World) (hH : Holds E32 w blk off d) (hN : d.size = N) (hblk : blk < w.heap.size) (hab : a ≤ b) (hb : b ≤ N) (hsz : N < 4611686018427387904) :
    Calls Yba.prog 23 #[.slice (some ⟨blk, off, none⟩) N cap, .int .i64 a, .int .i64 b] w fun e w' =>
      e = .returned (.tuple #[]) ∧ At E32 w blk off (heapSort ltInt d a b) w' := by
  obtain ⟨L, hL⟩ : ∃ L, L = b - a := ⟨_, rfl⟩
  have hLz : (b : Int) - (a : Int) = (L : Int) := by omega
  have hbL : a + L ≤ N := by omega
  have HL : Hid (L = b - a) := hL
  have HH : Hid (Holds E32 w blk off d) := hH
  clear hH hL
  go_enter Yba.func23, Yba.ntmps23
  go_wp2
  go_loopg [9] ((L - 1) / 2 + 1) (fun k s9 wr => ∃ (n : Nat) (z : Int) (dk : Array Int), s9 = .int .i64 z ∧ z = (n : Int) - 1 ∧ n ≤ k ∧ n ≤ (L - 1) / 2 + 1 ∧ dk.size = N ∧ At E32 w blk off dk wr ∧
      heapBuild ltInt L a n dk = heapBuild ltInt L a ((L - 1) / 2 + 1) d)
  case atStart => exact ⟨(L - 1) / 2 + 1, _, d, rfl, half_start L, Nat.le_refl _, Nat.le_refl _, hN, At.refl HH.out, rfl⟩
  case round =>
    obtain ⟨n, z, dk, rfl, hz, hk, hn, hds, hat, heq⟩ := hrel
    have AT : Hid (At E32 w blk off dk wr) := hat
    have HE : Hid (heapBuild ltInt L a n dk = heapBuild ltInt L a ((L - 1) / 2 + 1) d) := heq
    clear hat heq
    cases n with
    | zero =>
      have hz0 : z < 0 := by omega
      clear hz
      go_wp2
      go_loopg [10] L (fun k s10 wr2 => ∃ (n : Nat) (z : Int) (dj : Array Int), s10 = .int .i64 z ∧ z = (n : Int) - 1 ∧ n ≤ k ∧ n ≤ L ∧ dj.size = N ∧ At E32 w blk off dj wr2 ∧
          heapPop ltInt a n dj = heapPop ltInt a L dk)
      case atStart => exact ⟨L, _, dk, rfl, rfl, Nat.le_refl _, Nat.le_refl _, hds, AT.out, rfl⟩
      case round =>
        obtain ⟨n, z2, dj, rfl, hz2, hk2, hn2, hds2, hat2, heq2⟩ := hrel
        have AT2 : Hid (At E32 w blk off dj wr) := hat2
        have HE2 : Hid (heapPop ltInt a n dj = heapPop ltInt a L dk) := heq2
        clear hat2 heq2
        cases n with
        | zero =>
          have hz20 : z2 < 0 := by omega
          clear hz2
          go_wp2
          go_end0
          exact ⟨rfl, by
            have h1 := HE.out
            have h2 := HE2.out
            unfold heapSort
            rw [← HL.out, ← h1, show heapBuild ltInt L a 0 dk = dk from rfl, ← h2]
            exact AT2.out⟩
        | succ m =>
          obtain rfl : z2 = (m : Int) := by omega
          clear hz2
          obtain ⟨G, hG⟩ : ∃ G : Nat → Int, ∀ t, G t = dj[t]! := ⟨fun t => dj[t]!, fun _ => rfl⟩
          obtain ⟨hcw, hfw, -, -⟩ := At.cells AT2.out HH.out hN hds2 hblk
          simp only [← hG] at hcw
          have HG : Hid (∀ t, G t = dj[t]!) := hG
          clear hG
          have hs2 : (swp dj a (a + m)).size = N := by rw [size_swp]; exact hds2
          obtain ⟨v3, hy3⟩ := cell?_setCell_some (w := wr) (p := ⟨blk, off + a, none⟩) (x := .int .i32 (G (a + m))) (q := ⟨blk, off + (a + m), none⟩) (hcw (a + m) (by omega))
          go_wp2_with fail
          go_region
          have hat3 := At.swap1 AT2.out hblk a (a + m) (by omega) (by omega) (HG.out (a + m)) (HG.out a)
          generalize ((wr.setCell ⟨blk, off + a, none⟩ (.int .i32 (G (a + m)))).setCell ⟨blk, off + (a + m), none⟩ (.int .i32 (G a))).drew = W3 at hat3 ⊢
          have hhold := At.holds hat3 HH.out (by omega) hblk
          have hc := Yba.sift32 blk off cap N 0 m a _ W3 hhold.1 hs2 hhold.2 (by omega) (by omega) hsz
          have AT3 : Hid (At E32 w blk off (swp dj a (a + m)) W3) := hat3
          clear hhold hat3 hy3 hcw hfw
          go_wp2_with (go_at_call 41; refine hc.mono ?_; rintro e w1 ⟨rfl, hw1⟩)
          go_roundg m
          case measure => omega
          case rel => exact ⟨m, (m : Int) - 1, siftDown ltInt m a 0 (swp dj a (a + m)), rfl, rfl, Nat.le_refl _, by omega, by rw [sift_size]; exact hs2, At.trans AT3.out hblk (sift_size _ _ _ _) hw1, HE2.out⟩
    | succ m =>
      obtain rfl : z = (m : Int) := by omega
      clear hz
      have hhold := At.holds AT.out HH.out (by omega) hblk
      have hc := Yba.sift32 blk off cap N m L a dk wr hhold.1 hds hhold.2 (by omega) hbL hsz
      clear hhold
      go_wp2_with (go_at_call 41; refine hc.mono ?_; rintro e w1 ⟨rfl, hw1⟩)
      go_roundg m
      case measure => omega
      case rel => exact ⟨m, (m : Int) - 1, siftDown ltInt L a m dk, rfl, rfl, Nat.le_refl _, by omega, by rw [sift_size]; exact hds, At.trans AT.out hblk (sift_size _ _ _ _) hw1, HE.out⟩

end Go.Proofs.Ybulkzhy
