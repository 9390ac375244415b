/-
  THE SEAT b6616074aD: the walk of cloneBytes. By an AI agent.
-/
import Derived.Test.Qxb6616074aDoorEq
import Derived.Laws.CopyOwn
namespace Go.Proofs.Qxb6616074aDoor
open Go.RowKit

set_option maxHeartbeats 800000 in
theorem clone_nil (w : World) :
    Calls Tryd.prog 8 #[.slice none 0 0] w fun e w' => e = .returned (.slice none 0 0) ∧ w' = w := by
  have k1 := fun (W : World) => Lib.run_eql_slice_nil (P := Tryd.prog) W 23 5 none 0 0 0 0 Tryd.underlying23
  go_enter Tryd.func8, Tryd.ntmps8
  go_wp2
  go_ret
  exact ⟨rfl, rfl⟩

theorem size5 : (Tryd.prog.info? 5).map (·.size) = some 1 := by kernel_rfl

set_option maxHeartbeats 800000 in
theorem clone_some (a : Addr) (n c : Nat) (zs : List Value) (w : World) (hn : zs.length = n) (hlim : n ≤ 1048576) (hcell : ∀ j v, zs[j]? = some v → w.cell? (a.add j) = some v) (hone : ∀ v ∈ zs, v.oneCell' = true) :
    Calls Tryd.prog 8 #[.slice (some a) n c] w fun e w' => e = .returned (.slice (some ⟨w.heap.size, 0, none⟩) n n) ∧ w'.ownsRow w.heap.size 5 1 (.slice (some ⟨w.heap.size, 0, none⟩) n n) n zs ∧ Below w.heap.size w w' := by
  have k1 := fun (W : World) => Lib.run_eql_slice_nil (P := Tryd.prog) W 23 5 (some a) n c 0 0 Tryd.underlying23
  obtain ⟨i0, hi, hz0, hz1, hz2⟩ := info_parts info5
  have HN : Hid (zs.length = n) := hn
  have hb1 : i0.bytes ≤ 1 := by omega
  clear hn
  go_enter Tryd.func8, Tryd.ntmps8
  go_wp2_with (at_make; refine wpList_make_full _ rfl _ _ 23 rfl w.heap.size 5 i0 (.int .u8 0) 1 Tryd.underlying23 hi hz0 hz1 _ _ _ _ n rfl rfl (by omega) (by omega) (by rw [hz2]; omega) (by unfold maxLen; omega) (Nat.le_refl _) ?_)
  intro w1 hown1 hg1
  have hB1 : Below w.heap.size w w1 := (Below.refl _ _).grown hg1 (Nat.le_refl _) (fun k hk => by cases hk)
  have hlt : w.heap.size < w1.heap.size := (hown1.lt w.heap.size rfl).2
  obtain ⟨cur, hcur, hcs⟩ : ∃ cur : List Value, w1.heap[w.heap.size]? = some (.cells cur.toArray 5 (0, 0)) ∧ cur.length = n := by
    rcases hown1.2 with ⟨h, _⟩ | ⟨g, cap, cur, h, _, hg, _, _, hs, _⟩
    · cases h
    · simp only [Value.slice.injEq, Option.some.injEq, Addr.mk.injEq] at h
      obtain ⟨⟨h1, _⟩, _, h3⟩ := h
      subst h1 h3
      exact ⟨cur.toList, by simpa using hg, by simpa using hs⟩
  clear hown1
  have HC := Lib.hid hcs
  clear hcs
  go_wp2_with (refine wpList_copy_splice rfl (.tmp 9) (.tmp 10) 23 23 rfl 5 Tryd.underlying23 size5 _ _ n n n c rfl rfl w.heap.size 0 cur 5 hcur zs ?c1 ?c2 ?c3 hone w.heap.size w hB1 (Nat.le_refl _) ?_)
  case c1 => rw [HN.out]; exact (Nat.min_self n).symm
  case c2 =>
    intro _ j v hj
    have := hcell j v hj
    have hb := World.block_lt_of_cell? w _ this
    rw [hB1.cell hb]
    exact this
  case c3 => have := HN.out; have := HC.out; omega
  intro w2 HG2 hB2
  go_wp2
  go_ret
  refine ⟨rfl, ⟨by rw [HN.out]; omega, .inr ⟨w.heap.size, n, (splice cur 0 zs).toArray, rfl, Nat.le_refl _, HG2.out, Nat.le_refl _, by unfold maxLen; omega, ?_, ?_⟩⟩, hB2⟩
  · have := HN.out
    have hc2 := HC.out
    have h2 := length_splice cur 0 zs (by omega)
    simp [h2, HC.out]
  · have := HN.out
    simp [splice, this]
end Go.Proofs.Qxb6616074aDoor
