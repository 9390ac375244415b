/-
  THE SEAT b6616142a: appendVarintField's result as a row of bytes; the clone of whatever slice came in. By an AI agent.
-/
import Derived.Test.Qxb6616142aUv
namespace Go.Proofs.Qxb6616142a
open Go.RowKit

theorem byteCells_append (l m : List UInt8) : Lib.byteCells (l ++ m) = Lib.byteCells l ++ Lib.byteCells m := by simp [Lib.byteCells]

/-- What an owned row of bytes is, as a slice. -/
theorem row_of {w : World} {B n : Nat} {v : Value} {l : List UInt8} (h : w.ownsRow B 5 1 v n (Lib.byteCells l)) (hn : 1 ≤ n) :
    ∃ g c, v = .slice (some ⟨g, 0, none⟩) n c ∧ n ≤ c ∧ c ≤ maxLen ∧ B ≤ g ∧ g < w.heap.size ∧ l.length = n ∧ ∀ k (hk : k < l.length), w.cell? ⟨g, k, none⟩ = some (.int .u8 (l[k].toNat : Int)) := by
  have hl : l.length = n := by have := h.1; rw [Lib.byteCells_length] at this; omega
  rcases h.2 with ⟨_, h0⟩ | ⟨g, cap, cur, rfl, hB, hg, hc, hm, hs, ht⟩
  · omega
  · refine ⟨g, cap, rfl, hc, hm, hB, (Array.getElem?_eq_some_iff.1 hg).1, hl, fun k hk => ?_⟩
    rw [World.ownsRow.cellAt h k (by omega)]
    simp [Lib.byteCells, hk]

/-- A field's bytes: the key's varint, then the value's. -/
def fld (key v : Nat) : List UInt8 := Lib.uvarint key ++ Lib.uvarint v
theorem fld_length (key v : Nat) : (fld key v).length = (Lib.uvarint key).length + (Lib.uvarint v).length := by simp [fld]
theorem fld_bounds (key v : Nat) (hk : key < 18446744073709551616) (hv : v < 18446744073709551616) : 2 ≤ (fld key v).length ∧ (fld key v).length ≤ 20 := by
  rw [fld_length]
  have := Lib.uvarint_pos key
  have := Lib.uvarint_pos v
  have := Lib.uvarint_length64 hk
  have := Lib.uvarint_length64 hv
  omega

/-- ZZappendVarintField onto a slice of the call's own: a row that holds the old bytes and the field behind them; it is owned still. -/
theorem field_row (B key v : Nat) (hk : key < 18446744073709551616) (hv : v < 18446744073709551616) (sv : Value) (l : List UInt8) (w : World) (hown : w.ownsRow B 5 1 sv l.length (Lib.byteCells l)) (hBw : B ≤ w.heap.size) (hlim : l.length ≤ 2000000) :
    Calls Try.prog 7 #[sv, .int .u64 key, .int .u64 v] w fun e w' => ∃ g c, e = .returned (.slice (some ⟨g, 0, none⟩) (l.length + (fld key v).length) c) ∧ l.length + (fld key v).length ≤ c ∧ c ≤ maxLen ∧ g < w'.heap.size ∧
      w'.ownsRow B 5 1 (.slice (some ⟨g, 0, none⟩) (l.length + (fld key v).length) c) (l ++ fld key v).length (Lib.byteCells (l ++ fld key v)) ∧
      (∀ k (hk : k < l.length), w'.cell? ⟨g, k, none⟩ = some (.int .u8 (l[k].toNat : Int))) ∧ (∀ k (hk : k < (fld key v).length), w'.cell? ⟨g, l.length + k, none⟩ = some (.int .u8 ((fld key v)[k].toNat : Int))) ∧ Below B w w' := by
  refine (field_any B l.length key v hk hv sv (Lib.byteCells l) w hown hBw hlim).mono ?_
  rintro e w' ⟨v', rfl, hown', hB⟩
  have hb := fld_bounds key v hk hv
  rw [List.append_assoc, ← byteCells_append, ← byteCells_append, Nat.add_assoc, ← List.length_append] at hown'
  have hown2 : w'.ownsRow B 5 1 v' (l.length + (fld key v).length) (Lib.byteCells (l ++ fld key v)) := hown'
  obtain ⟨g, c, rfl, h1, h2, _, h4, h5, h6⟩ := row_of hown2 (by omega)
  refine ⟨g, c, rfl, h1, h2, h4, by rw [List.length_append]; exact hown2, fun k hk => ?_, fun k hk => ?_, hB⟩
  · rw [h6 k (by simp; omega), List.getElem_append_left hk]
  · rw [h6 (l.length + k) (by simp; omega)]
    have : (l ++ fld key v)[l.length + k]'(by simp; omega) = (fld key v)[k] := by
      rw [List.getElem_append_right (by omega)]; simp
    rw [this]

/-- WHAT THE WALK IS TOLD OF A SLICE OF BYTES THAT CAME IN: it has no element (nil, or an address of which nothing is known); or its n bytes l lie from ⟨bb, oo⟩ on. -/
def In (w : World) (a : Option Addr) (n cap : Nat) (l : List UInt8) : Prop :=
  l.length = n ∧ (a = none → n = 0 ∧ cap = 0) ∧
  (n = 0 ∨ ∃ bb oo, a = some ⟨bb, oo, none⟩ ∧ bb < w.heap.size ∧ ∀ k (hk : k < l.length), w.cell? ⟨bb, oo + k, none⟩ = some (.int .u8 (l[k].toNat : Int)))

/-- From the reading of a slice of bytes that came in to what the walk is told. -/
theorem in_of_row {w : World} {a : Option Addr} {n cap : Nat} {zs : List Int}
    (h : (a = none ∧ n = 0 ∧ cap = 0 ∧ zs = []) ∨ ∃ x, a = some x ∧ n ≤ cap ∧ cap ≤ maxLen ∧ zs.length = cap ∧ (∀ i, i < zs.length → w.cell? (x.add i) = some (.int .u8 (zs.getD i 0))) ∧ ∀ z ∈ zs, (Lit.int .u8 z).wf = true) :
    n ≤ maxLen ∧ ∃ l, In w a n cap l := by
  rcases h with ⟨rfl, rfl, rfl, rfl⟩ | ⟨x, rfl, hnc, hcm, hzl, hcell, hwf⟩
  · exact ⟨Nat.zero_le _, [], rfl, fun _ => ⟨rfl, rfl⟩, .inl rfl⟩
  · have hlen : ((zs.take n).map fun z => z.toNat.toUInt8).length = n := by simp; omega
    refine ⟨Nat.le_trans hnc hcm, (zs.take n).map fun z => z.toNat.toUInt8, hlen, (fun h => by cases h), ?_⟩
    by_cases h0 : n = 0
    · exact .inl h0
    · obtain ⟨bb, oo, sp⟩ := x
      have hc0 := hcell 0 (by omega)
      obtain rfl : sp = none := by simpa [Addr.add] using World.cell?_spot hc0
      refine .inr ⟨bb, oo, rfl, by simpa [Addr.add] using World.block_lt_of_cell? w _ hc0, fun k hk => ?_⟩
      have hkn : k < n := by rw [hlen] at hk; exact hk
      have hkz : k < zs.length := by omega
      have hk2 := hcell k hkz
      have hz := hwf zs[k] (List.getElem_mem _)
      simp [Lit.wf, IntKind.min, IntKind.max, IntKind.signed, IntKind.bits] at hz
      have e : (⟨bb, oo, none⟩ : Addr).add k = ⟨bb, oo + k, none⟩ := by simp [Addr.add]
      rw [e] at hk2
      rw [hk2]
      simp [hkz]
      omega

theorem clone_any {w : World} {a : Option Addr} {n cap : Nat} {l : List UInt8} (h : In w a n cap l) (hlim : n ≤ 1048576) :
    Calls Try.prog 6 #[.slice a n cap] w fun e w' => ∃ v, e = .returned v ∧ w'.ownsRow w.heap.size 5 1 v l.length (Lib.byteCells l) ∧ Below w.heap.size w w' := by
  obtain ⟨hl, hnil, hc⟩ := h
  rcases hc with rfl | ⟨bb, oo, rfl, hbb, hcell⟩
  · obtain rfl : l = [] := List.eq_nil_of_length_eq_zero hl
    cases a with
    | none =>
      obtain ⟨_, rfl⟩ := hnil rfl
      refine (clone_nil w).mono ?_
      rintro e w' ⟨rfl, rfl⟩
      exact ⟨_, rfl, World.ownsRow_nil _ _ _ _, Below.refl _ _⟩
    | some x => exact clone_empty x cap w
  · have h := clone_pos bb oo n cap l w hl hlim hbb hcell
    rw [hl]
    exact h
end Go.Proofs.Qxb6616142a
