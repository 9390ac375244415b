/-
  THE SEAT b6615813aF: the walk of the law 'FnParseKindRefusesANameWithAnythingAround'. By an AI agent.
-/
import Derived.Test.Qxb6615813aFmtW2
namespace Go.Proofs.Qxb6615813aFmt
open Go.RowKit Go.Extern.Stop Go.Stop Go.Extern

theorem toList_append (a b : ByteArray) : (a ++ b).toList = a.toList ++ b.toList := by
  rw [ByteArray.toList_eq, ByteArray.toList_eq, ByteArray.toList_eq, ByteArray.data_append, Array.toList_append]

theorem list_pos {t : ByteArray} (h0 : 0 < t.size) : 0 < t.toList.length := by
  rw [ByteArray.toList_eq]; exact h0

/-- The names' bytes. -/
def lOff : List UInt8 := [111, 102, 102]
def lToken : List UInt8 := [116, 111, 107, 101, 110]
def lLeaky : List UInt8 := [108, 101, 97, 107, 121]
theorem offL : sOff.toList = lOff := by rw [ByteArray.toList_eq]; rfl
theorem tokenL : sToken.toList = lToken := by rw [ByteArray.toList_eq]; rfl
theorem leakyL : sLeaky.toList = lLeaky := by rw [ByteArray.toList_eq]; rfl

theorem nameL (i : Nat) : (nameOf i).toList = lOff ∨ (nameOf i).toList = lToken ∨ (nameOf i).toList = lLeaky := by
  unfold nameOf
  by_cases h : i = 0
  · rw [if_pos h]; exact .inl offL
  · rw [if_neg h]
    by_cases h : i = 1
    · rw [if_pos h]; exact .inr (.inl tokenL)
    · rw [if_neg h]; exact .inr (.inr leakyL)

theorem after_ne (x y l : List UInt8) (hx : x = lOff ∨ x = lToken ∨ x = lLeaky) (hy : y = lOff ∨ y = lToken ∨ y = lLeaky) (h0 : 0 < l.length) : (x ++ l == y) = false := by
  rw [beq_eq_false_iff_ne]
  intro h
  have hl := congrArg List.length h
  have hh := congrArg List.head? h
  rcases hx with rfl | rfl | rfl <;> rcases hy with rfl | rfl | rfl <;> simp [lOff, lToken, lLeaky] at hl hh <;> subst hl <;> simp at h0

theorem ahead_ne (x y l : List UInt8) (hx : x = lOff ∨ x = lToken ∨ x = lLeaky) (hy : y = lOff ∨ y = lToken ∨ y = lLeaky) (h0 : 0 < l.length) : (l ++ x == y) = false := by
  rw [beq_eq_false_iff_ne]
  intro h
  have hl := congrArg List.length h
  have hh := congrArg List.getLast? h
  rcases hx with rfl | rfl | rfl <;> rcases hy with rfl | rfl | rfl <;> simp [lOff, lToken, lLeaky] at hl hh <;> subst hl <;> simp at h0

/-- A name with anything behind it is no name. -/
theorem miss_after (i : Nat) (t : ByteArray) (h0 : 0 < t.size) : Miss (nameOf i ++ t) := by
  unfold Miss
  rw [toList_append, offL, tokenL, leakyL]
  exact ⟨after_ne _ _ _ (nameL i) (.inl rfl) (list_pos h0), after_ne _ _ _ (nameL i) (.inr (.inl rfl)) (list_pos h0), after_ne _ _ _ (nameL i) (.inr (.inr rfl)) (list_pos h0)⟩

/-- A name with anything ahead of it is no name. -/
theorem miss_ahead (i : Nat) (t : ByteArray) (h0 : 0 < t.size) : Miss (t ++ nameOf i) := by
  unfold Miss
  rw [toList_append, offL, tokenL, leakyL]
  exact ⟨ahead_ne _ _ _ (nameL i) (.inl rfl) (list_pos h0), ahead_ne _ _ _ (nameL i) (.inr (.inl rfl)) (list_pos h0), ahead_ne _ _ _ (nameL i) (.inr (.inr rfl)) (list_pos h0)⟩

set_option maxHeartbeats 400000 in
theorem refuses_long (s t : ByteArray) (w : World) (hl : 131072 < s.size ∨ 131072 < t.size ∨ t.size = 0) (hm : s.size ≤ maxLen) (hm' : t.size ≤ maxLen) :
    Calls Tryf.prog 4 #[.string s, .string t] w fun e w' => e = .returned (.bool true) ∧ Below w.heap.size w w' := by
  unfold maxLen at hm hm'
  by_cases h1 : 131072 < s.size
  · clear hl
    go_enter Tryf.func4, Tryf.ntmps4
    go_wp2
    all_goals (go_ret; exact ⟨rfl, Below.refl _ _⟩)
  · by_cases h2 : 131072 < t.size
    · clear hl
      go_enter Tryf.func4, Tryf.ntmps4
      go_wp2
      all_goals (go_ret; exact ⟨rfl, Below.refl _ _⟩)
    · have h3 : t.size ≤ 0 := by omega
      clear hl
      go_enter Tryf.func4, Tryf.ntmps4
      go_wp2
      all_goals (go_ret; exact ⟨rfl, Below.refl _ _⟩)

set_option maxHeartbeats 400000 in
theorem refuses_miss (F : Interp) (s t : ByteArray) (b o c : Nat) (w : World) (hF : F.answers w.tape) (ht : Tab b o c w) (hm : Miss s) (h1 : s.size ≤ 131072) (h2 : t.size ≤ 131072) (h3 : 0 < t.size) :
    Calls Tryf.prog 4 #[.string s, .string t] w fun e w' => e = .returned (.bool true) ∧ Below w.heap.size w w' := by
  go_enter Tryf.func4, Tryf.ntmps4
  go_wp2_with (first | (go_at_call 6; refine (kind_miss F s b o c _ hF ht hm).mono ?_; rintro e w1 ⟨a, rfl, hB⟩) | (go_at_call 8; go_in))
  go_ret
  exact ⟨rfl, by assumption⟩

set_option maxHeartbeats 400000 in
theorem refuses_hit (F : Interp) (i : Nat) (hi : i < 3) (s t : ByteArray) (b o c : Nat) (w : World) (hF : F.answers w.tape) (ht : Tab b o c w) (hm : nameOf i = s) (h1 : s.size ≤ 131072) (h2 : t.size ≤ 131072) (h3 : 0 < t.size) :
    Calls Tryf.prog 4 #[.string s, .string t] w fun e w' => e = .returned (.bool true) ∧ Below w.heap.size w w' := by
  have HM : Hid (nameOf i = s) := hm
  have ha : Miss (s ++ t) := hm ▸ miss_after i t h3
  have hb : Miss (t ++ s) := hm ▸ miss_ahead i t h3
  clear hm
  have HA : Hid (Miss (s ++ t)) := ha
  have HB : Hid (Miss (t ++ s)) := hb
  clear ha hb
  go_enter Tryf.func4, Tryf.ntmps4
  go_wp2_with (go_at_call 8; go_in)
  refine (kind_hit i hi s b o c _ ht HM.out).mono ?_
  rintro e w1 ⟨rfl, hB1⟩
  have ht1 := ht.below hB1
  have hF1 : F.answers w1.tape := by rw [hB1.tape]; exact hF
  go_wp2_with fail
  refine (kind_miss F (s ++ t) b o c w1 hF1 ht1 HA.out).mono ?_
  rintro e w2 ⟨a2, rfl, hB2⟩
  have ht2 := ht1.below hB2
  have hF2 : F.answers w2.tape := by rw [hB2.tape]; exact hF1
  go_wp2_with fail
  refine (kind_miss F (t ++ s) b o c w2 hF2 ht2 HB.out).mono ?_
  rintro e w3 ⟨a3, rfl, hB3⟩
  have ht3 := ht2.below hB3
  go_wp2_with fail
  refine (string_any i hi (nameOf i) b o c w3 ht3 (ht3.name i hi)).mono ?_
  rintro e w4 ⟨rfl, hB4⟩
  have e0 : ((nameOf i).toList == s.toList) = true := by rw [HM.out]; simp
  go_wp2
  go_ret
  exact ⟨rfl, ((hB1.trans (hB2.mono hB1.size)).trans (hB3.mono (Nat.le_trans hB1.size hB2.size))).trans (hB4.mono (Nat.le_trans (Nat.le_trans hB1.size hB2.size) hB3.size))⟩

theorem refuses_any (F : Interp) (s t : ByteArray) (b o c : Nat) (w : World) (hF : F.answers w.tape) (ht : Tab b o c w) (hm : s.size ≤ maxLen) (hm' : t.size ≤ maxLen) :
    Calls Tryf.prog 4 #[.string s, .string t] w fun e w' => e = .returned (.bool true) ∧ Below w.heap.size w w' := by
  by_cases hl : 131072 < s.size ∨ 131072 < t.size ∨ t.size = 0
  · exact refuses_long s t w hl hm hm'
  · rcases miss_or s with h | ⟨i, hi, h⟩
    · exact refuses_miss F s t b o c w hF ht h (by omega) (by omega) (by omega)
    · exact refuses_hit F i hi s t b o c w hF ht h (by omega) (by omega) (by omega)
end Go.Proofs.Qxb6615813aFmt
