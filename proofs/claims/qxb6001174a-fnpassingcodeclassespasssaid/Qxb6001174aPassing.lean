/-
  passingCode AND ITS SHIM: for a code that opens with one of the four classes.
-/
import Derived.Test.Qxb6001174aRows
import Derived.WalkKit
import Derived.WalkSpells
import Derived.WalkLawsBesides
namespace Go.Proofs.Qxb6001174a
open Go.RowKit

theorem toList_two (a b : UInt8) (s : ByteArray) : (ByteArray.mk #[a, b] ++ s).toList = a :: b :: s.toList := by
  rw [ByteArray.toList_eq, ByteArray.toList_eq]
  have : (ByteArray.mk #[a, b] ++ s).data = #[a, b] ++ s.data := by simp
  rw [this]
  simp
theorem extract_two (c : ByteArray) (a b : UInt8) (t : List UInt8) (h : c.toList = a :: b :: t) : (c.extract 0 2).toList = [a, b] := by
  rw [ByteArray.toList_eq] at h ⊢
  have : (c.extract 0 2).data = c.data.extract 0 2 := by simp
  rw [this, Array.toList_extract, h]
  rfl
theorem size_two (c : ByteArray) (a b : UInt8) (t : List UInt8) (h : c.toList = a :: b :: t) : 2 ≤ c.size := by
  rw [ByteArray.toList_eq] at h
  have : c.size = c.data.toList.length := by simp
  rw [this, h]
  simp

theorem ne_head {l t : List UInt8} {a b a' b' : UInt8} (x : List UInt8) (h : l = a :: b :: t) (hne : ¬ (a = a' ∧ b = b')) : (l == a' :: b' :: x) = false := by
  rw [beq_eq_false_iff_ne, h]
  intro e
  injection e with e1 e2
  injection e2 with e2 _
  exact hne ⟨e1, e2⟩

/-- A code that opens with one of the four classes, and is not 57P04: it passes. -/
theorem passing_yes (c : ByteArray) (w : World) (a b : UInt8) (t : List UInt8) (h : c.toList = a :: b :: t)
    (hcl : (a = 48 ∧ b = 56) ∨ (a = 52 ∧ b = 48) ∨ (a = 53 ∧ b = 51) ∨ (a = 53 ∧ b = 55)) (hno : (c.toList == [53, 55, 80, 48, 52]) = false) :
    Calls Try.prog 23 #[.string c] w fun e w' => e = .returned (.bool true) ∧ w' = w := by
  have hx := extract_two c a b t h
  have h2 := size_two c a b t h
  have n1 : (c.toList == [50, 53, 48, 48, 54]) = false := ne_head _ h (by rcases hcl with ⟨rfl, rfl⟩ | ⟨rfl, rfl⟩ | ⟨rfl, rfl⟩ | ⟨rfl, rfl⟩ <;> decide)
  have n2 : (c.toList == [50, 53, 80, 48, 51]) = false := ne_head _ h (by rcases hcl with ⟨rfl, rfl⟩ | ⟨rfl, rfl⟩ | ⟨rfl, rfl⟩ | ⟨rfl, rfl⟩ <;> decide)
  have n3 : (c.toList == [53, 53, 80, 48, 51]) = false := ne_head _ h (by rcases hcl with ⟨rfl, rfl⟩ | ⟨rfl, rfl⟩ | ⟨rfl, rfl⟩ | ⟨rfl, rfl⟩ <;> decide)
  have n4 : (c.toList == [53, 56, 48, 48, 48]) = false := ne_head _ h (by rcases hcl with ⟨rfl, rfl⟩ | ⟨rfl, rfl⟩ | ⟨rfl, rfl⟩ | ⟨rfl, rfl⟩ <;> decide)
  have n5 : (c.toList == [53, 56, 48, 51, 48]) = false := ne_head _ h (by rcases hcl with ⟨rfl, rfl⟩ | ⟨rfl, rfl⟩ | ⟨rfl, rfl⟩ | ⟨rfl, rfl⟩ <;> decide)
  clear h
  rcases hcl with ⟨rfl, rfl⟩ | ⟨rfl, rfl⟩ | ⟨rfl, rfl⟩ | ⟨rfl, rfl⟩
  all_goals
    go_enter Try.func23, Try.ntmps23
    go_wp2
    go_ret
    exact ⟨rfl, rfl⟩

/-- 57P04 does not. -/
theorem passing_no (c : ByteArray) (w : World) (h : (c.toList == [53, 55, 80, 48, 52]) = true) :
    Calls Try.prog 23 #[.string c] w fun e w' => e = .returned (.bool false) ∧ w' = w := by
  go_enter Try.func23, Try.ntmps23
  go_wp2
  go_ret
  exact ⟨rfl, rfl⟩

theorem zzpassing_of (c : ByteArray) (w : World) (r : Bool) (h : ∀ w, Calls Try.prog 23 #[.string c] w fun e w' => e = .returned (.bool r) ∧ w' = w) :
    Calls Try.prog 10 #[.string c] w fun e w' => e = .returned (.bool r) ∧ w' = w := by
  go_enter Try.func10, Try.ntmps10
  go_wp2_with (go_at_call 23; refine (h _).mono ?_; rintro e w' ⟨rfl, rfl⟩)
  go_ret
  exact ⟨rfl, rfl⟩

theorem pass08 (s : ByteArray) (w : World) : Calls Try.prog 10 #[.string (ByteArray.mk #[48, 56] ++ s)] w fun e w' => e = .returned (.bool true) ∧ w' = w :=
  zzpassing_of _ w true fun w => passing_yes _ w 48 56 s.toList (toList_two _ _ _) (.inl ⟨rfl, rfl⟩) (ne_head _ (toList_two _ _ _) (by decide))
theorem pass40 (s : ByteArray) (w : World) : Calls Try.prog 10 #[.string (ByteArray.mk #[52, 48] ++ s)] w fun e w' => e = .returned (.bool true) ∧ w' = w :=
  zzpassing_of _ w true fun w => passing_yes _ w 52 48 s.toList (toList_two _ _ _) (.inr (.inl ⟨rfl, rfl⟩)) (ne_head _ (toList_two _ _ _) (by decide))
theorem pass53 (s : ByteArray) (w : World) : Calls Try.prog 10 #[.string (ByteArray.mk #[53, 51] ++ s)] w fun e w' => e = .returned (.bool true) ∧ w' = w :=
  zzpassing_of _ w true fun w => passing_yes _ w 53 51 s.toList (toList_two _ _ _) (.inr (.inr (.inl ⟨rfl, rfl⟩))) (ne_head _ (toList_two _ _ _) (by decide))
theorem pass57 (s : ByteArray) (w : World) : Calls Try.prog 10 #[.string (ByteArray.mk #[53, 55] ++ s)] w fun e w' => e = .returned (.bool (!(s.toList == [80, 48, 52]))) ∧ w' = w := by
  cases hs : (s.toList == [80, 48, 52])
  · refine zzpassing_of _ w true fun w => passing_yes _ w 53 55 s.toList (toList_two _ _ _) (.inr (.inr (.inr ⟨rfl, rfl⟩))) ?_
    rw [toList_two]
    simpa using hs
  · refine zzpassing_of _ w false fun w => passing_no _ w ?_
    rw [toList_two]
    simpa using hs

end Go.Proofs.Qxb6001174a
