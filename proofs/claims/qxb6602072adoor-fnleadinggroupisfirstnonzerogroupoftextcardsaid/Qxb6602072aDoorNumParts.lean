/- NumericParts: its one statement leaves the order of two calls and the reads open. -/
import Derived.Test.Qxb6602072aDoorNumWalks
import Derived.Test.Qxb6602072aDoorShelf
import Derived.Deep.RegionWith
import Derived.Lib.UnsafeStr
namespace Go.Proofs.Qxb6602072aDoor
open Go.RowKit

theorem trim_dig (s : ByteArray) : (⟨(Lib.trimPrefix s.data.toList [45]).toArray⟩ : ByteArray) = digB s := by
  unfold digB NP.dig Lib.trimPrefix Lib.hasPrefix
  cases h : s.data.toList with
  | nil => rfl
  | cons a l =>
    simp only [List.isPrefixOf, Bool.and_true, List.head?_cons, List.length_cons, List.length_nil]
    by_cases e : a = 45
    · subst e; rfl
    · have e1 : ((45 : UInt8) == a) = false := by simpa using fun h => e h.symm
      rw [e1]
      simp [e]

theorem trim_any (s : ByteArray) (w : World) :
    Calls Tryd.prog 28 #[.string s, .string ⟨#[45]⟩] w fun e w' => e = .returned (.string (digB s)) ∧ w' = w := by
  have h := Tryd.strings_TrimPrefix s ⟨#[45]⟩ w
  rw [show (⟨#[45]⟩ : ByteArray).data.toList = [45] from rfl, trim_dig] at h
  exact h

set_option maxRecDepth 100000 in
set_option maxHeartbeats 4000000 in
theorem parts_any (k sc dy n : Int) (s : ByteArray) (w : World) :
    Calls Tryd.prog 17 #[.agg #[.int .u8 k, .int .i16 sc, .int .i32 dy, .int .i64 n, .string s]] w fun e w' => e = .returned (.tuple #[.int .i64 (sgnI s), .string (digB s), .int .i64 n]) ∧ Below w.heap.size w w' := by
  go_enter Tryd.func17, Tryd.ntmps17
  go_wp2
  go_region_with (first
    | (go_at_call 27; refine (sign_any k sc dy n s _).mono ?_; rintro e w' ⟨rfl, rfl⟩)
    | (go_at_call 28; refine (trim_any s _).mono ?_; rintro e w' ⟨rfl, rfl⟩))
  all_goals go_wp2
  all_goals go_ret3
  all_goals refine ⟨rfl, ?_⟩
  all_goals
    repeat (first | exact Below.refl _ _ | refine Below.drew ?_ | refine Below.alloc ?_ (by simp) _)
end Go.Proofs.Qxb6602072aDoor
