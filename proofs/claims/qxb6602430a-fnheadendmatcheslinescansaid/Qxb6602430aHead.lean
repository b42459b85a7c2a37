/-
  Of no function: the closed facts of a row over this cut, so laid that the kernel need not read the cut's long head sign by sign out of its bytes (one such reading takes nearly ten gigabytes): the head is a list of signs, once.
-/
import Derived.Test.Qxb6602430aRows
import Derived.JoinedOf
import Derived.KernelRfl
namespace Go.Proofs.Qxb6602430a
open Go

set_option maxRecDepth 100000 in
theorem head_signs : ∃ l, Try.prog.initOrder = String.ofList l ∧ ((behindMainWord (wordsSigns l)).head? == some "cut".toList) = true := ⟨_, rfl, by kernel_rfl⟩

theorem head_cut : ∃ rest, behindMainWord (wordsSigns Try.prog.initOrder.toList) = "cut".toList :: rest := by
  obtain ⟨l, h, h2⟩ := head_signs
  rw [h, String.toList_ofList]
  cases hb : behindMainWord (wordsSigns l) with
  | nil => rw [hb] at h2; simp at h2
  | cons c r =>
    rw [hb] at h2
    have : c = "cut".toList := by simpa using h2
    exact ⟨r, by rw [this]⟩

theorem strip_cut (r : List (List Char)) : stripLifts liftWords ("cut".toList :: r) = ([], "cut".toList :: r) := by kernel_rfl
theorem lifts_of {P : Program} {r : List (List Char)} (h : behindMainWord (wordsSigns P.initOrder.toList) = "cut".toList :: r) : P.headLifts = [] := by
  unfold Program.headLifts
  rw [h, strip_cut]
  kernel_rfl
theorem final_of {P : Program} {r : List (List Char)} (h : behindMainWord (wordsSigns P.initOrder.toList) = "cut".toList :: r) : P.liftsFinal = false := by
  unfold Program.liftsFinal
  rw [h, lifts_of h]
  kernel_rfl
theorem make_of {P : Program} {r : List (List Char)} (h : behindMainWord (wordsSigns P.initOrder.toList) = "cut".toList :: r) : P.make = some .cut := by
  unfold Program.make
  rw [h]
  kernel_rfl
theorem enter_of {P : Program} {r : List (List Char)} (h : behindMainWord (wordsSigns P.initOrder.toList) = "cut".toList :: r) (h1 : P.laysLater = false) (h2 : P.bearsReflect = false) (h3 : P.doorFits [] = true) : P.mayEnter = true := by
  unfold Program.mayEnter
  rw [h]
  simp only [strip_cut, h1, h2, h3]
  kernel_rfl
theorem lays_later : Try.prog.laysLater = false := by kernel_rfl
theorem bears_reflect : Try.prog.bearsReflect = false := by kernel_rfl
theorem door_fits : Try.prog.doorFits [] = true := by kernel_rfl
theorem lifts_final : Try.prog.liftsFinal = false := by
  obtain ⟨r, h⟩ := head_cut
  exact final_of h
theorem made_cut : Try.prog.make = some .cut := by
  obtain ⟨r, h⟩ := head_cut
  exact make_of h
theorem may_enter : Try.prog.mayEnter = true := by
  obtain ⟨r, h⟩ := head_cut
  exact enter_of h lays_later bears_reflect door_fits

end Go.Proofs.Qxb6602430a
