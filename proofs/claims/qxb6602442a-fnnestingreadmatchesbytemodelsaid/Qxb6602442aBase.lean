/-
  Of no function: what bytes.IndexByte answers, said of a function d on places; cells of a row of bytes.
-/
import Derived.Test.Qxb6602442aRows
import Derived.Test.Qxb6602442aPlain
import Derived.WalkKit
import Derived.WalkSpells
import Derived.WalkLawsBesides
import Derived.Lib.BytesEntry
import Derived.Lib.IndexLaws
namespace Go.Proofs.Qxb6602442a
open Go.RowKit

/-- The first place of the byte 34 (a quote) in n places, or -1. -/
def First (d : Nat → Int) (n : Nat) (cv : Int) (r : Int) : Prop :=
  (r = -1 ∧ ∀ k, k < n → d k ≠ cv) ∨ ∃ q : Nat, r = (q : Int) ∧ q < n ∧ d q = cv ∧ ∀ k, k < q → d k ≠ cv

theorem byte_eq {x y : Int} (hx : 0 ≤ x ∧ x ≤ 255) (hy : 0 ≤ y ∧ y ≤ 255) : x.toNat.toUInt8 = y.toNat.toUInt8 ↔ x = y := by
  constructor
  · intro h
    have h2 := congrArg UInt8.toNat h
    simp only [Nat.toUInt8, UInt8.toNat_ofNat'] at h2
    omega
  · intro h; rw [h]

theorem first_of_index (d : Nat → Int) (n : Nat) (cv : Int) (hd : ∀ i, i < n → 0 ≤ d i ∧ d i ≤ 255) (hcv : 0 ≤ cv ∧ cv ≤ 255) :
    First d n cv (Lib.indexByte (Lib.bytesOf ((List.range n).map d)) cv.toNat.toUInt8) := by
  have hget : ∀ k, k < n → (Lib.bytesOf ((List.range n).map d))[k]? = some (d k).toNat.toUInt8 := by
    intro k hk
    simp [Lib.bytesOf, hk]
  have hlen : (Lib.bytesOf ((List.range n).map d)).length = n := by simp [Lib.bytesOf]
  have hge := Lib.indexByte_ge (Lib.bytesOf ((List.range n).map d)) cv.toNat.toUInt8
  by_cases h : Lib.indexByte (Lib.bytesOf ((List.range n).map d)) cv.toNat.toUInt8 = -1
  · refine .inl ⟨h, fun k hk e => ?_⟩
    have := Lib.indexByte_none h k
    rw [hget k hk, e] at this
    exact this rfl
  · obtain ⟨q, hq⟩ : ∃ q : Nat, Lib.indexByte (Lib.bytesOf ((List.range n).map d)) cv.toNat.toUInt8 = (q : Int) := ⟨(Lib.indexByte (Lib.bytesOf ((List.range n).map d)) cv.toNat.toUInt8).toNat, by omega⟩
    obtain ⟨h1, h2⟩ := Lib.indexByte_some hq
    have hqn : q < n := by
      have := (List.getElem?_eq_some_iff.1 h1).1
      omega
    refine .inr ⟨q, hq, hqn, ?_, fun k hk e => ?_⟩
    · rw [hget q hqn] at h1
      exact (byte_eq (hd q hqn) hcv).1 (Option.some.inj h1)
    · have := h2 k hk
      rw [hget k (by omega), e] at this
      exact this rfl

/-- n cells from place o of block b on hold the bytes d 0, d 1, .. -/
def Cells (w : World) (b o n : Nat) (d : Nat → Int) : Prop := ∀ i, i < n → w.cell? ⟨b, o + i, none⟩ = some (.int .u8 (d i))

theorem Cells.cut {w : World} {b o n : Nat} {d : Nat → Int} (h : Cells w b o n d) {i m : Nat} (hm : i + m ≤ n) : Cells w b (o + i) m (fun t => d (i + t)) := by
  intro j hj
  have := h (i + j) (by omega)
  rw [Nat.add_assoc]; exact this

set_option maxHeartbeats 1000000 in
set_option maxRecDepth 100000 in
theorem ib_any (b o n c : Nat) (d : Nat → Int) (cv : Int) (w : World) (hc : Cells w b o n d) (hd : ∀ i, i < n → 0 ≤ d i ∧ d i ≤ 255) (hcv : 0 ≤ cv ∧ cv ≤ 255) :
    Calls Try.prog 22 #[.slice (some ⟨b, o, none⟩) n c, .int .u8 cv] w fun e w' => ∃ r : Int, e = .returned (.int .i64 r) ∧ w' = w ∧ First d n cv r := by
  have hf := first_of_index d n cv hd hcv
  have hrun := Lib.run_indexByteSlice (P := Try.prog) w b o n c ((List.range n).map d) (by simp) (fun i hi => by rw [hc i hi]; simp [hi]) cv
  generalize Lib.indexByte (Lib.bytesOf ((List.range n).map d)) cv.toNat.toUInt8 = r at hf hrun
  clear hc hd
  go_enter Try.func22, Try.ntmps22
  go_wp2
  rw [run_callFunc_extern Try.func24 (by kernel_rfl) (by kernel_rfl) (by kernel_rfl) (e := Extern.BytealgIndexByte.indexByte) (by kernel_rfl), hrun]
  simp only [Result.andThen]
  rw [Oper.upon_value]
  go_wp2
  go_ret
  exact ⟨r, rfl, rfl, hf⟩

set_option maxHeartbeats 1000000 in
set_option maxRecDepth 100000 in
theorem ib_nil (cv : Int) (w : World) :
    Calls Try.prog 22 #[.slice none 0 0, .int .u8 cv] w fun e w' => e = .returned (.int .i64 (-1)) ∧ w' = w := by
  go_enter Try.func22, Try.ntmps22
  go_wp2
  rw [run_callFunc_extern Try.func24 (by kernel_rfl) (by kernel_rfl) (by kernel_rfl) (e := Extern.BytealgIndexByte.indexByte) (by kernel_rfl), Lib.run_indexByteNil w 0 0 cv]
  simp only [Result.andThen]
  rw [Oper.upon_value]
  go_wp2
  go_ret
  exact ⟨rfl, rfl⟩

end Go.Proofs.Qxb6602442a
