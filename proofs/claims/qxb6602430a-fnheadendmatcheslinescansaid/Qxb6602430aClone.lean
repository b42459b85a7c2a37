/-
  Of no function: 'zzc := make([]T, len(x)); copy(zzc, x)': what the two operations leave.
-/
import Derived.Test.Qxb6602430aRows
import Derived.WalkKit
import Derived.WalkSpells
import Derived.Laws.CopyOwn
namespace Go.Proofs.Qxb6602430a
open Go.RowKit

theorem clone_facts {P : Program} (k : IntKind) (t e : TypeId) (bts : Nat) (w : World) (ad : Addr) (n cap : Nat) (zs : List Int) (hnz : n ≤ zs.length)
    (hu : P.underlying t = some (.slice e)) (hinfo : (P.info? e).map (fun i => (i.zero, i.size, i.bytes)) = some (some (.int k 0), 1, bts)) (hby : bts * n ≤ 281474976710656) (hn : n ≤ maxLen)
    (hc : ∀ i, i < n → w.cell? (ad.add i) = some (.int k (zs.getD i 0))) :
    ∃ w1 w2, (Instr.makeSlice t (.int .i64 (n : Int)) (.int .i64 (n : Int))).run P w = .ok (.slice (some ⟨w.heap.size, 0, none⟩) n n) w1 ∧
      (∀ ty, (Builtin.copy_ #[t, t] ty #[.slice (some ⟨w.heap.size, 0, none⟩) n n, .slice (some ad) n cap]).run P w1 = .ok (goInt n) w2) ∧
      Below w.heap.size w w2 ∧ w.heap.size < w2.heap.size ∧ (∀ i, w2.frozen? ⟨w.heap.size, i, none⟩ = false) ∧ (∀ i, i < n → w2.cell? ⟨w.heap.size, 0 + i, none⟩ = some (.int k (zs.getD i 0))) := by
  obtain ⟨i, hi, hz0, hz1, hz2⟩ := info_parts hinfo
  obtain ⟨w1, hrun, hown, hgrow⟩ := run_make_full (P := P) w w.heap.size t e i (.int k 0) 1 hu hi hz0 hz1 .i64 .i64 n (by rw [hz2]; exact hby) hn (Nat.le_refl _)
  have hb1 : Below w.heap.size w w1 := (Below.refl _ _).grown hgrow (Nat.le_refl _) (fun k h => by cases h)
  obtain ⟨_, hown⟩ := hown
  rcases hown with ⟨h, _⟩ | ⟨g, cap', cur, hv, hg1, hheap, _, _, hsz, _⟩
  · simp at h
  · simp only [Value.slice.injEq, Option.some.injEq, Addr.mk.injEq, and_true, true_and] at hv
    obtain ⟨rfl, rfl⟩ := hv
    have hsz' : cur.size = n := by omega
    have hlt1 : w.heap.size < w1.heap.size := (Array.getElem?_eq_some_iff.1 hheap).1
    have hsize : (P.info? e).map (·.size) = some 1 := by rw [hi]; simp [hz1]
    by_cases h0 : n = 0
    · subst h0
      refine ⟨w1, w1, hrun, fun ty => ?_, hb1, hlt1, fun i => by simp [World.frozen?, hheap], fun i hi => by omega⟩
      exact run_copy_none w1 t t ty e _ _ 0 0 0 cap hu hsize rfl
    · have hlen : ((zs.take n).map (Value.int k)).length = n := by simp; omega
      have hget : ∀ j, j < n → ((zs.take n).map (Value.int k))[j]? = some (Value.int k (zs.getD j 0)) := by
        intro j hj
        simp [hj, show j < zs.length by omega]
      have hcp := fun ty => run_copy_row (P := P) w1 t t ty e w.heap.size 0 n n ad n cap cur e ((zs.take n).map (Value.int k)) hu hsize hheap (by rw [hlen]; exact (Nat.min_self n).symm)
        (fun j v hj => by
          have hjn : j < n := by have := (List.getElem?_eq_some_iff.1 hj).1; omega
          rw [hget j hjn] at hj
          have hcj := hc j hjn
          have hbl : (ad.add j).block < w.heap.size := by
            simp only [World.cell?] at hcj
            by_cases hx : (ad.add j).block < w.heap.size
            · exact hx
            · rw [Array.getElem?_eq_none (by omega)] at hcj; simp at hcj
          rw [hb1.cell hbl, hcj]; exact hj)
        (by rw [hlen, hsz']; omega) (by intro v hv; obtain ⟨x, _, rfl⟩ := List.mem_map.1 hv; rfl)
      rw [hlen] at hcp
      refine ⟨w1, _, hrun, hcp, below_setRow hb1 (Nat.le_refl _) _, ?_, fun j => by simp [World.frozen?, setRow_heap _ _ _ _ _ _ hheap], fun j hj => ?_⟩
      · simp [World.setRow]; exact hlt1
      · rw [cell_setRow_same w1 w.heap.size (0 + j) cur _ e (0, 0) hheap]
        have hd : cur.toList.drop (0 + n) = [] := by apply List.drop_eq_nil_of_le; simp; omega
        rw [hd]
        simpa using hget j hj

end Go.Proofs.Qxb6602430a
