/-
  Contracts: headEnd at nil, ZZheadEnd (26), zzClosesBlankLine (25), zzCloneInt32 (24), zzCloneBytes (23), zzEqualInt32 (27).
-/
import Derived.Test.Qxb6602430aLines
import Derived.Test.Qxb6602430aClone
import Derived.Deep.QuietTactic
import Derived.BigQuiet
namespace Go.Proofs.Qxb6602430a
open Go.RowKit
open Pl
theorem Try.info5 : (Try.prog.info? 5).map (fun i => (i.zero, i.size, i.bytes)) = some (some (.int .u8 0), 1, 1) := by kernel_rfl
theorem Try.info21 : (Try.prog.info? 21).map (fun i => (i.zero, i.size, i.bytes)) = some (some (.int .i32 0), 1, 4) := by kernel_rfl

theorem cnt_zero (d : Nat → Int) : cnt d 0 = 0 := rfl

/-- headEnd of no byte at all. -/
theorem end_none (d : Nat → Int) : EndIs d 0 (-1) 0 := .inl ⟨rfl, rfl, fun _ hi => absurd hi (Nat.not_lt_zero _)⟩

set_option maxHeartbeats 1000000 in
theorem head_nil (v : Value) (w : World) :
    Calls Try.prog 37 #[.slice none 0 0, v] w fun e w' => e = .returned (.tuple #[.int .i64 (-1), .int .i64 0]) ∧ w' = w := by
  go_enter Try.func37, Try.ntmps37
  go_wp2
  go_loop [5, 6] (fun x y => x = .int .i64 0 ∧ y = .int .i64 0) (fun _ _ => 0)
  case atStart => exact ⟨rfl, rfl⟩
  case round =>
    obtain ⟨rfl, rfl⟩ := hrel
    go_wp2_with (go_at_call 47; refine (ib_nil _ _).mono ?_; rintro e w' ⟨rfl, hw⟩; subst hw)
    go_ret2
    exact ⟨rfl, rfl⟩

set_option maxHeartbeats 1000000 in
theorem zz_head {v u : Value} {w : World} {R : Int → Int → World → Prop} (h : Calls Try.prog 37 #[v, u] w fun e w' => ∃ x y, e = .returned (.tuple #[.int .i64 x, .int .i64 y]) ∧ R x y w') :
    Calls Try.prog 26 #[v, u] w fun e w' => ∃ x y, e = .returned (.tuple #[.int .i64 x, .int .i64 y]) ∧ R x y w' := by
  have H : Hid (Calls Try.prog 37 #[v, u] w fun e w' => ∃ x y, e = .returned (.tuple #[.int .i64 x, .int .i64 y]) ∧ R x y w') := h
  clear h
  go_enter Try.func26, Try.ntmps26
  go_wp2_with (go_at_call 37; refine H.out.mono ?_; rintro e w' ⟨x, y, rfl, hR⟩)
  go_ret2
  exact ⟨x, y, rfl, hR⟩

set_option maxHeartbeats 1000000 in
theorem closes_any (b n c : Nat) (d : Nat → Int) (i : Nat) (w : World) (hC : Cells w b 0 n d) (hn : n ≤ 524288) (hi : i < n) :
    Calls Try.prog 25 #[.slice (some ⟨b, 0, none⟩) n c, .int .i64 (i : Int)] w fun e w' => e = .returned (.bool (cb d i)) ∧ w' = w := by
  by_cases e0 : i = 0
  · subst e0
    go_enter Try.func25, Try.ntmps25
    go_wp2
    go_ret
    exact ⟨rfl, rfl⟩
  · obtain ⟨j, rfl⟩ : ∃ j, i = j + 1 := ⟨i - 1, by omega⟩
    have hj := hC j (by omega)
    rw [Nat.zero_add] at hj
    have hcb : cb d (j + 1) = true ↔ (d j = 10 ∨ (d j = 13 ∧ (j = 0 ∨ d (j - 1) = 10))) := by
      unfold cb
      simp
    by_cases e1 : d j = 10
    · have t1 := beq_t e1
      rw [hcb.2 (.inl e1)]
      clear hC hcb e0 e1
      go_enter Try.func25, Try.ntmps25
      go_wp2
      all_goals first | (go_ret; exact ⟨rfl, rfl⟩) | (exfalso; simp_all; done)
    · have t1 := beq_f e1
      by_cases e2 : d j = 13
      · have t2 := beq_t e2
        by_cases e3 : j = 0
        · rw [hcb.2 (.inr ⟨e2, .inl e3⟩)]
          subst e3
          clear hC hcb e0 e1 e2
          go_enter Try.func25, Try.ntmps25
          go_wp2
          all_goals first | (go_ret; exact ⟨rfl, rfl⟩) | (exfalso; simp_all; done)
        · obtain ⟨l, rfl⟩ : ∃ l, j = l + 1 := ⟨j - 1, by omega⟩
          have hl := hC l (by omega)
          rw [Nat.zero_add] at hl
          by_cases e4 : d l = 10
          · have t4 := beq_t e4
            rw [hcb.2 (.inr ⟨e2, .inr e4⟩)]
            clear hC hcb e0 e1 e2 e3 e4
            go_enter Try.func25, Try.ntmps25
            go_wp2
            all_goals first | (go_ret; exact ⟨rfl, rfl⟩) | (exfalso; simp_all; done)
          · have t4 := beq_f e4
            have hf : cb d (l + 1 + 1) = false := by
              by_cases h : cb d (l + 1 + 1) = true
              · rcases hcb.1 h with h | ⟨_, h | h⟩
                · exact absurd h e1
                · omega
                · exact absurd h e4
              · simpa using h
            rw [hf]
            clear hC hcb e0 e1 e2 e3 e4 hf
            go_enter Try.func25, Try.ntmps25
            go_wp2
            all_goals first | (go_ret; exact ⟨rfl, rfl⟩) | (exfalso; simp_all; done)
      · have t2 := beq_f e2
        have hf : cb d (j + 1) = false := by
          by_cases h : cb d (j + 1) = true
          · rcases hcb.1 h with h | ⟨h, _⟩
            · exact absurd h e1
            · exact absurd h e2
          · simpa using h
        rw [hf]
        clear hC hcb e0 e1 e2 hf
        go_enter Try.func25, Try.ntmps25
        go_wp2
        all_goals first | (go_ret; exact ⟨rfl, rfl⟩) | (exfalso; simp_all; done)

/-- A slice to be copied: nil, or n cells that hold the first n numbers of zs. -/
def Src (k : IntKind) (w : World) (a : Option Addr) (n : Nat) (zs : List Int) : Prop :=
  (a = none ∧ n = 0) ∨ ∃ x, a = some x ∧ n ≤ zs.length ∧ ∀ i, i < n → w.cell? (x.add i) = some (.int k (zs.getD i 0))

set_option maxHeartbeats 1000000 in
theorem clone32 (a : Option Addr) (n c : Nat) (zs : List Int) (w : World) (hn : n ≤ 65536) (hs : Src .i32 w a n zs) :
    Calls Try.prog 24 #[.slice a n c] w fun e w' => ∃ a', e = .returned (.slice a' n n) ∧ Below w.heap.size w w' ∧ a'.isNone = a.isNone ∧
      ∃ g, w.heap.size ≤ g ∧ (0 < n → a' = some ⟨g, 0, none⟩ ∧ g < w'.heap.size) ∧ Lens w' g n (fun i => zs.getD i 0) := by
  rcases hs with ⟨rfl, rfl⟩ | ⟨x, rfl, hnz, hc⟩
  · have hne := Lib.run_eql_slice_nil (P := Try.prog) w 31 21 none 0 c 0 0 Try.underlying31
    go_enter Try.func24, Try.ntmps24
    go_wp2
    go_ret
    exact ⟨none, rfl, Below.refl _ _, rfl, w.heap.size, Nat.le_refl _, fun h => absurd h (Nat.lt_irrefl _), fun i hi => absurd hi (Nat.not_lt_zero _)⟩
  · obtain ⟨w1, w2, hmk, hcp, hb, hlt, hfz, hcell⟩ := clone_facts (P := Try.prog) .i32 31 21 4 w x n c zs hnz Try.underlying31 Try.info21 (by omega) (by unfold maxLen; omega) hc
    have hne := Lib.run_eql_slice_nil (P := Try.prog) w 31 21 (some x) n c 0 0 Try.underlying31
    have HB : Hid (Below w.heap.size w w2) := hb
    have HL : Hid (Lens w2 w.heap.size n (fun i => zs.getD i 0)) := fun i hi => ⟨by have := hcell i hi; rw [Nat.zero_add] at this; exact this, hfz i⟩
    have HT : Hid (w.heap.size < w2.heap.size) := hlt
    clear hb hlt hfz hcell hc hnz
    go_enter Try.func24, Try.ntmps24
    go_wp2
    go_ret
    exact ⟨some ⟨w.heap.size, 0, none⟩, rfl, HB.out, rfl, w.heap.size, Nat.le_refl _, fun _ => ⟨rfl, HT.out⟩, HL.out⟩

set_option maxHeartbeats 1000000 in
theorem clone8 (a : Option Addr) (n c : Nat) (zs : List Int) (w : World) (hn : n ≤ 524288) (hs : Src .u8 w a n zs) :
    Calls Try.prog 23 #[.slice a n c] w fun e w' => ∃ a', e = .returned (.slice a' n n) ∧ Below w.heap.size w w' ∧ a'.isNone = a.isNone ∧ ((a' = none ∧ n = 0) ∨
      ∃ g, w.heap.size ≤ g ∧ a' = some ⟨g, 0, none⟩ ∧ g < w'.heap.size ∧ Cells w' g 0 n (fun i => zs.getD i 0)) := by
  rcases hs with ⟨rfl, rfl⟩ | ⟨x, rfl, hnz, hc⟩
  · have hne := Lib.run_eql_slice_nil (P := Try.prog) w 30 5 none 0 c 0 0 Try.underlying30
    go_enter Try.func23, Try.ntmps23
    go_wp2
    go_ret
    exact ⟨none, rfl, Below.refl _ _, rfl, .inl ⟨rfl, trivial⟩⟩
  · obtain ⟨w1, w2, hmk, hcp, hb, hlt, hfz, hcell⟩ := clone_facts (P := Try.prog) .u8 30 5 1 w x n c zs hnz Try.underlying30 Try.info5 (by omega) (by unfold maxLen; omega) hc
    have hne := Lib.run_eql_slice_nil (P := Try.prog) w 30 5 (some x) n c 0 0 Try.underlying30
    have HB : Hid (Below w.heap.size w w2) := hb
    have HL : Hid (Cells w2 w.heap.size 0 n (fun i => zs.getD i 0)) := hcell
    have HT : Hid (w.heap.size < w2.heap.size) := hlt
    clear hb hlt hfz hcell hc hnz
    go_enter Try.func23, Try.ntmps23
    go_wp2
    go_ret
    exact ⟨some ⟨w.heap.size, 0, none⟩, rfl, HB.out, rfl, .inr ⟨w.heap.size, Nat.le_refl _, rfl, HT.out, HL.out⟩⟩

set_option maxHeartbeats 1000000 in
theorem equal_any (a b : Option Addr) (m ca cb' g1 g2 : Nat) (f : Nat → Int) (w : World) (hm : m ≤ 65536) (hab : a.isNone = b.isNone) (ha : 0 < m → a = some ⟨g1, 0, none⟩) (hb : 0 < m → b = some ⟨g2, 0, none⟩)
    (h1 : Lens w g1 m f) (h2 : Lens w g2 m f) :
    Calls Try.prog 27 #[.slice a m ca, .slice b m cb'] w fun e w' => e = .returned (.bool true) ∧ ∃ k, w' = w.drewN k := by
  have e1 := Lib.run_eql_slice_nil (P := Try.prog) w 31 21 a m ca 0 0 Try.underlying31
  have e2 := Lib.run_eql_slice_nil (P := Try.prog) w 31 21 b m cb' 0 0 Try.underlying31
  rw [hab] at e1
  clear hab
  generalize b.isNone = r at e1 e2
  have H1 : Hid (Lens w g1 m f) := h1
  have H2 : Hid (Lens w g2 m f) := h2
  have HA : Hid (0 < m → a = some ⟨g1, 0, none⟩) := ha
  have HB : Hid (0 < m → b = some ⟨g2, 0, none⟩) := hb
  clear h1 h2 ha hb
  go_enter Try.func27, Try.ntmps27
  go_wp2
  go_loopw [5] (fun i wr => ∃ k q : Nat, k ≤ m ∧ wr = w.drewN q ∧ i = .int .i64 (k : Int)) (fun i _ => m - (intOf i).toNat)
  case atStart => exact ⟨0, 0, Nat.zero_le _, rfl, rfl⟩
  case round =>
    obtain ⟨k, q, hk, rfl, rfl⟩ := hrel
    by_cases hlt : k < m
    · obtain rfl := HA.out (by omega)
      obtain rfl := HB.out (by omega)
      have c1 := (H1.out k hlt).1
      have c2 := (H2.out k hlt).1
      clear e1 e2
      have hI : (k : Int) < (m : Int) := by omega
      go_wp2
      go_quiet (fail)
      go_wp2
      go_roundw
      case rel => exact ⟨k + 1, _, by omega, rfl, by go_num⟩
      case measure => simp [intOf]; omega
    · clear e1 e2
      go_wp2
      go_ret
      exact ⟨rfl, q, rfl⟩
end Go.Proofs.Qxb6602430a
