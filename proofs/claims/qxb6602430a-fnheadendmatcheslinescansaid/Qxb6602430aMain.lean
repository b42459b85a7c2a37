/-
  The walks of FnHeadEndMatchesLineScan (7).
-/
import Derived.Test.Qxb6602430aParts
import Derived.ProofKit
import Derived.Below
import Derived.WalkSmall
namespace Go.Proofs.Qxb6602430a
open Go.RowKit
open Pl

theorem Lens.keep {g g' m : Nat} {f : Nat → Int} {w w' : World} (h : Only g w w') (hne : 0 < m → g' ≠ g) (hL : Lens w g' m f) : Lens w' g' m f := by
  intro i hi
  have hc := hL i hi
  have hb : w'.heap[g']? = w.heap[g']? := h.block g' (World.block_lt_of_cell? w _ hc.1) (by intro e; exact hne (by omega) (by simpa using e))
  exact ⟨by rw [← hc.1]; exact World.cell?_of_block hb, by rw [← hc.2]; exact World.frozen?_of_block hb⟩
theorem Lens.below {B g m : Nat} {f : Nat → Int} {w w' : World} (h : Below B w w') (hg : 0 < m → g < B) (hL : Lens w g m f) : Lens w' g m f := by
  intro i hi
  have hc := hL i hi
  have hb : w'.heap[g]? = w.heap[g]? := h.block g (hg (by omega))
  exact ⟨by rw [← hc.1]; exact World.cell?_of_block hb, by rw [← hc.2]; exact World.frozen?_of_block hb⟩
theorem Cells.below {B b o n : Nat} {d : Nat → Int} {w w' : World} (h : Below B w w') (hg : b < B) (hL : Cells w b o n d) : Cells w' b o n d := by
  intro i hi
  rw [← hL i hi]; exact World.cell?_of_block (h.block b hg)
theorem Only.below {B g : Nat} {w0 w w' : World} (h : Only g w w') (hb : Below B w0 w) (hB : B ≤ w.heap.size) (hg : B ≤ g) : Below B w0 w' :=
  hb.grown h hB (fun k e => by simp at e; omega)
theorem src_of {w : World} {a' : Option Addr} {m g : Nat} {zs : List Int} (hz : m ≤ zs.length) (hpos : 0 < m → a' = some ⟨g, 0, none⟩) (hL : Lens w g m (fun i => zs.getD i 0)) : Src .i32 w a' m zs := by
  cases a' with
  | none =>
    refine .inl ⟨rfl, ?_⟩
    by_cases h : 0 < m
    · have := hpos h; simp at this
    · omega
  | some x =>
    refine .inr ⟨x, rfl, hz, fun i hi => ?_⟩
    have e := hpos (by omega)
    simp only [Option.some.injEq] at e
    subst e
    have := (hL i hi).1
    have ha : (⟨g, 0, none⟩ : Addr).add i = ⟨g, i, none⟩ := by unfold Addr.add; split <;> simp_all
    rw [ha]; exact this

set_option maxHeartbeats 1000000 in
theorem zzb22 (a b : Option Addr) (n m c c' : Nat) (w : World) (hn : n ≤ 524288) (hm : m ≤ 65536) :
    Calls Try.prog 22 #[.slice a n c, .slice b m c'] w fun e w' => e = .returned (.bool true) ∧ w' = w := by
  go_enter Try.func22, Try.ntmps22
  go_wp2
  go_ret
  exact ⟨rfl, rfl⟩

set_option maxHeartbeats 1000000 in
theorem walk_long (a b : Option Addr) (n m c c' : Nat) (w : World) (hn : n ≤ maxLen) (hm : m ≤ maxLen) (h : ¬ (n ≤ 524288 ∧ m ≤ 65536)) :
    Calls Try.prog 7 #[.slice a n c, .slice b m c'] w fun e w' => e = .returned (.bool true) ∧ Below w.heap.size w w' := by
  unfold maxLen at hn hm
  by_cases h1 : n ≤ 524288
  · have h2 : ¬ m ≤ 65536 := fun h' => h ⟨h1, h'⟩
    clear h
    go_enter Try.func7, Try.ntmps7
    go_wp2
    all_goals (go_ret; exact ⟨rfl, Below.refl _ _⟩)
  · clear h
    go_enter Try.func7, Try.ntmps7
    go_wp2
    all_goals (go_ret; exact ⟨rfl, Below.refl _ _⟩)

set_option maxHeartbeats 2000000 in
theorem walk_some (x : Addr) (b : Option Addr) (n m c c' : Nat) (zs0 zs1 : List Int) (w : World) (hn : n ≤ 524288) (hm : m ≤ 65536)
    (hz0 : n ≤ zs0.length) (hz1 : m ≤ zs1.length) (hc : ∀ i, i < n → w.cell? (x.add i) = some (.int .u8 (zs0.getD i 0))) (hd : ∀ i, i < n → 0 ≤ zs0.getD i 0 ∧ zs0.getD i 0 ≤ 255)
    (hs1 : Src .i32 w b m zs1) :
    Calls Try.prog 7 #[.slice (some x) n c, .slice b m c'] w fun e w' => e = .returned (.bool true) ∧ Below w.heap.size w w' := by
  have hz := zzb22 (some x) b n m c c' w hn hm
  have hcl := clone8 (some x) n c zs0 w hn (.inr ⟨x, rfl, hz0, hc⟩)
  clear hc hz0
  go_enter Try.func7, Try.ntmps7
  go_wp2_with fail
  refine hz.mono ?_
  rintro e w' ⟨rfl, hw⟩
  have hw2 := hw.symm
  subst hw2
  clear hz
  go_wp2_with fail
  refine hcl.mono ?_
  rintro e w1 ⟨a', rfl, hb1, hnn, hrow⟩
  clear hcl
  rcases hrow with ⟨rfl, _⟩ | ⟨gd, hgd1, rfl, hgd2, hC1⟩
  · simp at hnn
  have hs1' : Src .i32 w1 b m zs1 := by
    rcases hs1 with h | ⟨y, hy, hl, hcc⟩
    · exact .inl h
    · exact .inr ⟨y, hy, hl, fun i hi => by have h := hcc i hi; rw [hb1.cell (World.block_lt_of_cell? w _ h)]; exact h⟩
  have hcl := clone32 b m c' zs1 w1 hm hs1'
  clear hs1 hs1' hnn
  have HB1 : Hid (Below w.heap.size w w1) := hb1
  have HC1 : Hid (Cells w1 gd 0 n (fun i => zs0.getD i 0)) := hC1
  clear hb1 hC1
  go_wp2_with fail
  refine hcl.mono ?_
  rintro e w2 ⟨aL, rfl, hb2, hn2, g1, hg1, hp1, hL1⟩
  have hcl2 := clone32 aL m m zs1 w2 hm (src_of hz1 (fun h => (hp1 h).1) hL1)
  clear hcl
  have HB2 : Hid (Below w1.heap.size w1 w2) := hb2
  have HL1 : Hid (Lens w2 g1 m (fun i => zs1.getD i 0)) := hL1
  have HP1 : Hid (0 < m → aL = some ⟨g1, 0, none⟩ ∧ g1 < w2.heap.size) := hp1
  have HN2 : Hid (aL.isNone = b.isNone) := hn2
  clear hb2 hL1 hp1 hn2
  go_wp2_with fail
  refine hcl2.mono ?_
  rintro e w3 ⟨aW, rfl, hb3, hn3, g2, hg2, hp2, hL2⟩
  clear hcl2
  have hsz2 := HB2.out.size
  have hsz3 := hb3.size
  obtain ⟨d, hdd⟩ : ∃ d : Nat → Int, d = fun i => zs0.getD i 0 := ⟨_, rfl⟩
  obtain ⟨f, hff⟩ : ∃ f : Nat → Int, f = fun i => zs1.getD i 0 := ⟨_, rfl⟩
  have HD : Hid (∀ i, i < n → 0 ≤ d i ∧ d i ≤ 255) := by rw [hdd]; exact hd
  have HC : Hid (Cells w3 gd 0 n d) := by rw [hdd]; exact (HC1.out.below HB2.out (by omega)).below hb3 (by omega)
  have HL1' : Hid (Lens w3 g1 m f) := by rw [hff]; exact HL1.out.below hb3 (fun h => (HP1.out h).2)
  have HL2 : Hid (Lens w3 g2 m f) := by rw [hff]; exact hL2
  have HB : Hid (Below w.heap.size w w3) := (HB1.out.trans (HB2.out.mono HB1.out.size)).trans (hb3.mono (Nat.le_trans HB1.out.size hsz2))
  have HG : Hid ((0 < m → g1 < g2) ∧ gd ≠ g1 ∧ gd ≠ g2 ∧ w.heap.size ≤ g1 ∧ w.heap.size ≤ g2) := ⟨fun h => by have := (HP1.out h).2; omega, by omega, by omega, by have := HB1.out.size; omega, by have := HB1.out.size; omega⟩
  have HA1 : Hid (0 < m → aL = some ⟨g1, 0, none⟩) := fun h => (HP1.out h).1
  have HA2 : Hid (0 < m → aW = some ⟨g2, 0, none⟩) := fun h => (hp2 h).1
  have HNN : Hid (aL.isNone = aW.isNone) := hn3.symm
  clear hb3 hn3 hp2 hL2 hd hdd hff HB1 HC1 HB2 HL1 HP1 HN2 hsz2 hsz3 hg1 hg2 hgd1 hgd2 hz1
  go_wp2
  go_loop [6, 7] (fun x y => ∃ i : Nat, i ≤ n ∧ Hid (∀ j, j < i → ¬ closes d j) ∧ x = .int .i64 (-1) ∧ y = .int .i64 (i : Int)) (fun _ y => n - (intOf y).toNat)
  case atStart => exact ⟨0, Nat.zero_le _, (fun j hj => absurd hj (Nat.not_lt_zero _)), rfl, rfl⟩
  case round =>
    obtain ⟨i, hi, HN, rfl, rfl⟩ := hrel
    by_cases hlt : i < n
    · have hcell := HC.out i hlt
      rw [Nat.zero_add] at hcell
      by_cases e10 : d i = 10
      · have t10 := beq_t e10
        have hcl := closes_any gd n n d i w3 HC.out hn hlt
        by_cases hcb : cb d i = true
        · rw [hcb] at hcl
          obtain ⟨S, hS⟩ : ∃ S : Nat, S = i + 1 := ⟨_, rfl⟩
          have HE : Hid (EndIs d n (S : Int) S) := by
            subst hS
            exact .inr ⟨rfl, by omega, by omega, ⟨e10, hcb⟩, fun j hj => HN.out j (by omega)⟩
          have hS2 : (i : Int) + 1 = (S : Int) := by omega
          have hSn : S ≤ n := by omega
          clear e10 hcb hS HN
          go_wp2_with (go_at_call 25; refine hcl.mono ?_; rintro e w' ⟨rfl, hw⟩; have hw2 := hw.symm; subst hw2)
          clear hcl hcell t10 hS2 hlt hi
          have HH := fun (wr : World) (hO : Only g2 w3 wr) => zz_head (v := .slice (some ⟨gd, 0, none⟩) n n) (u := .slice aL m m) (w := wr) (R := fun x y w' => Hid (x = (S : Int) ∧ y = ((cnt d S : Nat) : Int) ∧ Only g1 wr w' ∧ Lens w' g1 m (fl d m f S)))
            ((head_any gd n n d aL m m g1 f wr (hO.cells HG.out.2.2.1 HC.out) HD.out hn hm (Nat.le_refl _) (by unfold maxLen; omega) HG.out.2.1 HA1.out (Lens.keep hO (fun h => by have := HG.out.1 h; omega) HL1'.out)).mono (fun e w' ⟨E', S', h1, h2, h3, h4⟩ => by
              obtain ⟨e1, e2⟩ := EndIs.unique HE.out h1
              subst e2
              exact ⟨E', _, h2, e1.symm, rfl, h3, h4⟩))
          have HH' : Hid (∀ (wr : World), Only g2 w3 wr → Calls Try.prog 26 #[.slice (some ⟨gd, 0, none⟩) n n, .slice aL m m] wr fun e w' => ∃ x y, e = .returned (.tuple #[.int .i64 x, .int .i64 y]) ∧ Hid (x = (S : Int) ∧ y = ((cnt d S : Nat) : Int) ∧ Only g1 wr w' ∧ Lens w' g1 m (fl d m f S))) := HH
          clear HH
          go_loop [9, 10] (fun x y => ∃ i q : Nat, i ≤ S ∧ q ≤ i ∧ Hid (q = cnt d i) ∧ x = .int .i64 (q : Int) ∧ y = .int .i64 (i : Int)) (fun _ y => S - (intOf y).toNat)
          case atStart => exact ⟨0, 0, Nat.zero_le _, Nat.le_refl _, rfl, rfl, rfl⟩
          case round =>
            obtain ⟨i2, q, hi2, hqi, HQ, rfl, rfl⟩ := hrel
            by_cases hlt2 : i2 < S
            · have hcell := HC.out i2 (by omega)
              rw [Nat.zero_add] at hcell
              by_cases e10 : d i2 = 10
              · have t10 := beq_t e10
                have HQ2 : Hid (q + 1 = cnt d (i2 + 1)) := by rw [cnt_hit e10, ← HQ.out]; exact rfl
                clear e10 HQ HH'
                go_wp2
                go_round
                case rel => exact ⟨i2 + 1, q + 1, by omega, by omega, HQ2, by go_num, by go_num⟩
                case measure => simp [intOf]; omega
              · have t10 := beq_f e10
                have HQ2 : Hid (q = cnt d (i2 + 1)) := by rw [cnt_miss e10, ← HQ.out]; exact rfl
                clear e10 HQ HH'
                go_wp2
                go_round
                case rel => exact ⟨i2 + 1, q, by omega, by omega, HQ2, rfl, by go_num⟩
                case measure => simp [intOf]; omega
            · have hiS : i2 = S := by omega
              have HQS : Hid (q = cnt d S) := by rw [← hiS]; exact HQ.out
              clear HQ hiS
              go_wp2
              go_loopw [11, 12, 13] (fun x y z wr => ∃ i k s : Nat, i ≤ S ∧ k ≤ i ∧ s ≤ i ∧ Hid (k = cnt d i) ∧ Hid (s = st d i) ∧ Hid (Only g2 w3 wr) ∧ Hid (Lens wr g2 m (fl d m f i)) ∧ x = .int .i64 (k : Int) ∧ y = .int .i64 (s : Int) ∧ z = .int .i64 (i : Int)) (fun _ _ z _ => S - (intOf z).toNat)
              case atStart => exact ⟨0, 0, 0, Nat.zero_le _, Nat.le_refl _, Nat.le_refl _, rfl, rfl, Only.refl _ _, HL2.out, rfl, rfl, rfl⟩
              case round =>
                obtain ⟨i3, k, s, hi3, hk3, hs3, HK, HS, HO, HLr, rfl, rfl, rfl⟩ := hrel
                by_cases hlt3 : i3 < S
                · have hcell := HO.out.cells HG.out.2.2.1 HC.out i3 (by omega)
                  rw [Nat.zero_add] at hcell
                  by_cases e10 : d i3 = 10
                  · have t10 : (d i3 != 10) = false := by simpa using e10
                    have HK2 : Hid (k + 1 = cnt d (i3 + 1)) := by rw [cnt_hit e10, ← HK.out]; exact rfl
                    have HS2 : Hid (i3 + 1 = st d (i3 + 1)) := by rw [st_hit e10]; exact rfl
                    by_cases hkm : k < m
                    · have HF : Hid (fl d m f (i3 + 1) = upd (fl d m f i3) k ((i3 : Int) - (s : Int))) := by
                        rw [fl_hit e10 (by rw [← HK.out]; exact hkm), ← HK.out, ← HS.out]; exact rfl
                      have hcg := HLr.out k hkm
                      obtain rfl := HA2.out (by omega)
                      clear e10 HK HS HH'
                      go_wp2
                      go_roundw
                      case rel => exact ⟨i3 + 1, k + 1, i3 + 1, by omega, by omega, by omega, HK2, HS2, HO.out.set _, (by rw [HF.out]; exact HLr.out.set hkm _), by go_num, by go_num, by go_num⟩
                      case measure => simp [intOf]; omega
                    · have HF : Hid (fl d m f (i3 + 1) = fl d m f i3) := by
                        rw [fl_full (by rw [← HK.out]; exact hkm)]; exact rfl
                      clear e10 HK HS HH'
                      go_wp2
                      go_roundw
                      case rel => exact ⟨i3 + 1, k + 1, i3 + 1, by omega, by omega, by omega, HK2, HS2, HO, (by rw [HF.out]; exact HLr), by go_num, by go_num, by go_num⟩
                      case measure => simp [intOf]; omega
                  · have t10 : (d i3 != 10) = true := by simpa using e10
                    have HK2 : Hid (k = cnt d (i3 + 1)) := by rw [cnt_miss e10, ← HK.out]; exact rfl
                    have HS2 : Hid (s = st d (i3 + 1)) := by rw [st_miss e10, ← HS.out]; exact rfl
                    have HF : Hid (fl d m f (i3 + 1) = fl d m f i3) := by rw [fl_miss e10]; exact rfl
                    clear e10 HK HS HH'
                    go_wp2
                    go_roundw
                    case rel => exact ⟨i3 + 1, k, s, by omega, by omega, by omega, HK2, HS2, HO, (by rw [HF.out]; exact HLr), rfl, rfl, by go_num⟩
                    case measure => simp [intOf]; omega
                · have hiS : i3 = S := by omega
                  have HLS : Hid (Lens wr g2 m (fl d m f S)) := by rw [← hiS]; exact HLr
                  have hcall := HH'.out wr HO.out
                  clear HH' HLr HK HS hiS
                  go_wp2_with fail
                  refine hcall.mono ?_
                  rintro e w5 ⟨xx, yy, rfl, HX⟩
                  obtain ⟨hx, hy, hO5, hL5⟩ := HX.out
                  have heq := equal_any aL aW m m m g1 g2 (fl d m f S) w5 hm HNN.out HA1.out HA2.out hL5 (Lens.keep hO5 (fun h => by have := HG.out.1 h; omega) HLS.out)
                  have HBz : Hid (Below w.heap.size w w5) := hO5.below (HO.out.below HB.out (by have := HB.out.size; omega) HG.out.2.2.2.2) (by have := HB.out.size; have := HO.out.size; omega) HG.out.2.2.2.1
                  have hq := HQS.out
                  subst hx hy hq
                  clear hcall HX HLS HO hO5 hL5 HQS HA1 HA2 HNN HG HB HL1' HL2 HC HD HE
                  go_wp2_with (go_at_call 27; refine heq.mono ?_; rintro e w' ⟨rfl, kk, hw⟩; subst hw)
                  go_ret
                  exact ⟨rfl, below_drewN HBz.out kk⟩
        · have hcf : cb d i = false := by simpa using hcb
          rw [hcf] at hcl
          have HN2 : Hid (∀ j, j < i + 1 → ¬ closes d j) := fun j hj hc => by
            by_cases h : j = i
            · subst h; exact hcb hc.2
            · exact HN.out j (by omega) hc
          clear e10 hcb hcf HN
          go_wp2_with (go_at_call 25; refine hcl.mono ?_; rintro e w' ⟨rfl, hw⟩; have hw2 := hw.symm; subst hw2)
          go_round
          case rel => exact ⟨i + 1, by omega, HN2, rfl, by go_num⟩
          case measure => simp [intOf]; omega
      · have t10 := beq_f e10
        have HN2 : Hid (∀ j, j < i + 1 → ¬ closes d j) := fun j hj hc => by
          by_cases h : j = i
          · subst h; exact e10 hc.1
          · exact HN.out j (by omega) hc
        clear e10 HN
        go_wp2
        go_round
        case rel => exact ⟨i + 1, by omega, HN2, rfl, by go_num⟩
        case measure => simp [intOf]; omega
    · have HE : Hid (EndIs d n (-1) n) := .inl ⟨rfl, rfl, fun j hj => HN.out j (by omega)⟩
      clear HN
      go_wp2
      clear hi hlt
      have HH := fun (wr : World) (hO : Only g2 w3 wr) => zz_head (v := .slice (some ⟨gd, 0, none⟩) n n) (u := .slice aL m m) (w := wr) (R := fun x y w' => Hid (x = (-1 : Int) ∧ y = ((cnt d n : Nat) : Int) ∧ Only g1 wr w' ∧ Lens w' g1 m (fl d m f n)))
        ((head_any gd n n d aL m m g1 f wr (hO.cells HG.out.2.2.1 HC.out) HD.out hn hm (Nat.le_refl _) (by unfold maxLen; omega) HG.out.2.1 HA1.out (Lens.keep hO (fun h => by have := HG.out.1 h; omega) HL1'.out)).mono (fun e w' ⟨E', S', h1, h2, h3, h4⟩ => by
          obtain ⟨e1, e2⟩ := EndIs.unique HE.out h1
          subst e2
          exact ⟨E', _, h2, e1.symm, rfl, h3, h4⟩))
      have HH' : Hid (∀ (wr : World), Only g2 w3 wr → Calls Try.prog 26 #[.slice (some ⟨gd, 0, none⟩) n n, .slice aL m m] wr fun e w' => ∃ x y, e = .returned (.tuple #[.int .i64 x, .int .i64 y]) ∧ Hid (x = (-1 : Int) ∧ y = ((cnt d n : Nat) : Int) ∧ Only g1 wr w' ∧ Lens w' g1 m (fl d m f n))) := HH
      clear HH
      go_loop [9, 10] (fun x y => ∃ i q : Nat, i ≤ n ∧ q ≤ i ∧ Hid (q = cnt d i) ∧ x = .int .i64 (q : Int) ∧ y = .int .i64 (i : Int)) (fun _ y => n - (intOf y).toNat)
      case atStart => exact ⟨0, 0, Nat.zero_le _, Nat.le_refl _, rfl, rfl, rfl⟩
      case round =>
        obtain ⟨i2, q, hi2, hqi, HQ, rfl, rfl⟩ := hrel
        by_cases hlt2 : i2 < n
        · have hcell := HC.out i2 (by omega)
          rw [Nat.zero_add] at hcell
          by_cases e10 : d i2 = 10
          · have t10 := beq_t e10
            have HQ2 : Hid (q + 1 = cnt d (i2 + 1)) := by rw [cnt_hit e10, ← HQ.out]; exact rfl
            clear e10 HQ HH'
            go_wp2
            go_round
            case rel => exact ⟨i2 + 1, q + 1, by omega, by omega, HQ2, by go_num, by go_num⟩
            case measure => simp [intOf]; omega
          · have t10 := beq_f e10
            have HQ2 : Hid (q = cnt d (i2 + 1)) := by rw [cnt_miss e10, ← HQ.out]; exact rfl
            clear e10 HQ HH'
            go_wp2
            go_round
            case rel => exact ⟨i2 + 1, q, by omega, by omega, HQ2, rfl, by go_num⟩
            case measure => simp [intOf]; omega
        · have hiS : i2 = n := by omega
          have HQS : Hid (q = cnt d n) := by rw [← hiS]; exact HQ.out
          clear HQ hiS
          go_wp2
          go_loopw [11, 12, 13] (fun x y z wr => ∃ i k s : Nat, i ≤ n ∧ k ≤ i ∧ s ≤ i ∧ Hid (k = cnt d i) ∧ Hid (s = st d i) ∧ Hid (Only g2 w3 wr) ∧ Hid (Lens wr g2 m (fl d m f i)) ∧ x = .int .i64 (k : Int) ∧ y = .int .i64 (s : Int) ∧ z = .int .i64 (i : Int)) (fun _ _ z _ => n - (intOf z).toNat)
          case atStart => exact ⟨0, 0, 0, Nat.zero_le _, Nat.le_refl _, Nat.le_refl _, rfl, rfl, Only.refl _ _, HL2.out, rfl, rfl, rfl⟩
          case round =>
            obtain ⟨i3, k, s, hi3, hk3, hs3, HK, HS, HO, HLr, rfl, rfl, rfl⟩ := hrel
            by_cases hlt3 : i3 < n
            · have hcell := HO.out.cells HG.out.2.2.1 HC.out i3 (by omega)
              rw [Nat.zero_add] at hcell
              by_cases e10 : d i3 = 10
              · have t10 : (d i3 != 10) = false := by simpa using e10
                have HK2 : Hid (k + 1 = cnt d (i3 + 1)) := by rw [cnt_hit e10, ← HK.out]; exact rfl
                have HS2 : Hid (i3 + 1 = st d (i3 + 1)) := by rw [st_hit e10]; exact rfl
                by_cases hkm : k < m
                · have HF : Hid (fl d m f (i3 + 1) = upd (fl d m f i3) k ((i3 : Int) - (s : Int))) := by
                    rw [fl_hit e10 (by rw [← HK.out]; exact hkm), ← HK.out, ← HS.out]; exact rfl
                  have hcg := HLr.out k hkm
                  obtain rfl := HA2.out (by omega)
                  clear e10 HK HS HH'
                  go_wp2
                  go_roundw
                  case rel => exact ⟨i3 + 1, k + 1, i3 + 1, by omega, by omega, by omega, HK2, HS2, HO.out.set _, (by rw [HF.out]; exact HLr.out.set hkm _), by go_num, by go_num, by go_num⟩
                  case measure => simp [intOf]; omega
                · have HF : Hid (fl d m f (i3 + 1) = fl d m f i3) := by
                    rw [fl_full (by rw [← HK.out]; exact hkm)]; exact rfl
                  clear e10 HK HS HH'
                  go_wp2
                  go_roundw
                  case rel => exact ⟨i3 + 1, k + 1, i3 + 1, by omega, by omega, by omega, HK2, HS2, HO, (by rw [HF.out]; exact HLr), by go_num, by go_num, by go_num⟩
                  case measure => simp [intOf]; omega
              · have t10 : (d i3 != 10) = true := by simpa using e10
                have HK2 : Hid (k = cnt d (i3 + 1)) := by rw [cnt_miss e10, ← HK.out]; exact rfl
                have HS2 : Hid (s = st d (i3 + 1)) := by rw [st_miss e10, ← HS.out]; exact rfl
                have HF : Hid (fl d m f (i3 + 1) = fl d m f i3) := by rw [fl_miss e10]; exact rfl
                clear e10 HK HS HH'
                go_wp2
                go_roundw
                case rel => exact ⟨i3 + 1, k, s, by omega, by omega, by omega, HK2, HS2, HO, (by rw [HF.out]; exact HLr), rfl, rfl, by go_num⟩
                case measure => simp [intOf]; omega
            · have hiS : i3 = n := by omega
              have HLS : Hid (Lens wr g2 m (fl d m f n)) := by rw [← hiS]; exact HLr
              have hcall := HH'.out wr HO.out
              clear HH' HLr HK HS hiS
              go_wp2_with fail
              refine hcall.mono ?_
              rintro e w5 ⟨xx, yy, rfl, HX⟩
              obtain ⟨hx, hy, hO5, hL5⟩ := HX.out
              have heq := equal_any aL aW m m m g1 g2 (fl d m f n) w5 hm HNN.out HA1.out HA2.out hL5 (Lens.keep hO5 (fun h => by have := HG.out.1 h; omega) HLS.out)
              have HBz : Hid (Below w.heap.size w w5) := hO5.below (HO.out.below HB.out (by have := HB.out.size; omega) HG.out.2.2.2.2) (by have := HB.out.size; have := HO.out.size; omega) HG.out.2.2.2.1
              have hq := HQS.out
              subst hx hy hq
              clear hcall HX HLS HO hO5 hL5 HQS HA1 HA2 HNN HG HB HL1' HL2 HC HD HE
              go_wp2_with (go_at_call 27; refine heq.mono ?_; rintro e w' ⟨rfl, kk, hw⟩; subst hw)
              go_ret
              exact ⟨rfl, below_drewN HBz.out kk⟩

set_option maxHeartbeats 2000000 in
theorem walk_none (b : Option Addr) (m c c' : Nat) (zs1 : List Int) (w : World) (hm : m ≤ 65536) (hz1 : m ≤ zs1.length) (hs1 : Src .i32 w b m zs1) :
    Calls Try.prog 7 #[.slice none 0 c, .slice b m c'] w fun e w' => e = .returned (.bool true) ∧ Below w.heap.size w w' := by
  have hz := zzb22 none b 0 m c c' w (by omega) hm
  have hcl := clone8 none 0 c [] w (by omega) (.inl ⟨rfl, rfl⟩)
  go_enter Try.func7, Try.ntmps7
  go_wp2_with fail
  refine hz.mono ?_
  rintro e w' ⟨rfl, hw⟩
  have hw2 := hw.symm
  subst hw2
  clear hz
  go_wp2_with fail
  refine hcl.mono ?_
  rintro e w1 ⟨a', rfl, hb1, hnn, hrow⟩
  clear hcl
  obtain rfl : a' = none := by simpa using hnn
  have hs1' : Src .i32 w1 b m zs1 := by
    rcases hs1 with h | ⟨y, hy, hl, hcc⟩
    · exact .inl h
    · exact .inr ⟨y, hy, hl, fun i hi => by have h := hcc i hi; rw [hb1.cell (World.block_lt_of_cell? w _ h)]; exact h⟩
  have hcl := clone32 b m c' zs1 w1 hm hs1'
  clear hs1 hs1' hnn hrow
  have HB1 : Hid (Below w.heap.size w w1) := hb1
  clear hb1
  go_wp2_with fail
  refine hcl.mono ?_
  rintro e w2 ⟨aL, rfl, hb2, hn2, g1, hg1, hp1, hL1⟩
  have hcl2 := clone32 aL m m zs1 w2 hm (src_of hz1 (fun h => (hp1 h).1) hL1)
  clear hcl
  have HB2 : Hid (Below w1.heap.size w1 w2) := hb2
  have HL1 : Hid (Lens w2 g1 m (fun i => zs1.getD i 0)) := hL1
  have HP1 : Hid (0 < m → aL = some ⟨g1, 0, none⟩ ∧ g1 < w2.heap.size) := hp1
  clear hb2 hL1 hp1 hn2
  go_wp2_with fail
  refine hcl2.mono ?_
  rintro e w3 ⟨aW, rfl, hb3, hn3, g2, hg2, hp2, hL2⟩
  clear hcl2
  have hsz2 := HB2.out.size
  have HL1' : Hid (Lens w3 g1 m (fun i => zs1.getD i 0)) := HL1.out.below hb3 (fun h => (HP1.out h).2)
  have HL2 : Hid (Lens w3 g2 m (fun i => zs1.getD i 0)) := hL2
  have HB : Hid (Below w.heap.size w w3) := (HB1.out.trans (HB2.out.mono HB1.out.size)).trans (hb3.mono (Nat.le_trans HB1.out.size hsz2))
  have heq := equal_any aL aW m m m g1 g2 (fun i => zs1.getD i 0) w3 hm hn3.symm (fun h => (HP1.out h).1) (fun h => (hp2 h).1) HL1'.out HL2.out
  have hhd := zz_head (v := .slice none 0 0) (u := .slice aL m m) (w := w3) (R := fun x y w' => x = -1 ∧ y = 0 ∧ w' = w3) ((head_nil (.slice aL m m) w3).mono (fun e w' ⟨h1, h2⟩ => ⟨-1, 0, h1, rfl, rfl, h2⟩))
  clear hb3 hn3 hp2 hL2 HB1 HB2 HL1 HP1 hsz2 hg1 hg2 hz1 HL1' HL2
  go_wp2
  go_loop [6, 7] (fun x y => x = .int .i64 (-1) ∧ y = .int .i64 0) (fun _ _ => 0)
  case atStart => exact ⟨rfl, rfl⟩
  case round =>
    obtain ⟨rfl, rfl⟩ := hrel
    go_wp2
    go_loop [9, 10] (fun x y => x = .int .i64 0 ∧ y = .int .i64 0) (fun _ _ => 0)
    case atStart => exact ⟨rfl, rfl⟩
    case round =>
      obtain ⟨rfl, rfl⟩ := hrel
      go_wp2
      go_loop [11, 12, 13] (fun x y z => x = .int .i64 0 ∧ y = .int .i64 0 ∧ z = .int .i64 0) (fun _ _ _ => 0)
      case atStart => exact ⟨rfl, rfl, rfl⟩
      case round =>
        obtain ⟨rfl, rfl, rfl⟩ := hrel
        go_wp2_with (first | (go_at_call 26; refine hhd.mono ?_; rintro e w' ⟨xx, yy, rfl, rfl, rfl, hw⟩; have hw2 := hw.symm; subst hw2) | (go_at_call 27; refine heq.mono ?_; rintro e w' ⟨rfl, kk, hw⟩; subst hw))
        go_ret
        exact ⟨rfl, below_drewN HB.out kk⟩
end Go.Proofs.Qxb6602430a
