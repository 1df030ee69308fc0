/-
  The walk of LawS2630BCache.
-/
import Derived.Test.YbulkbbleLexer
namespace Go.Proofs.Ybulkbble
open Go.RowKit
/-- WHAT THE WALK IS TOLD OF A SLICE: its first n elements, where there are any. -/
def View (w : World) (a : Option Addr) (k : IntKind) (n : Nat) (I : Nat → Int) : Prop :=
  0 < n → ∃ b off, a = some ⟨b, off, none⟩ ∧ b < w.heap.size ∧ ∀ i, i < n → w.cell? ⟨b, off + i, none⟩ = some (.int k (I i))
theorem lex_new (w : World) (s : ByteArray) (n : Nat) (hn : n ≤ s.size) (ha : ∀ j, j < n → bt s j < 128) :
    LexAt (w.alloc (.cells #[.string s, .int .i64 0, .string ⟨#[]⟩, .int .i64 n, .int .i64 n, .int .i64 n, .string ⟨#[]⟩, .bool false] 34)) w.heap.size s n n :=
  ⟨by rw [heap_alloc_new, lx, cnt_ascii s n ha n (Nat.le_refl _)], Nat.le_refl _, hn, ha⟩
theorem LexAt.below {w w' : World} {b : Nat} {s : ByteArray} {n c : Nat} (h : LexAt w b s n c) {B : Nat} (hb : Below B w w') (hlt : b < B) : LexAt w' b s n c :=
  ⟨(hb.block b hlt).trans h.block, h.lo, h.hi, h.asc⟩
theorem LexAt.lt {w : World} {b : Nat} {s : ByteArray} {n c : Nat} (h : LexAt w b s n c) : b < w.heap.size := (Array.getElem?_eq_some_iff.1 h.block).1
theorem LexAt.other {w w' : World} {b b' : Nat} {s : ByteArray} {n c : Nat} (h : LexAt w b s n c) (hg : w.grownBy w' (some b')) (hne : b ≠ b') : LexAt w' b s n c :=
  ⟨(hg.block b h.lt (fun e => hne (by cases e; rfl))).trans h.block, h.lo, h.hi, h.asc⟩
set_option maxRecDepth 100000 in
set_option maxHeartbeats 2000000 in
theorem cache_walk (s : ByteArray) (a1 : Option Addr) (len1 cap1 : Nat) (I : Nat → Int) (w : World) (hI : ∀ i, 0 ≤ I i ∧ I i ≤ 255) (hs : s.size ≤ 4096) (hl : len1 ≤ 1024) (V1 : View w a1 .u8 len1 I) :
    Calls Yba.prog 4 #[.string s, .slice a1 len1 cap1] w fun e w' => e = .returned (.bool true) ∧ Below w.heap.size w w' := by
  go_enter Yba.func4, Yba.ntmps4
  go_wp2_with fail
  refine (new_any s w (by omega)).mono ?_
  rintro e w1 ⟨n, hn, ha, rfl, hb1⟩
  have hz1 := hb1.size
  have HX : Hid ((∀ j, j < n → bt s j < 128) ∧ Below w.heap.size w w1) := ⟨ha, hb1⟩
  clear ha hb1
  go_wp2
  have hL0 := lex_new w1 s n hn HX.out.1
  have hB0 : Below w.heap.size w (w1.alloc (.cells #[.string s, .int .i64 0, .string ⟨#[]⟩, .int .i64 n, .int .i64 n, .int .i64 n, .string ⟨#[]⟩, .bool false] 34)) := HX.out.2.alloc hz1 _
  obtain ⟨bl, hbld⟩ : ∃ bl, w1.heap.size = bl := ⟨_, rfl⟩
  obtain ⟨W0, hW0⟩ : ∃ W0, w1.alloc (.cells #[.string s, .int .i64 0, .string ⟨#[]⟩, .int .i64 n, .int .i64 n, .int .i64 n, .string ⟨#[]⟩, .bool false] 34) = W0 := ⟨_, rfl⟩
  rw [hW0, hbld] at hL0
  rw [hW0] at hB0
  rw [hW0, hbld]
  have hbl : w.heap.size ≤ bl := by omega
  clear hW0 hbld hz1 HX
  go_loopw [6, 24] (fun o i wr => ∃ k ov c : Nat, k ≤ len1 ∧ ov ≤ s.size ∧ i = .int .i64 k ∧ o = .int .i64 ov ∧ LexAt wr bl s n c ∧ (c = n ∨ c ≤ ov) ∧ Below w.heap.size w wr) (fun _ i _ => len1 - (intOf i).toNat)
  case atStart => exact ⟨0, 0, n, Nat.zero_le _, Nat.zero_le _, rfl, rfl, hL0, .inl rfl, hB0⟩
  case round =>
    obtain ⟨k, ov, c, hk, hov, rfl, rfl, hL1, hcn, hB1⟩ := hrel
    have hL : Hid (LexAt wr bl s n c) := hL1
    have hB : Hid (Below w.heap.size w wr) := hB1
    have hlo := hL1.lo
    clear hL0 hB0
    by_cases hlk : k < len1
    · obtain ⟨b1, f1, rfl, hb1, hc1⟩ := V1 (by omega)
      have c1 : wr.cell? ⟨b1, f1 + k, none⟩ = some (.int .u8 (I k)) := (hB1.cell (p := ⟨b1, f1 + k, none⟩) hb1).trans (hc1 k hlk)
      have hi0 := hI k
      obtain ⟨q, hq⟩ : ∃ q : Nat, I k % 8 = (q : Int) := ⟨(I k % 8).toNat, by omega⟩
      by_cases hgt : s.size < ov + q
      · have hgt' : (s.size : Int) < (ov : Int) + I k % 8 := by omega
        clear hc1 V1 hL1 hB1 hI hq
        go_wp2_with fail
        refine (new_any s wr (by omega)).mono ?_
        rintro e w2 ⟨n2, hn2, ha2, rfl, hb2⟩
        have HX2 : Hid ((∀ j, j < n2 → bt s j < 128) ∧ Below wr.heap.size wr w2) := ⟨ha2, hb2⟩
        clear ha2 hb2
        go_wp2_with fail
        have hf := lex_new w2 s n2 hn2 HX2.out.1
        have hlL : LexAt (w2.alloc (.cells #[.string s, .int .i64 0, .string ⟨#[]⟩, .int .i64 n2, .int .i64 n2, .int .i64 n2, .string ⟨#[]⟩, .bool false] 34)) bl s n c := hL.out.below (HX2.out.2.alloc HX2.out.2.size _) hL.out.lt
        have hBw : Below w.heap.size w (w2.alloc (.cells #[.string s, .int .i64 0, .string ⟨#[]⟩, .int .i64 n2, .int .i64 n2, .int .i64 n2, .string ⟨#[]⟩, .bool false] 34)) := hB.out.trans ((HX2.out.2.alloc HX2.out.2.size _).mono hB.out.size)
        have hne : bl ≠ w2.heap.size := by have h1 := hL.out.lt; have h2 := HX2.out.2.size; omega
        have hw2 : w.heap.size ≤ w2.heap.size := Nat.le_trans hB.out.size HX2.out.2.size
        obtain ⟨w3, hw3⟩ : ∃ w3, w2.alloc (.cells #[.string s, .int .i64 0, .string ⟨#[]⟩, .int .i64 n2, .int .i64 n2, .int .i64 n2, .string ⟨#[]⟩, .bool false] 34) = w3 := ⟨_, rfl⟩
        rw [hw3] at hf hlL hBw ⊢
        clear hw3
        refine (pos_any s w2.heap.size n2 n2 s.size w3 hf (by omega) (by omega) (by omega)).mono ?_
        rintro e w4 ⟨rfl, _, hg4⟩
        have hl4 := hlL.other hg4 hne
        have hB4 : Below w.heap.size w w4 := hBw.grown hg4 hBw.size (fun j e => by cases e; exact hw2)
        clear hf hlL hBw hg4
        go_wp2_with fail
        refine (pos_any s bl n c s.size w4 hl4 (by omega) (by omega) (by omega)).mono ?_
        rintro e w5 ⟨rfl, ⟨c', hl5, hc'⟩, hg5⟩
        have HF : Hid (LexAt w5 bl s n c' ∧ Below w.heap.size w w5) := ⟨hl5, hB4.grown hg5 hB4.size (fun j e => by cases e; exact hbl)⟩
        clear hl5 hg5 hl4 hB4 hL hB
        go_wp2
        go_roundw
        case rel => exact ⟨k + 1, s.size, c', by omega, Nat.le_refl _, by go_num, rfl, HF.out.1, by omega, HF.out.2⟩
        case measure => simp [intOf]; omega
      · have hgt' : (ov : Int) + I k % 8 ≤ (s.size : Int) := by omega
        clear hc1 V1 hL1 hB1 hI
        obtain ⟨o2, hov2⟩ : ∃ o2 : Nat, (ov : Int) + I k % 8 = (o2 : Int) := ⟨ov + q, by omega⟩
        have ho2 : o2 ≤ s.size := by omega
        have ho3 : ov ≤ o2 := by omega
        clear hq hgt hgt'
        go_wp2_with fail
        refine (new_any s wr (by omega)).mono ?_
        rintro e w2 ⟨n2, hn2, ha2, rfl, hb2⟩
        have HX2 : Hid ((∀ j, j < n2 → bt s j < 128) ∧ Below wr.heap.size wr w2) := ⟨ha2, hb2⟩
        clear ha2 hb2
        go_wp2_with fail
        have hf := lex_new w2 s n2 hn2 HX2.out.1
        have hlL : LexAt (w2.alloc (.cells #[.string s, .int .i64 0, .string ⟨#[]⟩, .int .i64 n2, .int .i64 n2, .int .i64 n2, .string ⟨#[]⟩, .bool false] 34)) bl s n c := hL.out.below (HX2.out.2.alloc HX2.out.2.size _) hL.out.lt
        have hBw : Below w.heap.size w (w2.alloc (.cells #[.string s, .int .i64 0, .string ⟨#[]⟩, .int .i64 n2, .int .i64 n2, .int .i64 n2, .string ⟨#[]⟩, .bool false] 34)) := hB.out.trans ((HX2.out.2.alloc HX2.out.2.size _).mono hB.out.size)
        have hne : bl ≠ w2.heap.size := by have h1 := hL.out.lt; have h2 := HX2.out.2.size; omega
        have hw2 : w.heap.size ≤ w2.heap.size := Nat.le_trans hB.out.size HX2.out.2.size
        obtain ⟨w3, hw3⟩ : ∃ w3, w2.alloc (.cells #[.string s, .int .i64 0, .string ⟨#[]⟩, .int .i64 n2, .int .i64 n2, .int .i64 n2, .string ⟨#[]⟩, .bool false] 34) = w3 := ⟨_, rfl⟩
        rw [hw3] at hf hlL hBw ⊢
        clear hw3
        refine (pos_any s w2.heap.size n2 n2 o2 w3 hf (by omega) (by omega) (by omega)).mono ?_
        rintro e w4 ⟨rfl, _, hg4⟩
        have hl4 := hlL.other hg4 hne
        have hB4 : Below w.heap.size w w4 := hBw.grown hg4 hBw.size (fun j e => by cases e; exact hw2)
        clear hf hlL hBw hg4
        go_wp2_with fail
        refine (pos_any s bl n c o2 w4 hl4 (by omega) (by omega) (by omega)).mono ?_
        rintro e w5 ⟨rfl, ⟨c', hl5, hc'⟩, hg5⟩
        have HF : Hid (LexAt w5 bl s n c' ∧ Below w.heap.size w w5) := ⟨hl5, hB4.grown hg5 hB4.size (fun j e => by cases e; exact hbl)⟩
        clear hl5 hg5 hl4 hB4 hL hB
        go_wp2
        go_roundw
        case rel => exact ⟨k + 1, o2, c', by omega, by omega, by go_num, rfl, HF.out.1, by omega, HF.out.2⟩
        case measure => simp [intOf]; omega
    · obtain rfl : k = len1 := by omega
      clear V1 hL1 hB1 hI
      go_wp2_with fail
      refine (new_any s wr (by omega)).mono ?_
      rintro e w2 ⟨n2, hn2, ha2, rfl, hb2⟩
      have HX2 : Hid ((∀ j, j < n2 → bt s j < 128) ∧ Below wr.heap.size wr w2) := ⟨ha2, hb2⟩
      clear ha2 hb2
      go_wp2_with fail
      have hf := lex_new w2 s n2 hn2 HX2.out.1
      have hlL : LexAt (w2.alloc (.cells #[.string s, .int .i64 0, .string ⟨#[]⟩, .int .i64 n2, .int .i64 n2, .int .i64 n2, .string ⟨#[]⟩, .bool false] 34)) bl s n c := hL.out.below (HX2.out.2.alloc HX2.out.2.size _) hL.out.lt
      have hBw : Below w.heap.size w (w2.alloc (.cells #[.string s, .int .i64 0, .string ⟨#[]⟩, .int .i64 n2, .int .i64 n2, .int .i64 n2, .string ⟨#[]⟩, .bool false] 34)) := hB.out.trans ((HX2.out.2.alloc HX2.out.2.size _).mono hB.out.size)
      have hne : bl ≠ w2.heap.size := by have h1 := hL.out.lt; have h2 := HX2.out.2.size; omega
      have hw2 : w.heap.size ≤ w2.heap.size := Nat.le_trans hB.out.size HX2.out.2.size
      obtain ⟨w3, hw3⟩ : ∃ w3, w2.alloc (.cells #[.string s, .int .i64 0, .string ⟨#[]⟩, .int .i64 n2, .int .i64 n2, .int .i64 n2, .string ⟨#[]⟩, .bool false] 34) = w3 := ⟨_, rfl⟩
      rw [hw3] at hf hlL hBw ⊢
      clear hw3
      refine (pos_any s bl n c s.size w3 hlL (by omega) (by omega) (by omega)).mono ?_
      rintro e w4 ⟨rfl, _, hg4⟩
      have hf4 := hf.other hg4 (Ne.symm hne)
      have hB4 : Below w.heap.size w w4 := hBw.grown hg4 hBw.size (fun j e => by cases e; exact hbl)
      clear hf hlL hBw hg4
      go_wp2_with fail
      refine (pos_any s w2.heap.size n2 n2 s.size w4 hf4 (by omega) (by omega) (by omega)).mono ?_
      rintro e w5 ⟨rfl, _, hg5⟩
      have HF : Hid (Below w.heap.size w w5) := hB4.grown hg5 hB4.size (fun j e => by cases e; exact hw2)
      clear hg5 hf4 hB4 hL hB
      go_wp2
      go_ret
      exact ⟨by simp, HF.out⟩
end Go.Proofs.Ybulkbble
