/-
  The walk of FnBlockSpansTileData.
-/
import Derived.Test.Qxb6002358aBlockWalks
namespace Go.Proofs.Qxb6002358a
open Go.RowKit
open Block (cnt spanLen hide unhide)

set_option maxHeartbeats 1000000 in
theorem tile_pos (L S c : Int) (w : World) (h0 : 0 ≤ L) (h1 : L ≤ 1099511627776) (h2 : 1 ≤ S) (h3 : S ≤ 1048576) (hc : Hid (cnt L S = c)) (hb : c ≤ 65536) (hc1 : 1 ≤ c)
    (hcov : L ≤ c * S) (hcov2 : c * S ≤ 2199023255552) (hl0 : 0 ≤ (c - 1) * S) (hl : (c - 1) * S ≤ L) (hLp : 0 < L) (hlt0 : (c - 1) * S < L) :
    Calls Try.prog 9 #[.int .i64 L, .int .i64 S] w fun e w' => e = .returned (.bool true) ∧ Grown w w' := by
  go_enter Try.func9, Try.ntmps9
  go_wp2_with fail
  refine (zzBlockCount_any _ _ _ h0 h1 h2 h3).mono ?_
  rintro e w1 ⟨rfl, hw1⟩
  subst hw1
  rw [unhide hc]
  go_wp2_with fail
  go_loopw [8, 9] (fun t8 t9 wr => ∃ i a : Int, 0 ≤ i ∧ i ≤ c ∧ t9 = .int .u64 i ∧ t8 = .int .i64 a ∧ Block.tileAt L S c i a ∧ Grown w1 wr) (fun _ t9 _ => (c - intOf t9).toNat)
  case atStart => exact ⟨0, 0, by omega, by omega, rfl, rfl, ⟨fun _ => by simp, fun h => by omega⟩, Grown.refl _⟩
  case round =>
    obtain ⟨i, a, hi0, hi, rfl, rfl, hta, hg⟩ := hrel
    by_cases hlt : i < c
    · have ha := hta.1 hlt
      subst ha
      clear hta
      have p0 : 0 ≤ i * S := Block.mul_nn hi0 h2
      have p1 : i * S ≤ (c - 1) * S := Block.mul_mono (by omega) h2
      have hsm := hide (Block.succ_mul i S)
      by_cases hl2 : i + 1 < c
      · have p2 : (i + 1) * S ≤ (c - 1) * S := Block.mul_mono (by omega) h2
        have hs := hide (Block.span_full (L := L) h2 (by omega : (i + 1) * S ≤ L))
        go_wp2_with fail
        refine (zzBlockSpan_any _ _ _ _ _ h0 h1 h2 h3 hi0 (by omega) (by omega) p0 (by omega) ?_ ?_).mono ?_
        · rw [show i + 1 - i = 1 by omega]; omega
        · rw [show i + 1 - i = 1 by omega]; omega
        rintro e w2 ⟨rfl, hw2⟩
        subst hw2
        rw [unhide hs]
        unfold spanObj
        go_wp2_with fail
        go_roundw
        case rel => exact ⟨i + 1, i * S + S, by omega, by omega, rfl, rfl, ⟨fun _ => (unhide hsm).symm, fun h => by omega⟩, ((hg.alloc _ _).alloc _ _).alloc _ _⟩
        case measure => simp [intOf]; omega
      · have p2 : c * S ≤ (i + 1) * S := Block.mul_mono (by omega) h2
        have p3 : L - i * S ≤ S := by have := unhide hsm; omega
        have p4 : (c - 1) * S ≤ i * S := Block.mul_mono (by omega) h2
        have hs := hide (Block.span_last (L := L) h2 (by omega : L ≤ (i + 1) * S))
        go_wp2_with fail
        refine (zzBlockSpan_any _ _ _ _ _ h0 h1 h2 h3 hi0 (by omega) (by omega) p0 (by omega) ?_ ?_).mono ?_
        · rw [show i + 1 - i = 1 by omega]; omega
        · rw [show i + 1 - i = 1 by omega]; omega
        rintro e w2 ⟨rfl, hw2⟩
        subst hw2
        rw [unhide hs]
        unfold spanObj
        go_wp2_with fail
        go_roundw
        case rel => exact ⟨i + 1, i * S + (L - i * S), by omega, by omega, rfl, rfl, ⟨fun h => by omega, fun _ => by omega⟩, ((hg.alloc _ _).alloc _ _).alloc _ _⟩
        case measure => simp [intOf]; omega
    · have ha := hta.2 (by omega)
      subst ha
      clear hta
      have hs := hide (Block.span_all h2 hcov)
      go_wp2_with fail
      refine (zzBlockSpan_any _ _ _ _ _ h0 h1 h2 h3 (by omega) (by omega) (by omega) (by simp) (by simp; omega) ?_ ?_).mono ?_
      · rw [show c - 0 = c by omega]; omega
      · rw [show c - 0 = c by omega]; omega
      rintro e w2 ⟨rfl, hw2⟩
      subst hw2
      rw [unhide hs]
      unfold spanObj
      go_wp2_with fail
      go_ret
      exact ⟨rfl, ((hg.alloc _ _).alloc _ _).alloc _ _⟩

theorem span_zero (S : Int) (h2 : 1 ≤ S) : spanLen 0 1 S 0 = 0 := Block.span_all h2 (by omega)

set_option maxHeartbeats 1000000 in
theorem tile_zero (S : Int) (w : World) (h2 : 1 ≤ S) (h3 : S ≤ 1048576) :
    Calls Try.prog 9 #[.int .i64 0, .int .i64 S] w fun e w' => e = .returned (.bool true) ∧ Grown w w' := by
  have hc := hide (Block.cnt_zero S)
  have hs := hide (span_zero S h2)
  go_enter Try.func9, Try.ntmps9
  go_wp2_with fail
  refine (zzBlockCount_any _ _ _ (by omega) (by omega) h2 h3).mono ?_
  rintro e w1 ⟨rfl, hw1⟩
  subst hw1
  rw [unhide hc]
  go_wp2_with fail
  go_loopw [8, 9] (fun t8 t9 wr => ((t9 = .int .u64 0 ∧ t8 = .int .i64 0) ∨ (t9 = .int .u64 1 ∧ t8 = .int .i64 0)) ∧ Grown w1 wr) (fun _ t9 _ => (1 - intOf t9).toNat)
  case atStart => exact ⟨Or.inl ⟨rfl, rfl⟩, Grown.refl _⟩
  case round =>
    obtain ⟨hrel, hg⟩ := hrel
    rcases hrel with ⟨rfl, rfl⟩ | ⟨rfl, rfl⟩
    · go_wp2_with fail
      refine (zzBlockSpan_any 0 1 S 0 _ (by omega) (by omega) h2 h3 (by omega) (by omega) (by omega) (by simp) (by simp) (by simp; omega) (by simp; omega)).mono ?_
      rintro e w2 ⟨rfl, hw2⟩
      subst hw2
      rw [unhide hs, Int.zero_mul]
      unfold spanObj
      go_wp2_with fail
      go_roundw
      case rel => exact ⟨Or.inr ⟨rfl, rfl⟩, ((hg.alloc _ _).alloc _ _).alloc _ _⟩
      case measure => simp [intOf]
    · go_wp2_with fail
      refine (zzBlockSpan_any 0 1 S 0 _ (by omega) (by omega) h2 h3 (by omega) (by omega) (by omega) (by simp) (by simp) (by simp; omega) (by simp; omega)).mono ?_
      rintro e w2 ⟨rfl, hw2⟩
      subst hw2
      rw [unhide hs, Int.zero_mul]
      unfold spanObj
      go_wp2_with fail
      go_ret
      exact ⟨rfl, ((hg.alloc _ _).alloc _ _).alloc _ _⟩

end Go.Proofs.Qxb6002358a
