/-
  The walk of FnShortIntegerReadsBackItsDecimal, once for each sign (written by tools/gen_decimal.py).
-/
import Derived.Test.Qxb6601318aTextParts
import Derived.Maps.AppendAt
namespace Go.Proofs.Qxb6601318a
open Go.RowKit
open Dec (val dgt row)

set_option maxRecDepth 100000 in
set_option maxHeartbeats 4000000 in
theorem dec_none (M z : Nat) (w : World) (hM : M < 1000000000000000000) (hz : z ≤ 64) (hM1 : 1 ≤ M) :
    Calls Try.prog 5 #[.int .i64 M, .bool false, .int .i64 z] w fun e w' => e = .returned (.bool true) ∧ Below w.heap.size w w' := by
  obtain ⟨i5, hi5, hz0, hz1, hz2⟩ := info_parts info5
  have Hi5 := hide hi5
  have Hz0 := hide hz0
  have Hz1 := hide hz1
  have Hz2 := hide hz2
  clear hi5 hz0 hz1 hz2
  obtain ⟨s, hs⟩ : ∃ s : Nat, s = 0 := ⟨_, rfl⟩
  have Hs := hide hs
  have hs1 : s ≤ 1 := by omega
  clear hs
  have f1 : decide ((M : Int) ≤ -1000000000000000000) = false := by simp; omega
  have f2 : decide (1000000000000000000 ≤ (M : Int)) = false := by simp; omega
  have f2' : decide (1000000000000000000 ≤ M) = false := by simp; omega
  have f5 : decide ((M : Int) < 0) = false := by simp
  have f3 : decide ((z : Int) < 0) = false := by simp
  have f4 : decide (64 < (z : Int)) = false := by simp; omega
  have f4' : decide (64 < z) = false := by simp; omega
  have f6 : ((M : Int) == 0) = false := by simp; omega
  go_enter Try.func5, Try.ntmps5
  go_wp2_with (first | (at_make; refine wpList_make_own _ rfl _ _ 22 rfl w.heap.size 5 i5 (.int .u8 0) 1 Try.underlying22 Hi5.out Hz0.out Hz1.out _ _ _ (1 + z + 19) rfl rfl (by omega) ?b1 ?b2 ?b3 ?_))
  case b1 => rw [Hz2.out]; omega
  case b2 => unfold maxLen; omega
  case b3 => exact Nat.le_refl _
  intro w1 hown hgrow
  have htx : Txt w w1 (1 + z + 19) (FF 0 s z M 0) 0 := ⟨hown, (Below.refl _ _).grown hgrow (Nat.le_refl _) (fun k hk => by cases hk)⟩
  have HT := hide htx
  have hsz1 := txt_lt htx
  clear hown hgrow htx
  go_wp2_with fail
  go_loopw [7, 9] (fun t7 t9 wr => ∃ k : Nat, k ≤ z ∧ t9 = .int .i64 k ∧ t7 = .slice (some ⟨w.heap.size, 0, none⟩) (s + k) (1 + z + 19) ∧ Txt w wr (1 + z + 19) (FF 0 s z M 0) (s + k)) (fun _ t9 _ => z - (intOf t9).toNat)
  case atStart => exact ⟨0, by omega, rfl, by rw [Hs.out], by rw [show s + 0 = 0 by rw [Hs.out]]; exact HT.out⟩
  case round =>
    obtain ⟨k, hk, rfl, rfl, ht⟩ := hrel
    have HT2 := hide ht
    have hsz := txt_lt ht
    clear ht
    by_cases hlt : k < z
    · go_wp2_with (first | (at_builtin; refine wpList_append_fits _ rfl _ _ 22 rfl w.heap.size 5 i5 1 Try.underlying22 Hi5.out Hz1.out w.heap.size (s + k) (1 + z + 19) (tx (FF 0 s z M 0) (s + k)) rfl (HT2.out.1.alloc _) ⟨wr.heap.size, 0, none⟩ 1 1 [.int .u8 48] rfl rfl ?c1 ?c2 ?c3 ?_))
      case c1 => exact cell_one_new _ _ _
      case c2 => intro u hu; simp at hu; subst hu; rfl
      case c3 => omega
      intro w2 hown2 hgrow2
      have ht2 := hide (txt_append HT2.out hown2 hgrow2 (FF_zero 0 s z M 0 k hlt))
      clear hown2 hgrow2
      go_wp2_with fail
      go_roundw
      case rel => exact ⟨k + 1, by omega, by go_num, rfl, ht2.out⟩
      case measure => simp [intOf]; omega
    · have hkz : z = k := by omega
      subst hkz
      have hst0 := st_start M HT2.out
      obtain ⟨wa, hwa⟩ : ∃ wa, wa = wr.alloc (.cells #[.int .u8 0, .int .u8 0, .int .u8 0, .int .u8 0, .int .u8 0, .int .u8 0, .int .u8 0, .int .u8 0, .int .u8 0, .int .u8 0, .int .u8 0, .int .u8 0, .int .u8 0, .int .u8 0, .int .u8 0, .int .u8 0, .int .u8 0, .int .u8 0, .int .u8 0] 29) := ⟨_, rfl⟩
      obtain ⟨r, hr⟩ : ∃ r, r = wr.heap.size := ⟨_, rfl⟩
      rw [← hr, ← hwa] at hst0
      have Hwa := hide hwa
      have Hr := hide hr
      have Hst := hide hst0
      clear hst0 hwa hr
      go_wp2_with fail
      rw [← Hr.out, ← Hwa.out]
      go_loopw [8, 11] (fun t8 t11 wr => ∃ d q : Nat, d ≤ 18 ∧ q < 1000000000000000000 ∧ t8 = .int .i64 q ∧ t11 = .int .i64 d ∧ St w wr (1 + z + 19) (FF 0 s z M 0) (s + z) r M d ∧ Hid (q = M / 10 ^ d) ∧ Hid (q = 0 → 1 ≤ d)) (fun t8 _ _ => (intOf t8).toNat)
      case atStart => exact ⟨0, M, by omega, hM, rfl, rfl, Hst.out, hide (by simp), hide (fun h => by omega)⟩
      case round =>
        obtain ⟨d, q, hd, hq, rfl, rfl, hst2, Hq, Hd⟩ := hrel
        have Hst2 := hide hst2
        by_cases hq0 : 0 < q
        · have hd18 : d < 18 := Dec.digits_le hM (by rw [← Hq.out]; exact hq0)
          obtain ⟨v, hv⟩ := st_there hst2 d (by omega)
          have hf := st_soft hst2 d
          have hnew := hide (st_store (c := 48 + (q : Int) % 10) hst2 (by rw [Hq.out]; unfold dgt; omega))
          clear hst2
          go_wp2_with fail
          go_roundw
          case rel => exact ⟨d + 1, q / 10, by omega, by omega, by go_num, by go_num, hnew.out, hide (by rw [Dec.div_step, ← Hq.out]), hide (fun _ => by omega)⟩
          case measure => simp [intOf]; omega
        · have hqz : q = 0 := by omega
          have hd1 : 1 ≤ d := Hd.out hqz
          have HMd : Hid (M / 10 ^ d = 0) := by show M / 10 ^ d = 0; rw [← Hq.out]; exact hqz
          have hqi : ((q : Nat) : Int) = 0 := by omega
          rw [hqi]
          clear hqi hqz hq0 hq
          have Hst3 := hide (st_congr (G := FF 0 s z M d) hst2 (fun j hj => FF_congr 0 s z M 0 d j hj))
          clear hst2 Hst2 Hq Hd
          go_wp2_with fail
          go_loopw [7, 12] (fun t7 t12 wr => (∃ p : Nat, p < d ∧ t12 = .int .i64 p ∧ t7 = .slice (some ⟨w.heap.size, 0, none⟩) (s + z + (d - 1 - p)) (1 + z + 19) ∧ St w wr (1 + z + 19) (FF 0 s z M d) (s + z + (d - 1 - p)) r M d) ∨
              (t12 = .int .i64 (-1) ∧ t7 = .slice (some ⟨w.heap.size, 0, none⟩) (s + z + d) (1 + z + 19) ∧ St w wr (1 + z + 19) (FF 0 s z M d) (s + z + d) r M d)) (fun _ t12 _ => (intOf t12 + 1).toNat)
          case atStart =>
            refine Or.inl ⟨d - 1, by omega, by go_num, ?_, ?_⟩
            · rw [show s + z + (d - 1 - (d - 1)) = s + z by omega]
            · rw [show s + z + (d - 1 - (d - 1)) = s + z by omega]; exact Hst3.out
          case round =>
            rcases hrel with ⟨p, hp, rfl, rfl, hst4⟩ | ⟨rfl, rfl, hst4⟩
            · have Hst4 := hide hst4
              have hcp := st_cell hst4 p hp hd
              have hp0 : (0 : Int) ≤ (p : Int) := by omega
              have hp19 : (p : Int) < 19 := by omega
              obtain ⟨L, hL⟩ : ∃ L, L = s + z + (d - 1 - p) := ⟨_, rfl⟩
              have hL1 : L + 1 ≤ 1 + z + 19 := by omega
              have HL := hide hL
              rw [← hL] at Hst4 ⊢
              clear hL hst4
              go_wp2_with (first | (at_builtin; refine wpList_append_fits _ rfl _ _ 22 rfl w.heap.size 5 i5 1 Try.underlying22 Hi5.out Hz1.out w.heap.size L (1 + z + 19) (tx (FF 0 s z M d) L) rfl (Hst4.out.1.1.alloc _) ⟨wr.heap.size, 0, none⟩ 1 1 [.int .u8 (48 + (dgt M p : Int))] rfl rfl ?c1 ?c2 ?c3 ?_))
              case c1 => exact cell_one_new _ _ _
              case c2 => intro u hu; simp at hu; subst hu; rfl
              case c3 => omega
              intro w2 hown2 hgrow2
              have hnew := hide (st_append Hst4.out hown2 hgrow2 (by rw [HL.out]; exact FF_digit 0 s z M d p hp))
              clear hown2 hgrow2
              go_wp2_with fail
              go_roundw
              case rel =>
                by_cases hpz : p = 0
                · refine Or.inr ⟨by rw [hpz]; rfl, ?_, ?_⟩
                  · rw [HL.out, show s + z + (d - 1 - p) + 1 = s + z + d by omega]
                  · rw [show s + z + d = L + 1 by rw [HL.out]; omega]; exact hnew.out
                · refine Or.inl ⟨p - 1, by omega, by go_num, ?_, ?_⟩
                  · rw [HL.out, show s + z + (d - 1 - p) + 1 = s + z + (d - 1 - (p - 1)) by omega]
                  · rw [show s + z + (d - 1 - (p - 1)) = L + 1 by rw [HL.out]; omega]; exact hnew.out
              case measure => simp [intOf]
            · have Hst4 := hide hst4
              have hbel := hide hst4.1.2
              have HC : Hid (∀ j, j < z + d → wr.cell? ⟨w.heap.size, s + j, none⟩ = some (.int .u8 (row z M d j))) := by
                intro j hj
                rw [txt_cell hst4.1 (s + j) (by omega), FF_row 0 s z M d j]
              have HD : Hid (∀ j, 48 ≤ row z M d j ∧ row z M d j ≤ 57) := hide (fun j => Dec.row_digit z M d j)
              have Hval := hide (Dec.row_whole z M d HMd.out)
              clear hst4
              have HLen : Hid (s + z + d = z + d) := by show s + z + d = _; rw [Hs.out]; omega
              rw [HLen.out]
              rw [Hs.out] at HC
              by_cases h18 : z + d ≤ 18
              · have hcall := hide (short_plain w.heap.size (1 + z + 19) (z + d) (row z M d) wr (by omega) h18 (by omega) (hide (fun j hj => by have := HC.out j hj; rwa [Nat.zero_add] at this)) HD)
                rw [Hval.out] at hcall
                have g1 : decide (18 < (z : Int) + (d : Int)) = false := by simp; omega
                go_wp2_with fail
                refine (zzshort_of _ M true _ hcall).mono ?_
                rintro e w3 ⟨rfl, hw3⟩
                subst hw3
                go_wp2_with fail
                go_ret
                exact ⟨rfl, hbel.out⟩
              · have hcall := hide (short_long w.heap.size (1 + z + 19) (z + d) (row z M d 0) wr (by omega) (by have := HC.out 0 (by omega); rwa [Nat.zero_add] at this) (HD.out 0).1 (HD.out 0).2)
                have g1 : decide (18 < (z : Int) + (d : Int)) = true := by simp; omega
                go_wp2_with fail
                refine (zzshort_of _ 0 false _ hcall).mono ?_
                rintro e w3 ⟨rfl, hw3⟩
                subst hw3
                go_wp2_with fail
                go_ret
                exact ⟨rfl, hbel.out⟩

set_option maxRecDepth 100000 in
set_option maxHeartbeats 4000000 in
theorem dec_plus (M z : Nat) (w : World) (hM : M < 1000000000000000000) (hz : z ≤ 64) (hM1 : 1 ≤ M) :
    Calls Try.prog 5 #[.int .i64 M, .bool true, .int .i64 z] w fun e w' => e = .returned (.bool true) ∧ Below w.heap.size w w' := by
  obtain ⟨i5, hi5, hz0, hz1, hz2⟩ := info_parts info5
  have Hi5 := hide hi5
  have Hz0 := hide hz0
  have Hz1 := hide hz1
  have Hz2 := hide hz2
  clear hi5 hz0 hz1 hz2
  obtain ⟨s, hs⟩ : ∃ s : Nat, s = 1 := ⟨_, rfl⟩
  have Hs := hide hs
  have hs1 : s ≤ 1 := by omega
  clear hs
  have f1 : decide ((M : Int) ≤ -1000000000000000000) = false := by simp; omega
  have f2 : decide (1000000000000000000 ≤ (M : Int)) = false := by simp; omega
  have f2' : decide (1000000000000000000 ≤ M) = false := by simp; omega
  have f5 : decide ((M : Int) < 0) = false := by simp
  have f3 : decide ((z : Int) < 0) = false := by simp
  have f4 : decide (64 < (z : Int)) = false := by simp; omega
  have f4' : decide (64 < z) = false := by simp; omega
  have f6 : ((M : Int) == 0) = false := by simp; omega
  go_enter Try.func5, Try.ntmps5
  go_wp2_with (first | (at_make; refine wpList_make_own _ rfl _ _ 22 rfl w.heap.size 5 i5 (.int .u8 0) 1 Try.underlying22 Hi5.out Hz0.out Hz1.out _ _ _ (1 + z + 19) rfl rfl (by omega) ?b1 ?b2 ?b3 ?_))
  case b1 => rw [Hz2.out]; omega
  case b2 => unfold maxLen; omega
  case b3 => exact Nat.le_refl _
  intro w1 hown hgrow
  have htx : Txt w w1 (1 + z + 19) (FF 43 s z M 0) 0 := ⟨hown, (Below.refl _ _).grown hgrow (Nat.le_refl _) (fun k hk => by cases hk)⟩
  have HT := hide htx
  have hsz1 := txt_lt htx
  clear hown hgrow htx
  go_wp2_with (first | (at_builtin; refine wpList_append_fits _ rfl _ _ 22 rfl w.heap.size 5 i5 1 Try.underlying22 Hi5.out Hz1.out w.heap.size 0 (1 + z + 19) (tx (FF 43 s z M 0) 0) rfl (HT.out.1.alloc _) ⟨w1.heap.size, 0, none⟩ 1 1 [.int .u8 43] rfl rfl ?c1 ?c2 ?c3 ?_))
  case c1 => exact cell_one_new _ _ _
  case c2 => intro u hu; simp at hu; subst hu; rfl
  case c3 => omega
  intro w2 hown2 hgrow2
  have HT1 := hide (txt_append (L := 0) HT.out hown2 hgrow2 (by unfold FF; rw [if_pos (by rw [Hs.out]; omega)]))
  clear hown2 hgrow2
  go_wp2_with fail
  go_loopw [7, 9] (fun t7 t9 wr => ∃ k : Nat, k ≤ z ∧ t9 = .int .i64 k ∧ t7 = .slice (some ⟨w.heap.size, 0, none⟩) (s + k) (1 + z + 19) ∧ Txt w wr (1 + z + 19) (FF 43 s z M 0) (s + k)) (fun _ t9 _ => z - (intOf t9).toNat)
  case atStart => exact ⟨0, by omega, rfl, by rw [Hs.out], by rw [show s + 0 = 1 by rw [Hs.out]]; exact HT1.out⟩
  case round =>
    obtain ⟨k, hk, rfl, rfl, ht⟩ := hrel
    have HT2 := hide ht
    have hsz := txt_lt ht
    clear ht
    by_cases hlt : k < z
    · go_wp2_with (first | (at_builtin; refine wpList_append_fits _ rfl _ _ 22 rfl w.heap.size 5 i5 1 Try.underlying22 Hi5.out Hz1.out w.heap.size (s + k) (1 + z + 19) (tx (FF 43 s z M 0) (s + k)) rfl (HT2.out.1.alloc _) ⟨wr.heap.size, 0, none⟩ 1 1 [.int .u8 48] rfl rfl ?c1 ?c2 ?c3 ?_))
      case c1 => exact cell_one_new _ _ _
      case c2 => intro u hu; simp at hu; subst hu; rfl
      case c3 => omega
      intro w2 hown2 hgrow2
      have ht2 := hide (txt_append HT2.out hown2 hgrow2 (FF_zero 43 s z M 0 k hlt))
      clear hown2 hgrow2
      go_wp2_with fail
      go_roundw
      case rel => exact ⟨k + 1, by omega, by go_num, rfl, ht2.out⟩
      case measure => simp [intOf]; omega
    · have hkz : z = k := by omega
      subst hkz
      have hst0 := st_start M HT2.out
      obtain ⟨wa, hwa⟩ : ∃ wa, wa = wr.alloc (.cells #[.int .u8 0, .int .u8 0, .int .u8 0, .int .u8 0, .int .u8 0, .int .u8 0, .int .u8 0, .int .u8 0, .int .u8 0, .int .u8 0, .int .u8 0, .int .u8 0, .int .u8 0, .int .u8 0, .int .u8 0, .int .u8 0, .int .u8 0, .int .u8 0, .int .u8 0] 29) := ⟨_, rfl⟩
      obtain ⟨r, hr⟩ : ∃ r, r = wr.heap.size := ⟨_, rfl⟩
      rw [← hr, ← hwa] at hst0
      have Hwa := hide hwa
      have Hr := hide hr
      have Hst := hide hst0
      clear hst0 hwa hr
      go_wp2_with fail
      rw [← Hr.out, ← Hwa.out]
      go_loopw [8, 11] (fun t8 t11 wr => ∃ d q : Nat, d ≤ 18 ∧ q < 1000000000000000000 ∧ t8 = .int .i64 q ∧ t11 = .int .i64 d ∧ St w wr (1 + z + 19) (FF 43 s z M 0) (s + z) r M d ∧ Hid (q = M / 10 ^ d) ∧ Hid (q = 0 → 1 ≤ d)) (fun t8 _ _ => (intOf t8).toNat)
      case atStart => exact ⟨0, M, by omega, hM, rfl, rfl, Hst.out, hide (by simp), hide (fun h => by omega)⟩
      case round =>
        obtain ⟨d, q, hd, hq, rfl, rfl, hst2, Hq, Hd⟩ := hrel
        have Hst2 := hide hst2
        by_cases hq0 : 0 < q
        · have hd18 : d < 18 := Dec.digits_le hM (by rw [← Hq.out]; exact hq0)
          obtain ⟨v, hv⟩ := st_there hst2 d (by omega)
          have hf := st_soft hst2 d
          have hnew := hide (st_store (c := 48 + (q : Int) % 10) hst2 (by rw [Hq.out]; unfold dgt; omega))
          clear hst2
          go_wp2_with fail
          go_roundw
          case rel => exact ⟨d + 1, q / 10, by omega, by omega, by go_num, by go_num, hnew.out, hide (by rw [Dec.div_step, ← Hq.out]), hide (fun _ => by omega)⟩
          case measure => simp [intOf]; omega
        · have hqz : q = 0 := by omega
          have hd1 : 1 ≤ d := Hd.out hqz
          have HMd : Hid (M / 10 ^ d = 0) := by show M / 10 ^ d = 0; rw [← Hq.out]; exact hqz
          have hqi : ((q : Nat) : Int) = 0 := by omega
          rw [hqi]
          clear hqi hqz hq0 hq
          have Hst3 := hide (st_congr (G := FF 43 s z M d) hst2 (fun j hj => FF_congr 43 s z M 0 d j hj))
          clear hst2 Hst2 Hq Hd
          go_wp2_with fail
          go_loopw [7, 12] (fun t7 t12 wr => (∃ p : Nat, p < d ∧ t12 = .int .i64 p ∧ t7 = .slice (some ⟨w.heap.size, 0, none⟩) (s + z + (d - 1 - p)) (1 + z + 19) ∧ St w wr (1 + z + 19) (FF 43 s z M d) (s + z + (d - 1 - p)) r M d) ∨
              (t12 = .int .i64 (-1) ∧ t7 = .slice (some ⟨w.heap.size, 0, none⟩) (s + z + d) (1 + z + 19) ∧ St w wr (1 + z + 19) (FF 43 s z M d) (s + z + d) r M d)) (fun _ t12 _ => (intOf t12 + 1).toNat)
          case atStart =>
            refine Or.inl ⟨d - 1, by omega, by go_num, ?_, ?_⟩
            · rw [show s + z + (d - 1 - (d - 1)) = s + z by omega]
            · rw [show s + z + (d - 1 - (d - 1)) = s + z by omega]; exact Hst3.out
          case round =>
            rcases hrel with ⟨p, hp, rfl, rfl, hst4⟩ | ⟨rfl, rfl, hst4⟩
            · have Hst4 := hide hst4
              have hcp := st_cell hst4 p hp hd
              have hp0 : (0 : Int) ≤ (p : Int) := by omega
              have hp19 : (p : Int) < 19 := by omega
              obtain ⟨L, hL⟩ : ∃ L, L = s + z + (d - 1 - p) := ⟨_, rfl⟩
              have hL1 : L + 1 ≤ 1 + z + 19 := by omega
              have HL := hide hL
              rw [← hL] at Hst4 ⊢
              clear hL hst4
              go_wp2_with (first | (at_builtin; refine wpList_append_fits _ rfl _ _ 22 rfl w.heap.size 5 i5 1 Try.underlying22 Hi5.out Hz1.out w.heap.size L (1 + z + 19) (tx (FF 43 s z M d) L) rfl (Hst4.out.1.1.alloc _) ⟨wr.heap.size, 0, none⟩ 1 1 [.int .u8 (48 + (dgt M p : Int))] rfl rfl ?c1 ?c2 ?c3 ?_))
              case c1 => exact cell_one_new _ _ _
              case c2 => intro u hu; simp at hu; subst hu; rfl
              case c3 => omega
              intro w2 hown2 hgrow2
              have hnew := hide (st_append Hst4.out hown2 hgrow2 (by rw [HL.out]; exact FF_digit 43 s z M d p hp))
              clear hown2 hgrow2
              go_wp2_with fail
              go_roundw
              case rel =>
                by_cases hpz : p = 0
                · refine Or.inr ⟨by rw [hpz]; rfl, ?_, ?_⟩
                  · rw [HL.out, show s + z + (d - 1 - p) + 1 = s + z + d by omega]
                  · rw [show s + z + d = L + 1 by rw [HL.out]; omega]; exact hnew.out
                · refine Or.inl ⟨p - 1, by omega, by go_num, ?_, ?_⟩
                  · rw [HL.out, show s + z + (d - 1 - p) + 1 = s + z + (d - 1 - (p - 1)) by omega]
                  · rw [show s + z + (d - 1 - (p - 1)) = L + 1 by rw [HL.out]; omega]; exact hnew.out
              case measure => simp [intOf]
            · have Hst4 := hide hst4
              have hbel := hide hst4.1.2
              have HC : Hid (∀ j, j < z + d → wr.cell? ⟨w.heap.size, s + j, none⟩ = some (.int .u8 (row z M d j))) := by
                intro j hj
                rw [txt_cell hst4.1 (s + j) (by omega), FF_row 43 s z M d j]
              have hc0 : wr.cell? ⟨w.heap.size, 0, none⟩ = some (.int .u8 43) := by
                rw [txt_cell hst4.1 0 (by omega)]; unfold FF; rw [if_pos (by rw [Hs.out]; omega)]
              have HD : Hid (∀ j, 48 ≤ row z M d j ∧ row z M d j ≤ 57) := hide (fun j => Dec.row_digit z M d j)
              have Hval := hide (Dec.row_whole z M d HMd.out)
              clear hst4
              have HLen : Hid (s + z + d = z + d + 1) := by show s + z + d = _; rw [Hs.out]; omega
              rw [HLen.out]
              rw [Hs.out] at HC
              by_cases h18 : z + d ≤ 18
              · have hcall := hide (short_plus w.heap.size (1 + z + 19) (z + d) (row z M d) wr (by omega) h18 (by omega) hc0 (hide (fun j hj => HC.out j hj)) HD)
                rw [Hval.out] at hcall
                have g1 : decide (18 < (z : Int) + (d : Int)) = false := by simp; omega
                clear hc0
                go_wp2_with fail
                refine (zzshort_of _ M true _ hcall).mono ?_
                rintro e w3 ⟨rfl, hw3⟩
                subst hw3
                go_wp2_with fail
                go_ret
                exact ⟨rfl, hbel.out⟩
              · have hcall := hide (short_long_sign w.heap.size (1 + z + 19) (z + d) 43 wr (by omega) (by omega) hc0 (Or.inl rfl))
                have g1 : decide (18 < (z : Int) + (d : Int)) = true := by simp; omega
                clear hc0
                go_wp2_with fail
                refine (zzshort_of _ 0 false _ hcall).mono ?_
                rintro e w3 ⟨rfl, hw3⟩
                subst hw3
                go_wp2_with fail
                go_ret
                exact ⟨rfl, hbel.out⟩

set_option maxRecDepth 100000 in
set_option maxHeartbeats 4000000 in
theorem dec_minus (M z : Nat) (b : Bool) (w : World) (hM : M < 1000000000000000000) (hz : z ≤ 64) (hM1 : 1 ≤ M) :
    Calls Try.prog 5 #[.int .i64 (-(M : Int)), .bool b, .int .i64 z] w fun e w' => e = .returned (.bool true) ∧ Below w.heap.size w w' := by
  obtain ⟨i5, hi5, hz0, hz1, hz2⟩ := info_parts info5
  have Hi5 := hide hi5
  have Hz0 := hide hz0
  have Hz1 := hide hz1
  have Hz2 := hide hz2
  clear hi5 hz0 hz1 hz2
  obtain ⟨s, hs⟩ : ∃ s : Nat, s = 1 := ⟨_, rfl⟩
  have Hs := hide hs
  have hs1 : s ≤ 1 := by omega
  clear hs
  have f1 : decide (-(M : Int) ≤ -1000000000000000000) = false := by simp; omega
  have f1' : decide (1000000000000000000 ≤ (M : Int)) = false := by simp; omega
  have f1'' : decide (1000000000000000000 ≤ M) = false := by simp; omega
  have f2 : decide (1000000000000000000 ≤ -(M : Int)) = false := by simp; omega
  have f5 : decide (-(M : Int) < 0) = true := by simp; omega
  have f5' : decide (0 < (M : Int)) = true := by simp; omega
  have f5'' : decide (0 < M) = true := by simp; omega
  have f3 : decide ((z : Int) < 0) = false := by simp
  have f4 : decide (64 < (z : Int)) = false := by simp; omega
  have f4' : decide (64 < z) = false := by simp; omega
  have f6 : ((M : Int) == 0) = false := by simp; omega
  go_enter Try.func5, Try.ntmps5
  go_wp2_with (first | (at_make; refine wpList_make_own _ rfl _ _ 22 rfl w.heap.size 5 i5 (.int .u8 0) 1 Try.underlying22 Hi5.out Hz0.out Hz1.out _ _ _ (1 + z + 19) rfl rfl (by omega) ?b1 ?b2 ?b3 ?_))
  case b1 => rw [Hz2.out]; omega
  case b2 => unfold maxLen; omega
  case b3 => exact Nat.le_refl _
  intro w1 hown hgrow
  have htx : Txt w w1 (1 + z + 19) (FF 45 s z M 0) 0 := ⟨hown, (Below.refl _ _).grown hgrow (Nat.le_refl _) (fun k hk => by cases hk)⟩
  have HT := hide htx
  have hsz1 := txt_lt htx
  clear hown hgrow htx
  go_wp2_with (first | (at_builtin; refine wpList_append_fits _ rfl _ _ 22 rfl w.heap.size 5 i5 1 Try.underlying22 Hi5.out Hz1.out w.heap.size 0 (1 + z + 19) (tx (FF 45 s z M 0) 0) rfl (HT.out.1.alloc _) ⟨w1.heap.size, 0, none⟩ 1 1 [.int .u8 45] rfl rfl ?c1 ?c2 ?c3 ?_))
  case c1 => exact cell_one_new _ _ _
  case c2 => intro u hu; simp at hu; subst hu; rfl
  case c3 => omega
  intro w2 hown2 hgrow2
  have HT1 := hide (txt_append (L := 0) HT.out hown2 hgrow2 (by unfold FF; rw [if_pos (by rw [Hs.out]; omega)]))
  clear hown2 hgrow2
  go_wp2_with fail
  go_loopw [7, 9] (fun t7 t9 wr => ∃ k : Nat, k ≤ z ∧ t9 = .int .i64 k ∧ t7 = .slice (some ⟨w.heap.size, 0, none⟩) (s + k) (1 + z + 19) ∧ Txt w wr (1 + z + 19) (FF 45 s z M 0) (s + k)) (fun _ t9 _ => z - (intOf t9).toNat)
  case atStart => exact ⟨0, by omega, rfl, by rw [Hs.out], by rw [show s + 0 = 1 by rw [Hs.out]]; exact HT1.out⟩
  case round =>
    obtain ⟨k, hk, rfl, rfl, ht⟩ := hrel
    have HT2 := hide ht
    have hsz := txt_lt ht
    clear ht
    by_cases hlt : k < z
    · go_wp2_with (first | (at_builtin; refine wpList_append_fits _ rfl _ _ 22 rfl w.heap.size 5 i5 1 Try.underlying22 Hi5.out Hz1.out w.heap.size (s + k) (1 + z + 19) (tx (FF 45 s z M 0) (s + k)) rfl (HT2.out.1.alloc _) ⟨wr.heap.size, 0, none⟩ 1 1 [.int .u8 48] rfl rfl ?c1 ?c2 ?c3 ?_))
      case c1 => exact cell_one_new _ _ _
      case c2 => intro u hu; simp at hu; subst hu; rfl
      case c3 => omega
      intro w2 hown2 hgrow2
      have ht2 := hide (txt_append HT2.out hown2 hgrow2 (FF_zero 45 s z M 0 k hlt))
      clear hown2 hgrow2
      go_wp2_with fail
      go_roundw
      case rel => exact ⟨k + 1, by omega, by go_num, rfl, ht2.out⟩
      case measure => simp [intOf]; omega
    · have hkz : z = k := by omega
      subst hkz
      have hst0 := st_start M HT2.out
      obtain ⟨wa, hwa⟩ : ∃ wa, wa = wr.alloc (.cells #[.int .u8 0, .int .u8 0, .int .u8 0, .int .u8 0, .int .u8 0, .int .u8 0, .int .u8 0, .int .u8 0, .int .u8 0, .int .u8 0, .int .u8 0, .int .u8 0, .int .u8 0, .int .u8 0, .int .u8 0, .int .u8 0, .int .u8 0, .int .u8 0, .int .u8 0] 29) := ⟨_, rfl⟩
      obtain ⟨r, hr⟩ : ∃ r, r = wr.heap.size := ⟨_, rfl⟩
      rw [← hr, ← hwa] at hst0
      have Hwa := hide hwa
      have Hr := hide hr
      have Hst := hide hst0
      clear hst0 hwa hr
      go_wp2_with fail
      rw [← Hr.out, ← Hwa.out]
      go_loopw [8, 11] (fun t8 t11 wr => ∃ d q : Nat, d ≤ 18 ∧ q < 1000000000000000000 ∧ t8 = .int .i64 q ∧ t11 = .int .i64 d ∧ St w wr (1 + z + 19) (FF 45 s z M 0) (s + z) r M d ∧ Hid (q = M / 10 ^ d) ∧ Hid (q = 0 → 1 ≤ d)) (fun t8 _ _ => (intOf t8).toNat)
      case atStart => exact ⟨0, M, by omega, hM, rfl, rfl, Hst.out, hide (by simp), hide (fun h => by omega)⟩
      case round =>
        obtain ⟨d, q, hd, hq, rfl, rfl, hst2, Hq, Hd⟩ := hrel
        have Hst2 := hide hst2
        by_cases hq0 : 0 < q
        · have hd18 : d < 18 := Dec.digits_le hM (by rw [← Hq.out]; exact hq0)
          obtain ⟨v, hv⟩ := st_there hst2 d (by omega)
          have hf := st_soft hst2 d
          have hnew := hide (st_store (c := 48 + (q : Int) % 10) hst2 (by rw [Hq.out]; unfold dgt; omega))
          clear hst2
          go_wp2_with fail
          go_roundw
          case rel => exact ⟨d + 1, q / 10, by omega, by omega, by go_num, by go_num, hnew.out, hide (by rw [Dec.div_step, ← Hq.out]), hide (fun _ => by omega)⟩
          case measure => simp [intOf]; omega
        · have hqz : q = 0 := by omega
          have hd1 : 1 ≤ d := Hd.out hqz
          have HMd : Hid (M / 10 ^ d = 0) := by show M / 10 ^ d = 0; rw [← Hq.out]; exact hqz
          have hqi : ((q : Nat) : Int) = 0 := by omega
          rw [hqi]
          clear hqi hqz hq0 hq
          have Hst3 := hide (st_congr (G := FF 45 s z M d) hst2 (fun j hj => FF_congr 45 s z M 0 d j hj))
          clear hst2 Hst2 Hq Hd
          go_wp2_with fail
          go_loopw [7, 12] (fun t7 t12 wr => (∃ p : Nat, p < d ∧ t12 = .int .i64 p ∧ t7 = .slice (some ⟨w.heap.size, 0, none⟩) (s + z + (d - 1 - p)) (1 + z + 19) ∧ St w wr (1 + z + 19) (FF 45 s z M d) (s + z + (d - 1 - p)) r M d) ∨
              (t12 = .int .i64 (-1) ∧ t7 = .slice (some ⟨w.heap.size, 0, none⟩) (s + z + d) (1 + z + 19) ∧ St w wr (1 + z + 19) (FF 45 s z M d) (s + z + d) r M d)) (fun _ t12 _ => (intOf t12 + 1).toNat)
          case atStart =>
            refine Or.inl ⟨d - 1, by omega, by go_num, ?_, ?_⟩
            · rw [show s + z + (d - 1 - (d - 1)) = s + z by omega]
            · rw [show s + z + (d - 1 - (d - 1)) = s + z by omega]; exact Hst3.out
          case round =>
            rcases hrel with ⟨p, hp, rfl, rfl, hst4⟩ | ⟨rfl, rfl, hst4⟩
            · have Hst4 := hide hst4
              have hcp := st_cell hst4 p hp hd
              have hp0 : (0 : Int) ≤ (p : Int) := by omega
              have hp19 : (p : Int) < 19 := by omega
              obtain ⟨L, hL⟩ : ∃ L, L = s + z + (d - 1 - p) := ⟨_, rfl⟩
              have hL1 : L + 1 ≤ 1 + z + 19 := by omega
              have HL := hide hL
              rw [← hL] at Hst4 ⊢
              clear hL hst4
              go_wp2_with (first | (at_builtin; refine wpList_append_fits _ rfl _ _ 22 rfl w.heap.size 5 i5 1 Try.underlying22 Hi5.out Hz1.out w.heap.size L (1 + z + 19) (tx (FF 45 s z M d) L) rfl (Hst4.out.1.1.alloc _) ⟨wr.heap.size, 0, none⟩ 1 1 [.int .u8 (48 + (dgt M p : Int))] rfl rfl ?c1 ?c2 ?c3 ?_))
              case c1 => exact cell_one_new _ _ _
              case c2 => intro u hu; simp at hu; subst hu; rfl
              case c3 => omega
              intro w2 hown2 hgrow2
              have hnew := hide (st_append Hst4.out hown2 hgrow2 (by rw [HL.out]; exact FF_digit 45 s z M d p hp))
              clear hown2 hgrow2
              go_wp2_with fail
              go_roundw
              case rel =>
                by_cases hpz : p = 0
                · refine Or.inr ⟨by rw [hpz]; rfl, ?_, ?_⟩
                  · rw [HL.out, show s + z + (d - 1 - p) + 1 = s + z + d by omega]
                  · rw [show s + z + d = L + 1 by rw [HL.out]; omega]; exact hnew.out
                · refine Or.inl ⟨p - 1, by omega, by go_num, ?_, ?_⟩
                  · rw [HL.out, show s + z + (d - 1 - p) + 1 = s + z + (d - 1 - (p - 1)) by omega]
                  · rw [show s + z + (d - 1 - (p - 1)) = L + 1 by rw [HL.out]; omega]; exact hnew.out
              case measure => simp [intOf]
            · have Hst4 := hide hst4
              have hbel := hide hst4.1.2
              have HC : Hid (∀ j, j < z + d → wr.cell? ⟨w.heap.size, s + j, none⟩ = some (.int .u8 (row z M d j))) := by
                intro j hj
                rw [txt_cell hst4.1 (s + j) (by omega), FF_row 45 s z M d j]
              have hc0 : wr.cell? ⟨w.heap.size, 0, none⟩ = some (.int .u8 45) := by
                rw [txt_cell hst4.1 0 (by omega)]; unfold FF; rw [if_pos (by rw [Hs.out]; omega)]
              have HD : Hid (∀ j, 48 ≤ row z M d j ∧ row z M d j ≤ 57) := hide (fun j => Dec.row_digit z M d j)
              have Hval := hide (Dec.row_whole z M d HMd.out)
              clear hst4
              have HLen : Hid (s + z + d = z + d + 1) := by show s + z + d = _; rw [Hs.out]; omega
              rw [HLen.out]
              rw [Hs.out] at HC
              by_cases h18 : z + d ≤ 18
              · have hcall := hide (short_minus w.heap.size (1 + z + 19) (z + d) (row z M d) wr (by omega) h18 (by omega) hc0 (hide (fun j hj => HC.out j hj)) HD)
                rw [Hval.out] at hcall
                have g1 : decide (18 < (z : Int) + (d : Int)) = false := by simp; omega
                clear hc0
                go_wp2_with fail
                refine (zzshort_of _ (-(M : Int)) true _ hcall).mono ?_
                rintro e w3 ⟨rfl, hw3⟩
                subst hw3
                go_wp2_with fail
                go_ret
                exact ⟨rfl, hbel.out⟩
              · have hcall := hide (short_long_sign w.heap.size (1 + z + 19) (z + d) 45 wr (by omega) (by omega) hc0 (Or.inr rfl))
                have g1 : decide (18 < (z : Int) + (d : Int)) = true := by simp; omega
                clear hc0
                go_wp2_with fail
                refine (zzshort_of _ 0 false _ hcall).mono ?_
                rintro e w3 ⟨rfl, hw3⟩
                subst hw3
                go_wp2_with fail
                go_ret
                exact ⟨rfl, hbel.out⟩

set_option maxRecDepth 100000 in
set_option maxHeartbeats 4000000 in
theorem dec_none_zero (M z : Nat) (w : World) (hM : M < 1000000000000000000) (hz : z ≤ 64) (hM0 : M = 0) :
    Calls Try.prog 5 #[.int .i64 M, .bool false, .int .i64 z] w fun e w' => e = .returned (.bool true) ∧ Below w.heap.size w w' := by
  obtain ⟨i5, hi5, hz0, hz1, hz2⟩ := info_parts info5
  have Hi5 := hide hi5
  have Hz0 := hide hz0
  have Hz1 := hide hz1
  have Hz2 := hide hz2
  clear hi5 hz0 hz1 hz2
  obtain ⟨s, hs⟩ : ∃ s : Nat, s = 0 := ⟨_, rfl⟩
  have Hs := hide hs
  have hs1 : s ≤ 1 := by omega
  clear hs
  have HM0 := hide hM0
  have hM2 : M ≤ 0 := by omega
  clear hM0
  have f1 : decide ((M : Int) ≤ -1000000000000000000) = false := by simp; omega
  have f2 : decide (1000000000000000000 ≤ (M : Int)) = false := by simp; omega
  have f2' : decide (1000000000000000000 ≤ M) = false := by simp; omega
  have f5 : decide ((M : Int) < 0) = false := by simp
  have f3 : decide ((z : Int) < 0) = false := by simp
  have f4 : decide (64 < (z : Int)) = false := by simp; omega
  have f4' : decide (64 < z) = false := by simp; omega
  have f6 : ((M : Int) == 0) = true := by simp; omega
  go_enter Try.func5, Try.ntmps5
  go_wp2_with (first | (at_make; refine wpList_make_own _ rfl _ _ 22 rfl w.heap.size 5 i5 (.int .u8 0) 1 Try.underlying22 Hi5.out Hz0.out Hz1.out _ _ _ (1 + z + 19) rfl rfl (by omega) ?b1 ?b2 ?b3 ?_))
  case b1 => rw [Hz2.out]; omega
  case b2 => unfold maxLen; omega
  case b3 => exact Nat.le_refl _
  intro w1 hown hgrow
  have htx : Txt w w1 (1 + z + 19) (FF 0 s z M 0) 0 := ⟨hown, (Below.refl _ _).grown hgrow (Nat.le_refl _) (fun k hk => by cases hk)⟩
  have HT := hide htx
  have hsz1 := txt_lt htx
  clear hown hgrow htx
  go_wp2_with fail
  go_loopw [7, 9] (fun t7 t9 wr => ∃ k : Nat, k ≤ z ∧ t9 = .int .i64 k ∧ t7 = .slice (some ⟨w.heap.size, 0, none⟩) (s + k) (1 + z + 19) ∧ Txt w wr (1 + z + 19) (FF 0 s z M 0) (s + k)) (fun _ t9 _ => z - (intOf t9).toNat)
  case atStart => exact ⟨0, by omega, rfl, by rw [Hs.out], by rw [show s + 0 = 0 by rw [Hs.out]]; exact HT.out⟩
  case round =>
    obtain ⟨k, hk, rfl, rfl, ht⟩ := hrel
    have HT2 := hide ht
    have hsz := txt_lt ht
    clear ht
    by_cases hlt : k < z
    · go_wp2_with (first | (at_builtin; refine wpList_append_fits _ rfl _ _ 22 rfl w.heap.size 5 i5 1 Try.underlying22 Hi5.out Hz1.out w.heap.size (s + k) (1 + z + 19) (tx (FF 0 s z M 0) (s + k)) rfl (HT2.out.1.alloc _) ⟨wr.heap.size, 0, none⟩ 1 1 [.int .u8 48] rfl rfl ?c1 ?c2 ?c3 ?_))
      case c1 => exact cell_one_new _ _ _
      case c2 => intro u hu; simp at hu; subst hu; rfl
      case c3 => omega
      intro w2 hown2 hgrow2
      have ht2 := hide (txt_append HT2.out hown2 hgrow2 (FF_zero 0 s z M 0 k hlt))
      clear hown2 hgrow2
      go_wp2_with fail
      go_roundw
      case rel => exact ⟨k + 1, by omega, by go_num, rfl, ht2.out⟩
      case measure => simp [intOf]; omega
    · have hkz : z = k := by omega
      subst hkz
      have hst0 := st_start0 HM0.out HT2.out
      obtain ⟨wa, hwa⟩ : ∃ wa, wa = wr.alloc (.cells #[.int .u8 48, .int .u8 0, .int .u8 0, .int .u8 0, .int .u8 0, .int .u8 0, .int .u8 0, .int .u8 0, .int .u8 0, .int .u8 0, .int .u8 0, .int .u8 0, .int .u8 0, .int .u8 0, .int .u8 0, .int .u8 0, .int .u8 0, .int .u8 0, .int .u8 0] 29) := ⟨_, rfl⟩
      obtain ⟨r, hr⟩ : ∃ r, r = wr.heap.size := ⟨_, rfl⟩
      rw [← hr, ← hwa] at hst0
      have Hwa := hide hwa
      have Hr := hide hr
      have Hst := hide hst0
      clear hst0 hwa hr
      go_wp2_with fail
      rw [← Hr.out, ← Hwa.out]
      go_loopw [8, 11] (fun t8 t11 wr => ∃ d q : Nat, d ≤ 18 ∧ q < 1000000000000000000 ∧ t8 = .int .i64 q ∧ t11 = .int .i64 d ∧ St w wr (1 + z + 19) (FF 0 s z M 0) (s + z) r M d ∧ Hid (q = M / 10 ^ d) ∧ Hid (q = 0 → 1 ≤ d)) (fun t8 _ _ => (intOf t8).toNat)
      case atStart => exact ⟨1, 0, by omega, by omega, by rw [HM0.out], rfl, Hst.out, hide (by rw [HM0.out]), hide (fun _ => by omega)⟩
      case round =>
        obtain ⟨d, q, hd, hq, rfl, rfl, hst2, Hq, Hd⟩ := hrel
        have Hst2 := hide hst2
        by_cases hq0 : 0 < q
        · have hd18 : d < 18 := Dec.digits_le hM (by rw [← Hq.out]; exact hq0)
          obtain ⟨v, hv⟩ := st_there hst2 d (by omega)
          have hf := st_soft hst2 d
          have hnew := hide (st_store (c := 48 + (q : Int) % 10) hst2 (by rw [Hq.out]; unfold dgt; omega))
          clear hst2
          go_wp2_with fail
          go_roundw
          case rel => exact ⟨d + 1, q / 10, by omega, by omega, by go_num, by go_num, hnew.out, hide (by rw [Dec.div_step, ← Hq.out]), hide (fun _ => by omega)⟩
          case measure => simp [intOf]; omega
        · have hqz : q = 0 := by omega
          have hd1 : 1 ≤ d := Hd.out hqz
          have HMd : Hid (M / 10 ^ d = 0) := by show M / 10 ^ d = 0; rw [← Hq.out]; exact hqz
          have hqi : ((q : Nat) : Int) = 0 := by omega
          rw [hqi]
          clear hqi hqz hq0 hq
          have Hst3 := hide (st_congr (G := FF 0 s z M d) hst2 (fun j hj => FF_congr 0 s z M 0 d j hj))
          clear hst2 Hst2 Hq Hd
          go_wp2_with fail
          go_loopw [7, 12] (fun t7 t12 wr => (∃ p : Nat, p < d ∧ t12 = .int .i64 p ∧ t7 = .slice (some ⟨w.heap.size, 0, none⟩) (s + z + (d - 1 - p)) (1 + z + 19) ∧ St w wr (1 + z + 19) (FF 0 s z M d) (s + z + (d - 1 - p)) r M d) ∨
              (t12 = .int .i64 (-1) ∧ t7 = .slice (some ⟨w.heap.size, 0, none⟩) (s + z + d) (1 + z + 19) ∧ St w wr (1 + z + 19) (FF 0 s z M d) (s + z + d) r M d)) (fun _ t12 _ => (intOf t12 + 1).toNat)
          case atStart =>
            refine Or.inl ⟨d - 1, by omega, by go_num, ?_, ?_⟩
            · rw [show s + z + (d - 1 - (d - 1)) = s + z by omega]
            · rw [show s + z + (d - 1 - (d - 1)) = s + z by omega]; exact Hst3.out
          case round =>
            rcases hrel with ⟨p, hp, rfl, rfl, hst4⟩ | ⟨rfl, rfl, hst4⟩
            · have Hst4 := hide hst4
              have hcp := st_cell hst4 p hp hd
              have hp0 : (0 : Int) ≤ (p : Int) := by omega
              have hp19 : (p : Int) < 19 := by omega
              obtain ⟨L, hL⟩ : ∃ L, L = s + z + (d - 1 - p) := ⟨_, rfl⟩
              have hL1 : L + 1 ≤ 1 + z + 19 := by omega
              have HL := hide hL
              rw [← hL] at Hst4 ⊢
              clear hL hst4
              go_wp2_with (first | (at_builtin; refine wpList_append_fits _ rfl _ _ 22 rfl w.heap.size 5 i5 1 Try.underlying22 Hi5.out Hz1.out w.heap.size L (1 + z + 19) (tx (FF 0 s z M d) L) rfl (Hst4.out.1.1.alloc _) ⟨wr.heap.size, 0, none⟩ 1 1 [.int .u8 (48 + (dgt M p : Int))] rfl rfl ?c1 ?c2 ?c3 ?_))
              case c1 => exact cell_one_new _ _ _
              case c2 => intro u hu; simp at hu; subst hu; rfl
              case c3 => omega
              intro w2 hown2 hgrow2
              have hnew := hide (st_append Hst4.out hown2 hgrow2 (by rw [HL.out]; exact FF_digit 0 s z M d p hp))
              clear hown2 hgrow2
              go_wp2_with fail
              go_roundw
              case rel =>
                by_cases hpz : p = 0
                · refine Or.inr ⟨by rw [hpz]; rfl, ?_, ?_⟩
                  · rw [HL.out, show s + z + (d - 1 - p) + 1 = s + z + d by omega]
                  · rw [show s + z + d = L + 1 by rw [HL.out]; omega]; exact hnew.out
                · refine Or.inl ⟨p - 1, by omega, by go_num, ?_, ?_⟩
                  · rw [HL.out, show s + z + (d - 1 - p) + 1 = s + z + (d - 1 - (p - 1)) by omega]
                  · rw [show s + z + (d - 1 - (p - 1)) = L + 1 by rw [HL.out]; omega]; exact hnew.out
              case measure => simp [intOf]
            · have Hst4 := hide hst4
              have hbel := hide hst4.1.2
              have HC : Hid (∀ j, j < z + d → wr.cell? ⟨w.heap.size, s + j, none⟩ = some (.int .u8 (row z M d j))) := by
                intro j hj
                rw [txt_cell hst4.1 (s + j) (by omega), FF_row 0 s z M d j]
              have HD : Hid (∀ j, 48 ≤ row z M d j ∧ row z M d j ≤ 57) := hide (fun j => Dec.row_digit z M d j)
              have Hval := hide (Dec.row_whole z M d HMd.out)
              clear hst4
              have HLen : Hid (s + z + d = z + d) := by show s + z + d = _; rw [Hs.out]; omega
              rw [HLen.out]
              rw [Hs.out] at HC
              by_cases h18 : z + d ≤ 18
              · have hcall := hide (short_plain w.heap.size (1 + z + 19) (z + d) (row z M d) wr (by omega) h18 (by omega) (hide (fun j hj => by have := HC.out j hj; rwa [Nat.zero_add] at this)) HD)
                rw [Hval.out] at hcall
                have g1 : decide (18 < (z : Int) + (d : Int)) = false := by simp; omega
                go_wp2_with fail
                refine (zzshort_of _ M true _ hcall).mono ?_
                rintro e w3 ⟨rfl, hw3⟩
                subst hw3
                go_wp2_with fail
                go_ret
                exact ⟨rfl, hbel.out⟩
              · have hcall := hide (short_long w.heap.size (1 + z + 19) (z + d) (row z M d 0) wr (by omega) (by have := HC.out 0 (by omega); rwa [Nat.zero_add] at this) (HD.out 0).1 (HD.out 0).2)
                have g1 : decide (18 < (z : Int) + (d : Int)) = true := by simp; omega
                go_wp2_with fail
                refine (zzshort_of _ 0 false _ hcall).mono ?_
                rintro e w3 ⟨rfl, hw3⟩
                subst hw3
                go_wp2_with fail
                go_ret
                exact ⟨rfl, hbel.out⟩

set_option maxRecDepth 100000 in
set_option maxHeartbeats 4000000 in
theorem dec_plus_zero (M z : Nat) (w : World) (hM : M < 1000000000000000000) (hz : z ≤ 64) (hM0 : M = 0) :
    Calls Try.prog 5 #[.int .i64 M, .bool true, .int .i64 z] w fun e w' => e = .returned (.bool true) ∧ Below w.heap.size w w' := by
  obtain ⟨i5, hi5, hz0, hz1, hz2⟩ := info_parts info5
  have Hi5 := hide hi5
  have Hz0 := hide hz0
  have Hz1 := hide hz1
  have Hz2 := hide hz2
  clear hi5 hz0 hz1 hz2
  obtain ⟨s, hs⟩ : ∃ s : Nat, s = 1 := ⟨_, rfl⟩
  have Hs := hide hs
  have hs1 : s ≤ 1 := by omega
  clear hs
  have HM0 := hide hM0
  have hM2 : M ≤ 0 := by omega
  clear hM0
  have f1 : decide ((M : Int) ≤ -1000000000000000000) = false := by simp; omega
  have f2 : decide (1000000000000000000 ≤ (M : Int)) = false := by simp; omega
  have f2' : decide (1000000000000000000 ≤ M) = false := by simp; omega
  have f5 : decide ((M : Int) < 0) = false := by simp
  have f3 : decide ((z : Int) < 0) = false := by simp
  have f4 : decide (64 < (z : Int)) = false := by simp; omega
  have f4' : decide (64 < z) = false := by simp; omega
  have f6 : ((M : Int) == 0) = true := by simp; omega
  go_enter Try.func5, Try.ntmps5
  go_wp2_with (first | (at_make; refine wpList_make_own _ rfl _ _ 22 rfl w.heap.size 5 i5 (.int .u8 0) 1 Try.underlying22 Hi5.out Hz0.out Hz1.out _ _ _ (1 + z + 19) rfl rfl (by omega) ?b1 ?b2 ?b3 ?_))
  case b1 => rw [Hz2.out]; omega
  case b2 => unfold maxLen; omega
  case b3 => exact Nat.le_refl _
  intro w1 hown hgrow
  have htx : Txt w w1 (1 + z + 19) (FF 43 s z M 0) 0 := ⟨hown, (Below.refl _ _).grown hgrow (Nat.le_refl _) (fun k hk => by cases hk)⟩
  have HT := hide htx
  have hsz1 := txt_lt htx
  clear hown hgrow htx
  go_wp2_with (first | (at_builtin; refine wpList_append_fits _ rfl _ _ 22 rfl w.heap.size 5 i5 1 Try.underlying22 Hi5.out Hz1.out w.heap.size 0 (1 + z + 19) (tx (FF 43 s z M 0) 0) rfl (HT.out.1.alloc _) ⟨w1.heap.size, 0, none⟩ 1 1 [.int .u8 43] rfl rfl ?c1 ?c2 ?c3 ?_))
  case c1 => exact cell_one_new _ _ _
  case c2 => intro u hu; simp at hu; subst hu; rfl
  case c3 => omega
  intro w2 hown2 hgrow2
  have HT1 := hide (txt_append (L := 0) HT.out hown2 hgrow2 (by unfold FF; rw [if_pos (by rw [Hs.out]; omega)]))
  clear hown2 hgrow2
  go_wp2_with fail
  go_loopw [7, 9] (fun t7 t9 wr => ∃ k : Nat, k ≤ z ∧ t9 = .int .i64 k ∧ t7 = .slice (some ⟨w.heap.size, 0, none⟩) (s + k) (1 + z + 19) ∧ Txt w wr (1 + z + 19) (FF 43 s z M 0) (s + k)) (fun _ t9 _ => z - (intOf t9).toNat)
  case atStart => exact ⟨0, by omega, rfl, by rw [Hs.out], by rw [show s + 0 = 1 by rw [Hs.out]]; exact HT1.out⟩
  case round =>
    obtain ⟨k, hk, rfl, rfl, ht⟩ := hrel
    have HT2 := hide ht
    have hsz := txt_lt ht
    clear ht
    by_cases hlt : k < z
    · go_wp2_with (first | (at_builtin; refine wpList_append_fits _ rfl _ _ 22 rfl w.heap.size 5 i5 1 Try.underlying22 Hi5.out Hz1.out w.heap.size (s + k) (1 + z + 19) (tx (FF 43 s z M 0) (s + k)) rfl (HT2.out.1.alloc _) ⟨wr.heap.size, 0, none⟩ 1 1 [.int .u8 48] rfl rfl ?c1 ?c2 ?c3 ?_))
      case c1 => exact cell_one_new _ _ _
      case c2 => intro u hu; simp at hu; subst hu; rfl
      case c3 => omega
      intro w2 hown2 hgrow2
      have ht2 := hide (txt_append HT2.out hown2 hgrow2 (FF_zero 43 s z M 0 k hlt))
      clear hown2 hgrow2
      go_wp2_with fail
      go_roundw
      case rel => exact ⟨k + 1, by omega, by go_num, rfl, ht2.out⟩
      case measure => simp [intOf]; omega
    · have hkz : z = k := by omega
      subst hkz
      have hst0 := st_start0 HM0.out HT2.out
      obtain ⟨wa, hwa⟩ : ∃ wa, wa = wr.alloc (.cells #[.int .u8 48, .int .u8 0, .int .u8 0, .int .u8 0, .int .u8 0, .int .u8 0, .int .u8 0, .int .u8 0, .int .u8 0, .int .u8 0, .int .u8 0, .int .u8 0, .int .u8 0, .int .u8 0, .int .u8 0, .int .u8 0, .int .u8 0, .int .u8 0, .int .u8 0] 29) := ⟨_, rfl⟩
      obtain ⟨r, hr⟩ : ∃ r, r = wr.heap.size := ⟨_, rfl⟩
      rw [← hr, ← hwa] at hst0
      have Hwa := hide hwa
      have Hr := hide hr
      have Hst := hide hst0
      clear hst0 hwa hr
      go_wp2_with fail
      rw [← Hr.out, ← Hwa.out]
      go_loopw [8, 11] (fun t8 t11 wr => ∃ d q : Nat, d ≤ 18 ∧ q < 1000000000000000000 ∧ t8 = .int .i64 q ∧ t11 = .int .i64 d ∧ St w wr (1 + z + 19) (FF 43 s z M 0) (s + z) r M d ∧ Hid (q = M / 10 ^ d) ∧ Hid (q = 0 → 1 ≤ d)) (fun t8 _ _ => (intOf t8).toNat)
      case atStart => exact ⟨1, 0, by omega, by omega, by rw [HM0.out], rfl, Hst.out, hide (by rw [HM0.out]), hide (fun _ => by omega)⟩
      case round =>
        obtain ⟨d, q, hd, hq, rfl, rfl, hst2, Hq, Hd⟩ := hrel
        have Hst2 := hide hst2
        by_cases hq0 : 0 < q
        · have hd18 : d < 18 := Dec.digits_le hM (by rw [← Hq.out]; exact hq0)
          obtain ⟨v, hv⟩ := st_there hst2 d (by omega)
          have hf := st_soft hst2 d
          have hnew := hide (st_store (c := 48 + (q : Int) % 10) hst2 (by rw [Hq.out]; unfold dgt; omega))
          clear hst2
          go_wp2_with fail
          go_roundw
          case rel => exact ⟨d + 1, q / 10, by omega, by omega, by go_num, by go_num, hnew.out, hide (by rw [Dec.div_step, ← Hq.out]), hide (fun _ => by omega)⟩
          case measure => simp [intOf]; omega
        · have hqz : q = 0 := by omega
          have hd1 : 1 ≤ d := Hd.out hqz
          have HMd : Hid (M / 10 ^ d = 0) := by show M / 10 ^ d = 0; rw [← Hq.out]; exact hqz
          have hqi : ((q : Nat) : Int) = 0 := by omega
          rw [hqi]
          clear hqi hqz hq0 hq
          have Hst3 := hide (st_congr (G := FF 43 s z M d) hst2 (fun j hj => FF_congr 43 s z M 0 d j hj))
          clear hst2 Hst2 Hq Hd
          go_wp2_with fail
          go_loopw [7, 12] (fun t7 t12 wr => (∃ p : Nat, p < d ∧ t12 = .int .i64 p ∧ t7 = .slice (some ⟨w.heap.size, 0, none⟩) (s + z + (d - 1 - p)) (1 + z + 19) ∧ St w wr (1 + z + 19) (FF 43 s z M d) (s + z + (d - 1 - p)) r M d) ∨
              (t12 = .int .i64 (-1) ∧ t7 = .slice (some ⟨w.heap.size, 0, none⟩) (s + z + d) (1 + z + 19) ∧ St w wr (1 + z + 19) (FF 43 s z M d) (s + z + d) r M d)) (fun _ t12 _ => (intOf t12 + 1).toNat)
          case atStart =>
            refine Or.inl ⟨d - 1, by omega, by go_num, ?_, ?_⟩
            · rw [show s + z + (d - 1 - (d - 1)) = s + z by omega]
            · rw [show s + z + (d - 1 - (d - 1)) = s + z by omega]; exact Hst3.out
          case round =>
            rcases hrel with ⟨p, hp, rfl, rfl, hst4⟩ | ⟨rfl, rfl, hst4⟩
            · have Hst4 := hide hst4
              have hcp := st_cell hst4 p hp hd
              have hp0 : (0 : Int) ≤ (p : Int) := by omega
              have hp19 : (p : Int) < 19 := by omega
              obtain ⟨L, hL⟩ : ∃ L, L = s + z + (d - 1 - p) := ⟨_, rfl⟩
              have hL1 : L + 1 ≤ 1 + z + 19 := by omega
              have HL := hide hL
              rw [← hL] at Hst4 ⊢
              clear hL hst4
              go_wp2_with (first | (at_builtin; refine wpList_append_fits _ rfl _ _ 22 rfl w.heap.size 5 i5 1 Try.underlying22 Hi5.out Hz1.out w.heap.size L (1 + z + 19) (tx (FF 43 s z M d) L) rfl (Hst4.out.1.1.alloc _) ⟨wr.heap.size, 0, none⟩ 1 1 [.int .u8 (48 + (dgt M p : Int))] rfl rfl ?c1 ?c2 ?c3 ?_))
              case c1 => exact cell_one_new _ _ _
              case c2 => intro u hu; simp at hu; subst hu; rfl
              case c3 => omega
              intro w2 hown2 hgrow2
              have hnew := hide (st_append Hst4.out hown2 hgrow2 (by rw [HL.out]; exact FF_digit 43 s z M d p hp))
              clear hown2 hgrow2
              go_wp2_with fail
              go_roundw
              case rel =>
                by_cases hpz : p = 0
                · refine Or.inr ⟨by rw [hpz]; rfl, ?_, ?_⟩
                  · rw [HL.out, show s + z + (d - 1 - p) + 1 = s + z + d by omega]
                  · rw [show s + z + d = L + 1 by rw [HL.out]; omega]; exact hnew.out
                · refine Or.inl ⟨p - 1, by omega, by go_num, ?_, ?_⟩
                  · rw [HL.out, show s + z + (d - 1 - p) + 1 = s + z + (d - 1 - (p - 1)) by omega]
                  · rw [show s + z + (d - 1 - (p - 1)) = L + 1 by rw [HL.out]; omega]; exact hnew.out
              case measure => simp [intOf]
            · have Hst4 := hide hst4
              have hbel := hide hst4.1.2
              have HC : Hid (∀ j, j < z + d → wr.cell? ⟨w.heap.size, s + j, none⟩ = some (.int .u8 (row z M d j))) := by
                intro j hj
                rw [txt_cell hst4.1 (s + j) (by omega), FF_row 43 s z M d j]
              have hc0 : wr.cell? ⟨w.heap.size, 0, none⟩ = some (.int .u8 43) := by
                rw [txt_cell hst4.1 0 (by omega)]; unfold FF; rw [if_pos (by rw [Hs.out]; omega)]
              have HD : Hid (∀ j, 48 ≤ row z M d j ∧ row z M d j ≤ 57) := hide (fun j => Dec.row_digit z M d j)
              have Hval := hide (Dec.row_whole z M d HMd.out)
              clear hst4
              have HLen : Hid (s + z + d = z + d + 1) := by show s + z + d = _; rw [Hs.out]; omega
              rw [HLen.out]
              rw [Hs.out] at HC
              by_cases h18 : z + d ≤ 18
              · have hcall := hide (short_plus w.heap.size (1 + z + 19) (z + d) (row z M d) wr (by omega) h18 (by omega) hc0 (hide (fun j hj => HC.out j hj)) HD)
                rw [Hval.out] at hcall
                have g1 : decide (18 < (z : Int) + (d : Int)) = false := by simp; omega
                clear hc0
                go_wp2_with fail
                refine (zzshort_of _ M true _ hcall).mono ?_
                rintro e w3 ⟨rfl, hw3⟩
                subst hw3
                go_wp2_with fail
                go_ret
                exact ⟨rfl, hbel.out⟩
              · have hcall := hide (short_long_sign w.heap.size (1 + z + 19) (z + d) 43 wr (by omega) (by omega) hc0 (Or.inl rfl))
                have g1 : decide (18 < (z : Int) + (d : Int)) = true := by simp; omega
                clear hc0
                go_wp2_with fail
                refine (zzshort_of _ 0 false _ hcall).mono ?_
                rintro e w3 ⟨rfl, hw3⟩
                subst hw3
                go_wp2_with fail
                go_ret
                exact ⟨rfl, hbel.out⟩

end Go.Proofs.Qxb6601318a
