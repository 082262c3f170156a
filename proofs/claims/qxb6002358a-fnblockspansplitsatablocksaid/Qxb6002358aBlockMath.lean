/-
  The plain mathematics of blockCount and blockSpan. No program in sight.
-/
namespace Go.Proofs.Qxb6002358a.Block

def cnt (L S : Int) : Int := if L = 0 then 1 else (L - 1) / S + 1
def spanLen (lo hi S L : Int) : Int := if hi - lo ≤ (L - lo * S) / S then (hi - lo) * S else L - lo * S

theorem mul_mono {a b S : Int} (h : a ≤ b) (hS : 1 ≤ S) : a * S ≤ b * S := Int.mul_le_mul_of_nonneg_right h (by omega)
theorem mul_nn {a S : Int} (h : 0 ≤ a) (hS : 1 ≤ S) : 0 ≤ a * S := Int.mul_nonneg h (by omega)

theorem cnt_zero (S : Int) : cnt 0 S = 1 := by simp [cnt]
theorem cnt_pos {L S : Int} (h : 0 ≤ L) (hS : 1 ≤ S) : 1 ≤ cnt L S := by
  unfold cnt; split
  · omega
  · have := Int.ediv_nonneg (a := L - 1) (b := S) (by omega) (by omega); omega
theorem cnt_le {L S : Int} (h : 0 ≤ L) : cnt L S ≤ L + 1 := by
  unfold cnt; split
  · omega
  · have := Int.ediv_le_self (a := L - 1) S (by omega); omega
theorem cnt_cover {L S : Int} (hS : 1 ≤ S) : L ≤ cnt L S * S := by
  unfold cnt; split
  · omega
  · have := Int.lt_ediv_add_one_mul_self (L - 1) (b := S) (by omega); omega
theorem cnt_least {L S : Int} (h : 0 < L) (hS : 1 ≤ S) : (cnt L S - 1) * S < L := by
  unfold cnt; split
  · omega
  · have := Int.ediv_mul_le (L - 1) (b := S) (by omega)
    rw [show (L - 1) / S + 1 - 1 = (L - 1) / S by omega]; omega

theorem cond_iff {lo hi S L : Int} (hS : 1 ≤ S) : hi - lo ≤ (L - lo * S) / S ↔ (hi - lo) * S ≤ L - lo * S :=
  Int.le_ediv_iff_mul_le (by omega)

theorem succ_mul (i S : Int) : (i + 1) * S = i * S + S := by rw [Int.add_mul, Int.one_mul]

/-- a block that is not the last is full. -/
theorem span_full {L S i : Int} (hS : 1 ≤ S) (h : (i + 1) * S ≤ L) : spanLen i (i + 1) S L = S := by
  have e : i + 1 - i = 1 := by omega
  have hs := succ_mul i S
  unfold spanLen
  rw [if_pos ((cond_iff hS).2 (by rw [e, Int.one_mul]; omega)), e, Int.one_mul]

/-- the last block holds what is left. -/
theorem span_last {L S i : Int} (hS : 1 ≤ S) (h : L ≤ (i + 1) * S) : spanLen i (i + 1) S L = L - i * S := by
  have e : i + 1 - i = 1 := by omega
  have hs := succ_mul i S
  unfold spanLen
  split
  · rename_i hc
    rw [cond_iff hS, e, Int.one_mul] at hc
    rw [e, Int.one_mul]; omega
  · rfl

theorem span_all {L S c : Int} (hS : 1 ≤ S) (h : L ≤ c * S) : spanLen 0 c S L = L := by
  unfold spanLen
  split
  · rename_i hc
    rw [cond_iff hS] at hc
    simp at hc ⊢; omega
  · simp

/-- where the loop stands behind i blocks. -/
def tileAt (L S c i a : Int) : Prop := (i < c → a = i * S) ∧ (i = c → a = L)

end Go.Proofs.Qxb6002358a.Block
