/-
  What the law's own memory holds: the text that it builds, the row of digits. Lemmas outside the walk.
-/
import Derived.Test.Qxb6601318aShortWalks
namespace Go.Proofs.Qxb6601318a
open Go.RowKit
open Dec (val dgt row)

theorem info5 : (Try.prog.info? 5).map (fun i => (i.zero, i.size, i.bytes)) = some (some (.int .u8 0), 1, 1) := by kernel_rfl

/-- the first L signs of F, as values. -/
def tx (F : Nat → Int) (L : Nat) : List Value := (List.range L).map (fun j => Value.int .u8 (F j))
theorem tx_succ (F : Nat → Int) (L : Nat) : tx F (L + 1) = tx F L ++ [.int .u8 (F L)] := by
  unfold tx; rw [List.range_succ, List.map_append]; rfl
theorem tx_congr (F G : Nat → Int) (L : Nat) (h : ∀ j, j < L → F j = G j) : tx F L = tx G L := by
  unfold tx
  apply List.map_congr_left
  intro j hj
  rw [h j (by simpa using hj)]
theorem tx_get (F : Nat → Int) (L j : Nat) (hj : j < L) : (tx F L)[j]? = some (.int .u8 (F j)) := by
  unfold tx
  simp [hj]

/-- the sign (where s is 1), the noughts, the digits. -/
def FF (sg : Int) (s z M d : Nat) (j : Nat) : Int := if j < s then sg else row z M d (j - s)

theorem FF_zero (sg : Int) (s z M d k : Nat) (hk : k < z) : FF sg s z M d (s + k) = 48 := by
  unfold FF row
  rw [if_neg (by omega), if_pos (by omega)]
theorem FF_digit (sg : Int) (s z M d p : Nat) (hp : p < d) : FF sg s z M d (s + z + (d - 1 - p)) = 48 + (dgt M p : Int) := by
  unfold FF row
  rw [if_neg (by omega), if_neg (by omega), show d - 1 - (s + z + (d - 1 - p) - s - z) = p by omega]
theorem FF_row (sg : Int) (s z M d j : Nat) : FF sg s z M d (s + j) = row z M d j := by
  unfold FF
  rw [if_neg (by omega), show s + j - s = j by omega]
theorem FF_congr (sg : Int) (s z M d d' j : Nat) (hj : j < s + z) : FF sg s z M d j = FF sg s z M d' j := by
  unfold FF row
  split
  · rfl
  · rw [if_pos (by omega), if_pos (by omega)]

/-- the text lies in the block that the call made first; nothing old has turned. -/
def Txt (w wr : World) (cap : Nat) (F : Nat → Int) (L : Nat) : Prop :=
  wr.ownsRow w.heap.size 5 1 (.slice (some ⟨w.heap.size, 0, none⟩) L cap) L (tx F L) ∧ Below w.heap.size w wr

theorem txt_lt {w wr : World} {cap L : Nat} {F : Nat → Int} (h : Txt w wr cap F L) : w.heap.size < wr.heap.size := (h.1.lt w.heap.size rfl).2

theorem txt_append {w wr w2 : World} {cap L : Nat} {F : Nat → Int} {o : Obj} {c : Int} (h : Txt w wr cap F L) (hown : w2.ownsRow w.heap.size 5 1 (.slice (some ⟨w.heap.size, 0, none⟩) (L + 1) cap) (L + 1) (tx F L ++ [.int .u8 c]))
    (hg : (wr.alloc o).grownBy w2 (some w.heap.size)) (hc : F L = c) : Txt w w2 cap F (L + 1) := by
  refine ⟨by rw [tx_succ, hc]; exact hown, ?_⟩
  exact (h.2.alloc h.2.size o).grown hg (by have := h.2.size; simp; omega) (fun k hk => by simp at hk; omega)

theorem txt_congr {w wr : World} {cap L : Nat} {F G : Nat → Int} (h : Txt w wr cap F L) (he : ∀ j, j < L → F j = G j) : Txt w wr cap G L :=
  ⟨by rw [← tx_congr F G L he]; exact h.1, h.2⟩

theorem txt_cell {w wr : World} {cap L : Nat} {F : Nat → Int} (h : Txt w wr cap F L) (j : Nat) (hj : j < L) : wr.cell? ⟨w.heap.size, j, none⟩ = some (.int .u8 (F j)) := by
  rw [h.1.cellAt j (by omega), tx_get F L j hj]

/-- the row of digits, the lowest first: d are laid. -/
def rvl (M d : Nat) : List Value := (List.range 19).map (fun i => if i < d then Value.int .u8 (48 + (dgt M i : Int)) else Value.int .u8 0)

theorem rvl_get (M d i : Nat) (hi : i < 19) : (rvl M d)[i]? = some (if i < d then Value.int .u8 (48 + (dgt M i : Int)) else Value.int .u8 0) := by
  unfold rvl
  simp [hi]

theorem rvl_set (M d : Nat) : (rvl M d).set d (.int .u8 (48 + (dgt M d : Int))) = rvl M (d + 1) := by
  apply List.ext_getElem?
  intro i
  by_cases hi : i < 19
  · rw [List.getElem?_set, rvl_get M d i hi, rvl_get M (d + 1) i hi]
    by_cases he : d = i
    · subst he
      rw [if_pos rfl, if_pos (by simpa [rvl] using hi), if_pos (by omega)]
    · rw [if_neg he]
      by_cases hl : i < d
      · rw [if_pos hl, if_pos (by omega)]
      · rw [if_neg hl, if_neg (by omega)]
  · rw [List.getElem?_eq_none (by simp [rvl]; omega), List.getElem?_eq_none (by simp [rvl]; omega)]

/-- text and row of digits. -/
def St (w wr : World) (cap : Nat) (F : Nat → Int) (L r M d : Nat) : Prop :=
  Txt w wr cap F L ∧ wr.ownsRow w.heap.size 29 1 (.slice (some ⟨r, 0, none⟩) 19 19) 19 (rvl M d) ∧ w.heap.size < r

theorem st_start {w wr : World} {cap L : Nat} {F : Nat → Int} (M : Nat) (h : Txt w wr cap F L) :
    St w (wr.alloc (.cells #[.int .u8 0, .int .u8 0, .int .u8 0, .int .u8 0, .int .u8 0, .int .u8 0, .int .u8 0, .int .u8 0, .int .u8 0, .int .u8 0, .int .u8 0, .int .u8 0, .int .u8 0, .int .u8 0, .int .u8 0, .int .u8 0, .int .u8 0, .int .u8 0, .int .u8 0] 29)) cap F L wr.heap.size M 0 := by
  refine ⟨⟨h.1.alloc _, h.2.alloc h.2.size _⟩, ?_, txt_lt h⟩
  exact World.ownsRow_lit wr #[.int .u8 0, .int .u8 0, .int .u8 0, .int .u8 0, .int .u8 0, .int .u8 0, .int .u8 0, .int .u8 0, .int .u8 0, .int .u8 0, .int .u8 0, .int .u8 0, .int .u8 0, .int .u8 0, .int .u8 0, .int .u8 0, .int .u8 0, .int .u8 0, .int .u8 0] 19 h.2.size (by unfold maxLen; omega) rfl

/-- the one digit of nought is laid. -/
theorem st_start0 {w wr : World} {cap L M : Nat} {F : Nat → Int} (hM : M = 0) (h : Txt w wr cap F L) :
    St w (wr.alloc (.cells #[.int .u8 48, .int .u8 0, .int .u8 0, .int .u8 0, .int .u8 0, .int .u8 0, .int .u8 0, .int .u8 0, .int .u8 0, .int .u8 0, .int .u8 0, .int .u8 0, .int .u8 0, .int .u8 0, .int .u8 0, .int .u8 0, .int .u8 0, .int .u8 0, .int .u8 0] 29)) cap F L wr.heap.size M 1 := by
  subst hM
  refine ⟨⟨h.1.alloc _, h.2.alloc h.2.size _⟩, ?_, txt_lt h⟩
  exact World.ownsRow_lit wr #[.int .u8 48, .int .u8 0, .int .u8 0, .int .u8 0, .int .u8 0, .int .u8 0, .int .u8 0, .int .u8 0, .int .u8 0, .int .u8 0, .int .u8 0, .int .u8 0, .int .u8 0, .int .u8 0, .int .u8 0, .int .u8 0, .int .u8 0, .int .u8 0, .int .u8 0] 19 h.2.size (by unfold maxLen; omega) rfl

theorem st_store {w wr : World} {cap L r M d : Nat} {F : Nat → Int} {c : Int} (h : St w wr cap F L r M d) (hc : c = 48 + (dgt M d : Int)) : St w (wr.setCell ⟨r, d, none⟩ (.int .u8 c)) cap F L r M (d + 1) := by
  obtain ⟨h1, h2, h3⟩ := h
  have hs := h2.stored d (.int .u8 c)
  refine ⟨⟨h1.1.kept hs.2 (Or.inr ?_), h1.2.setCell (by show w.heap.size ≤ r; omega) _⟩, ?_, h3⟩
  · intro e; simp [Value.ownBlock] at e; omega
  · have := hs.1
    rw [hc, rvl_set M d] at this
    rw [hc]; exact this

theorem st_append {w wr w2 : World} {cap L r M d : Nat} {F : Nat → Int} {o : Obj} {c : Int} (h : St w wr cap F L r M d) (hown : w2.ownsRow w.heap.size 5 1 (.slice (some ⟨w.heap.size, 0, none⟩) (L + 1) cap) (L + 1) (tx F L ++ [.int .u8 c]))
    (hg : (wr.alloc o).grownBy w2 (some w.heap.size)) (hc : F L = c) : St w w2 cap F (L + 1) r M d := by
  obtain ⟨h1, h2, h3⟩ := h
  refine ⟨txt_append h1 hown hg hc, (h2.alloc o).kept hg (Or.inr ?_), h3⟩
  intro e; simp [Value.ownBlock] at e; omega

theorem st_cell {w wr : World} {cap L r M d : Nat} {F : Nat → Int} (h : St w wr cap F L r M d) (i : Nat) (hi : i < d) (hd : d ≤ 18) : wr.cell? ⟨r, i, none⟩ = some (.int .u8 (48 + (dgt M i : Int))) := by
  rw [h.2.1.cellAt i (by omega), rvl_get M d i (by omega), if_pos hi]

theorem st_there {w wr : World} {cap L r M d : Nat} {F : Nat → Int} (h : St w wr cap F L r M d) (i : Nat) (hi : i < 19) : ∃ v : Int, wr.cell? ⟨r, i, none⟩ = some (.int .u8 v) := by
  rw [h.2.1.cellAt i (by omega), rvl_get M d i hi]
  by_cases hl : i < d
  · exact ⟨_, by rw [if_pos hl]⟩
  · exact ⟨_, by rw [if_neg hl]⟩

theorem st_soft {w wr : World} {cap L r M d : Nat} {F : Nat → Int} (h : St w wr cap F L r M d) (i : Nat) : wr.frozen? ⟨r, i, none⟩ = false := h.2.1.frozenAt i

theorem st_congr {w wr : World} {cap L r M d : Nat} {F G : Nat → Int} (h : St w wr cap F L r M d) (he : ∀ j, j < L → F j = G j) : St w wr cap G L r M d := ⟨txt_congr h.1 he, h.2⟩

end Go.Proofs.Qxb6601318a
