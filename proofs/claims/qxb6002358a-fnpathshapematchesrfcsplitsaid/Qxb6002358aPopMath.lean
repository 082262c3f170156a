/-
  The plain mathematics of the count of one bits (math/bits.OnesCount64): the tree of sums over bytes. No program in sight.
-/
namespace Go.Proofs.Qxb6002358a.Pop

/-- how many of x's low f bits are set. -/
def popF : Nat → Nat → Nat
  | 0, _ => 0
  | f + 1, x => x % 2 + popF f (x / 2)

def pop (x : Nat) : Nat := popF 64 x

theorem popF_add (a b x : Nat) : popF (a + b) x = popF a x + popF b (x / 2 ^ a) := by
  induction a generalizing x with
  | zero => simp [popF]
  | succ a ih =>
    rw [show a + 1 + b = (a + b) + 1 by omega]
    simp only [popF]
    rw [ih, Nat.div_div_eq_div_mul, Nat.pow_succ, Nat.mul_comm 2, Nat.add_assoc]

theorem popF_mod (a x : Nat) : popF a (x % 2 ^ a) = popF a x := by
  induction a generalizing x with
  | zero => rfl
  | succ a ih =>
    simp only [popF]
    have h1 : x % 2 ^ (a + 1) % 2 = x % 2 := Nat.mod_mod_of_dvd x ⟨2 ^ a, by rw [Nat.pow_succ, Nat.mul_comm]⟩
    have h2 : x % 2 ^ (a + 1) / 2 = (x / 2) % 2 ^ a := by
      rw [Nat.pow_succ, Nat.mul_comm, Nat.mod_mul_right_div_self]
    rw [h1, h2, ih]

/-- f on each of the n low bytes of x. -/
def mp (f : Nat → Nat) : Nat → Nat → Nat
  | 0, _ => 0
  | n + 1, x => f (x % 256) + 256 * mp f n (x / 256)

/-- the byte m, n times. -/
def msk (m : Nat) : Nat → Nat
  | 0 => 0
  | n + 1 => m + 256 * msk m n

theorem and_byte (l h m k : Nat) (hl : l < 256) (hm : m < 256) : (l + 256 * h) &&& (m + 256 * k) = (l &&& m) + 256 * (h &&& k) := by
  have hlm : l &&& m < 256 := Nat.and_lt_two_pow (n := 8) l hm
  have e1 : ((l + 256 * h) &&& (m + 256 * k)) / 256 = h &&& k := by
    have := Nat.and_div_two_pow (a := l + 256 * h) (b := m + 256 * k) (n := 8)
    rw [show (2 : Nat) ^ 8 = 256 by decide] at this
    rw [this, show (l + 256 * h) / 256 = h by omega, show (m + 256 * k) / 256 = k by omega]
  have e2 : ((l + 256 * h) &&& (m + 256 * k)) % 256 = l &&& m := by
    have := Nat.and_mod_two_pow (a := l + 256 * h) (b := m + 256 * k) (n := 8)
    rw [show (2 : Nat) ^ 8 = 256 by decide] at this
    rw [this, show (l + 256 * h) % 256 = l by omega, show (m + 256 * k) % 256 = m by omega]
  omega

def f1 (l : Nat) : Nat := (l / 2 &&& 85) + (l &&& 85)
def f2 (l : Nat) : Nat := (l / 4 &&& 51) + (l &&& 51)
def f3 (l : Nat) : Nat := (l / 16 + l) &&& 15

theorem cross1 (l h : Nat) (hl : l < 256) (hh : h < 2) : (l / 2 + 128 * h) &&& 85 = l / 2 &&& 85 := by
  have all : ∀ l : Fin 256, ∀ h : Fin 2, (l.val / 2 + 128 * h.val) &&& 85 = l.val / 2 &&& 85 := by decide +kernel
  exact all ⟨l, hl⟩ ⟨h, hh⟩

theorem cross2 (l h : Nat) (hl : l < 256) (hh : h < 4) : (l / 4 + 64 * h) &&& 51 = l / 4 &&& 51 := by
  have all : ∀ l : Fin 256, ∀ h : Fin 4, (l.val / 4 + 64 * h.val) &&& 51 = l.val / 4 &&& 51 := by decide +kernel
  exact all ⟨l, hl⟩ ⟨h, hh⟩

theorem step1 (n x : Nat) : (x / 2 &&& msk 85 n) + (x &&& msk 85 n) = mp f1 n x := by
  induction n generalizing x with
  | zero => simp [msk, mp]
  | succ n ih =>
    simp only [msk, mp]
    have e : x = x % 256 + 256 * (x / 256) := by omega
    have e2 : x / 2 = (x % 256 / 2 + 128 * (x / 256 % 2)) + 256 * (x / 256 / 2) := by omega
    have a1 : (x / 2 &&& 85 + 256 * msk 85 n) = (x % 256 / 2 &&& 85) + 256 * (x / 256 / 2 &&& msk 85 n) := by
      rw [e2, and_byte _ _ _ _ (by omega) (by omega), cross1 _ _ (by omega) (by omega)]
    have a2 : (x &&& 85 + 256 * msk 85 n) = (x % 256 &&& 85) + 256 * (x / 256 &&& msk 85 n) := by
      have := and_byte (x % 256) (x / 256) 85 (msk 85 n) (by omega) (by omega)
      rwa [← e] at this
    rw [a1, a2, ← ih (x / 256)]
    unfold f1
    omega

theorem step2 (n x : Nat) : (x / 4 &&& msk 51 n) + (x &&& msk 51 n) = mp f2 n x := by
  induction n generalizing x with
  | zero => simp [msk, mp]
  | succ n ih =>
    simp only [msk, mp]
    have e : x = x % 256 + 256 * (x / 256) := by omega
    have e2 : x / 4 = (x % 256 / 4 + 64 * (x / 256 % 4)) + 256 * (x / 256 / 4) := by omega
    have a1 : (x / 4 &&& 51 + 256 * msk 51 n) = (x % 256 / 4 &&& 51) + 256 * (x / 256 / 4 &&& msk 51 n) := by
      rw [e2, and_byte _ _ _ _ (by omega) (by omega), cross2 _ _ (by omega) (by omega)]
    have a2 : (x &&& 51 + 256 * msk 51 n) = (x % 256 &&& 51) + 256 * (x / 256 &&& msk 51 n) := by
      have := and_byte (x % 256) (x / 256) 51 (msk 51 n) (by omega) (by omega)
      rwa [← e] at this
    rw [a1, a2, ← ih (x / 256)]
    unfold f2
    omega

/-- each half byte is 4 at most. -/
def gd : Nat → Nat → Prop
  | 0, x => x = 0
  | n + 1, x => x % 256 % 16 ≤ 4 ∧ x % 256 / 16 ≤ 4 ∧ gd n (x / 256)

theorem gd_low {n x : Nat} (h : gd n x) : x % 16 ≤ 4 := by
  cases n with
  | zero => unfold gd at h; omega
  | succ n => have := h.1; omega

theorem step3 (n x : Nat) (h : gd n x) : (x / 16 + x) &&& msk 15 n = mp f3 n x := by
  induction n generalizing x with
  | zero => simp [msk, mp]
  | succ n ih =>
    obtain ⟨h1, h2, h3⟩ := h
    have h4 := gd_low h3
    simp only [msk, mp]
    have e : x / 16 + x = (x % 256 / 16 + 16 * (x / 256 % 16) + x % 256) + 256 * (x / 256 / 16 + x / 256) := by omega
    rw [e, and_byte _ _ _ _ (by omega) (by omega), ih (x / 256) h3]
    have a : ∀ y : Nat, y &&& 15 = y % 16 := fun y => Nat.and_two_pow_sub_one_eq_mod y 4
    unfold f3
    rw [a, a]
    omega

theorem mp_mod (f : Nat → Nat) (n x : Nat) (hf : ∀ l, l < 256 → f l < 256) : mp f (n + 1) x % 256 = f (x % 256) := by
  have := hf (x % 256) (by omega)
  simp only [mp]; omega
theorem mp_div (f : Nat → Nat) (n x : Nat) (hf : ∀ l, l < 256 → f l < 256) : mp f (n + 1) x / 256 = mp f n (x / 256) := by
  have := hf (x % 256) (by omega)
  simp only [mp]; omega

theorem mp_mp (f g : Nat → Nat) (n x : Nat) (hf : ∀ l, l < 256 → f l < 256) : mp g n (mp f n x) = mp (fun l => g (f l)) n x := by
  induction n generalizing x with
  | zero => rfl
  | succ n ih =>
    show g (mp f (n + 1) x % 256) + 256 * mp g n (mp f (n + 1) x / 256) = g (f (x % 256)) + 256 * mp (fun l => g (f l)) n (x / 256)
    rw [mp_mod f n x hf, mp_div f n x hf, ih]

theorem f1_lt (l : Nat) (h : l < 256) : f1 l < 256 := by
  have all : ∀ l : Fin 256, f1 l.val < 256 := by decide +kernel
  exact all ⟨l, h⟩
theorem f21 (l : Nat) (h : l < 256) : f2 (f1 l) < 256 ∧ f2 (f1 l) % 16 ≤ 4 ∧ f2 (f1 l) / 16 ≤ 4 := by
  have all : ∀ l : Fin 256, f2 (f1 l.val) < 256 ∧ f2 (f1 l.val) % 16 ≤ 4 ∧ f2 (f1 l.val) / 16 ≤ 4 := by decide +kernel
  exact all ⟨l, h⟩
theorem f321 (l : Nat) (h : l < 256) : f3 (f2 (f1 l)) = popF 8 l := by
  have all : ∀ l : Fin 256, f3 (f2 (f1 l.val)) = popF 8 l.val := by decide +kernel
  exact all ⟨l, h⟩

theorem gd_mp (n x : Nat) : gd n (mp (fun l => f2 (f1 l)) n x) := by
  induction n generalizing x with
  | zero => rfl
  | succ n ih =>
    have hf : ∀ l, l < 256 → (fun l => f2 (f1 l)) l < 256 := fun l h => (f21 l h).1
    have h := f21 (x % 256) (by omega)
    refine ⟨?_, ?_, ?_⟩
    · rw [mp_mod _ n x hf]; exact h.2.1
    · rw [mp_mod _ n x hf]; exact h.2.2
    · rw [mp_div _ n x hf]; exact ih _

theorem mp_congr (f g : Nat → Nat) (n x : Nat) (h : ∀ l, l < 256 → f l = g l) : mp f n x = mp g n x := by
  induction n generalizing x with
  | zero => rfl
  | succ n ih => simp only [mp]; rw [ih, h (x % 256) (by omega)]

theorem popF_le (a x : Nat) : popF a x ≤ a := by
  induction a generalizing x with
  | zero => simp [popF]
  | succ a ih => simp only [popF]; have := ih (x / 2); omega

theorem mp_lt (f : Nat → Nat) (c n x : Nat) (hf : ∀ l, l < 256 → f l ≤ c) : mp f n x ≤ msk c n := by
  induction n generalizing x with
  | zero => simp [mp, msk]
  | succ n ih => simp only [mp, msk]; have := ih (x / 256); have := hf (x % 256) (by omega); omega

theorem f1_le (l : Nat) (h : l < 256) : f1 l ≤ 170 := by
  have all : ∀ l : Fin 256, f1 l.val ≤ 170 := by decide +kernel
  exact all ⟨l, h⟩
theorem f21_le (l : Nat) (h : l < 256) : f2 (f1 l) ≤ 68 := by
  have all : ∀ l : Fin 256, f2 (f1 l.val) ≤ 68 := by decide +kernel
  exact all ⟨l, h⟩

/-- the sum of the bytes by three shifts. -/
theorem fold_bytes (p0 p1 p2 p3 p4 p5 p6 p7 z : Nat) (h0 : p0 ≤ 8) (h1 : p1 ≤ 8) (h2 : p2 ≤ 8) (h3 : p3 ≤ 8) (h4 : p4 ≤ 8) (h5 : p5 ≤ 8) (h6 : p6 ≤ 8) (h7 : p7 ≤ 8)
    (hz : z = p0 + 256 * (p1 + 256 * (p2 + 256 * (p3 + 256 * (p4 + 256 * (p5 + 256 * (p6 + 256 * p7))))))) (z4 z5 z6 : Nat) (e4 : z4 = z + z / 256) (e5 : z5 = z4 + z4 / 65536) (e6 : z6 = z5 + z5 / 4294967296) :
    z6 % 128 = p0 + p1 + p2 + p3 + p4 + p5 + p6 + p7 := by
  have d4 : z / 256 = p1 + 256 * (p2 + 256 * (p3 + 256 * (p4 + 256 * (p5 + 256 * (p6 + 256 * p7))))) := by omega
  have s4 : z4 = (p0 + p1) + 256 * (p1 + p2) + 65536 * ((p2 + p3) + 256 * (p3 + p4) + 65536 * ((p4 + p5) + 256 * (p5 + p6) + 65536 * ((p6 + p7) + 256 * p7))) := by omega
  clear e4 d4 hz
  have d5 : z4 / 65536 = (p2 + p3) + 256 * (p3 + p4) + 65536 * ((p4 + p5) + 256 * (p5 + p6) + 65536 * ((p6 + p7) + 256 * p7)) := by omega
  have s5 : z5 = (p0 + p1 + p2 + p3) + 256 * (p1 + p2 + p3 + p4) + 65536 * (p2 + p3 + p4 + p5 + 256 * (p3 + p4 + p5 + p6)) + 4294967296 * ((p4 + p5 + p6 + p7) + 256 * (p5 + p6 + p7) + 65536 * ((p6 + p7) + 256 * p7)) := by omega
  clear e5 d5 s4
  have d6 : z5 / 4294967296 = (p4 + p5 + p6 + p7) + 256 * (p5 + p6 + p7) + 65536 * ((p6 + p7) + 256 * p7) := by omega
  omega

theorem mask85 : msk 85 8 = 6148914691236517205 := by decide
theorem mask51 : msk 51 8 = 3689348814741910323 := by decide
theorem mask15 : msk 15 8 = 1085102592571150095 := by decide

theorem pop_bytes (x : Nat) : pop x = popF 8 (x % 256) + popF 8 (x / 256 % 256) + popF 8 (x / 256 / 256 % 256) + popF 8 (x / 256 / 256 / 256 % 256) + popF 8 (x / 256 / 256 / 256 / 256 % 256)
    + popF 8 (x / 256 / 256 / 256 / 256 / 256 % 256) + popF 8 (x / 256 / 256 / 256 / 256 / 256 / 256 % 256) + popF 8 (x / 256 / 256 / 256 / 256 / 256 / 256 / 256 % 256) := by
  have s : ∀ b y, popF (8 + b) y = popF 8 (y % 256) + popF b (y / 256) := fun b y => by
    rw [popF_add, ← popF_mod 8 y]
  have z : ∀ y, popF 8 y = popF 8 (y % 256) := fun y => (popF_mod 8 y).symm
  unfold pop
  rw [show (64 : Nat) = 8 + (8 + (8 + (8 + (8 + (8 + (8 + 8)))))) by decide, s, s, s, s, s, s, s, z (x / 256 / 256 / 256 / 256 / 256 / 256 / 256)]
  simp only [Nat.add_assoc]

/-- the whole of OnesCount64, stage by stage. -/
theorem swar (x x1 x2 x3 x4 x5 x6 : Nat) (e1 : x1 = (x / 2 &&& 6148914691236517205) + (x &&& 6148914691236517205)) (e2 : x2 = (x1 / 4 &&& 3689348814741910323) + (x1 &&& 3689348814741910323))
    (e3 : x3 = (x2 / 16 + x2) &&& 1085102592571150095) (e4 : x4 = x3 + x3 / 256) (e5 : x5 = x4 + x4 / 65536) (e6 : x6 = x5 + x5 / 4294967296) :
    x1 ≤ 12297829382473034410 ∧ x2 ≤ 4919131752989213764 ∧ x3 ≤ 578721382704613384 ∧ x6 % 128 = pop x := by
  have a1 : x1 = mp f1 8 x := by rw [e1, ← mask85, step1]
  have a2 : x2 = mp (fun l => f2 (f1 l)) 8 x := by rw [e2, ← mask51, step2, a1, mp_mp f1 f2 8 x f1_lt]
  have a3 : x3 = mp (fun l => popF 8 l) 8 x := by
    rw [e3, ← mask15, a2, step3 8 _ (gd_mp 8 x), mp_mp (fun l => f2 (f1 l)) f3 8 x (fun l h => (f21 l h).1)]
    exact mp_congr _ _ 8 x f321
  refine ⟨?_, ?_, ?_, ?_⟩
  · rw [a1]; exact mp_lt f1 170 8 x f1_le
  · rw [a2]; exact mp_lt _ 68 8 x f21_le
  · rw [a3]; exact mp_lt _ 8 8 x (fun l _ => popF_le 8 l)
  · rw [pop_bytes]
    exact fold_bytes _ _ _ _ _ _ _ _ x3 (popF_le 8 _) (popF_le 8 _) (popF_le 8 _) (popF_le 8 _) (popF_le 8 _) (popF_le 8 _) (popF_le 8 _) (popF_le 8 _)
      (by rw [a3]; rfl) x4 x5 x6 e4 e5 e6

end Go.Proofs.Qxb6002358a.Pop
