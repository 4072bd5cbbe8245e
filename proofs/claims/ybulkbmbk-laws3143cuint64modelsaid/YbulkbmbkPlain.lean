/-
  THE PLAIN LAWS of the seat b3143a: no Go in sight. (1) The count of one bits by the school of masks (math/bits.OnesCount64). (2) A power of two has one bit, and 'n & (n-1)' is 0 there. (3) Which word is the first that is not thrown away.
-/
namespace Go.Proofs.Ybulkbmbk.Pl

/-! ### THE SUM OF THE BITS -/
/-- The sum of the low f bits of x. -/
def pc : Nat → Nat → Nat
  | 0, _ => 0
  | f + 1, x => x % 2 + pc f (x / 2)

theorem pc_zero (f : Nat) : pc f 0 = 0 := by
  induction f with
  | zero => rfl
  | succ f ih => simp [pc, ih]

theorem pc_eight (f x : Nat) : pc (f + 8) x = pc 8 (x % 256) + pc f (x / 256) := by
  simp only [pc, Nat.div_div_eq_div_mul]
  simp only [Nat.reduceMul]
  omega

/-- A number by its bytes, the least first. -/
def V : List Nat → Nat
  | [] => 0
  | b :: bs => b + 256 * V bs

theorem and_split (q r m c : Nat) (hr : r < 256) (hc : c < 256) : (r + 256 * q) &&& (c + 256 * m) = (r &&& c) + 256 * (q &&& m) := by
  have h1 : ((r + 256 * q) &&& (c + 256 * m)) / 2 ^ 8 = (r + 256 * q) / 2 ^ 8 &&& (c + 256 * m) / 2 ^ 8 := Nat.and_div_two_pow ..
  have h2 : ((r + 256 * q) &&& (c + 256 * m)) % 2 ^ 8 = (r + 256 * q) % 2 ^ 8 &&& (c + 256 * m) % 2 ^ 8 := Nat.and_mod_two_pow ..
  rw [show (r + 256 * q) / 2 ^ 8 = q from by omega, show (c + 256 * m) / 2 ^ 8 = m from by omega] at h1
  rw [show (r + 256 * q) % 2 ^ 8 = r from by omega, show (c + 256 * m) % 2 ^ 8 = c from by omega] at h2
  rw [← h1, ← h2]
  omega

def s1 (r : Nat) : Nat := (r / 2 &&& 85) + (r &&& 85)
def s2 (r : Nat) : Nat := (r / 4 &&& 51) + (r &&& 51)
def s3 (r : Nat) : Nat := (r / 16 + r) &&& 15

theorem byte1 : ∀ b, b < 256 → ∀ t, t < 2 → ((b / 2 + 128 * t) &&& 85) = (b / 2 &&& 85) ∧ b / 2 + 128 * t < 256 ∧ s1 b < 256 := by decide +kernel
theorem byte2 : ∀ b, b < 256 → ∀ t, t < 4 → ((b / 4 + 64 * t) &&& 51) = (b / 4 &&& 51) ∧ b / 4 + 64 * t < 256 := by decide +kernel
theorem byte12 : ∀ b, b < 256 → s2 (s1 b) / 16 ≤ 4 ∧ s2 (s1 b) % 16 ≤ 4 ∧ s3 (s2 (s1 b)) = pc 8 b ∧ pc 8 b ≤ 8 := by decide +kernel

theorem step1 (bs : List Nat) (h : ∀ b ∈ bs, b < 256) : (V bs / 2 &&& V (bs.map fun _ => 85)) + (V bs &&& V (bs.map fun _ => 85)) = V (bs.map s1) := by
  induction bs with
  | nil => rfl
  | cons b bs ih =>
    have ih := ih (fun x hx => h x (List.mem_cons_of_mem _ hx))
    have hb : b < 256 := h b (List.mem_cons_self ..)
    obtain ⟨e1, e2, _⟩ := byte1 b hb (V bs % 2) (by omega)
    have e3 : V (b :: bs) / 2 = (b / 2 + 128 * (V bs % 2)) + 256 * (V bs / 2) := by simp only [V]; omega
    rw [e3]
    simp only [List.map_cons, V]
    rw [and_split _ _ _ _ e2 (by omega), and_split _ _ _ _ hb (by omega), e1, ← ih]
    unfold s1
    omega

theorem step2 (bs : List Nat) (h : ∀ b ∈ bs, b < 256) : (V bs / 4 &&& V (bs.map fun _ => 51)) + (V bs &&& V (bs.map fun _ => 51)) = V (bs.map s2) := by
  induction bs with
  | nil => rfl
  | cons b bs ih =>
    have ih := ih (fun x hx => h x (List.mem_cons_of_mem _ hx))
    have hb : b < 256 := h b (List.mem_cons_self ..)
    obtain ⟨e1, e2⟩ := byte2 b hb (V bs % 4) (by omega)
    have e3 : V (b :: bs) / 4 = (b / 4 + 64 * (V bs % 4)) + 256 * (V bs / 4) := by simp only [V]; omega
    rw [e3]
    simp only [List.map_cons, V]
    rw [and_split _ _ _ _ e2 (by omega), and_split _ _ _ _ hb (by omega), e1, ← ih]
    unfold s2
    omega

theorem step3 (bs : List Nat) (h : ∀ b ∈ bs, b / 16 ≤ 4 ∧ b % 16 ≤ 4) : ((V bs / 16 + V bs) &&& V (bs.map fun _ => 15)) = V (bs.map s3) := by
  induction bs with
  | nil => rfl
  | cons b bs ih =>
    have ih := ih (fun x hx => h x (List.mem_cons_of_mem _ hx))
    have hb := h b (List.mem_cons_self ..)
    have hq : V bs % 16 ≤ 4 := by
      cases bs with
      | nil => simp [V]
      | cons c cs => have := (h c (by simp)).2; simp only [V]; omega
    have e3 : V (b :: bs) / 16 + V (b :: bs) = (16 * (V bs % 16) + (b / 16 + b)) + 256 * (V bs / 16 + V bs) := by simp only [V]; omega
    rw [e3]
    simp only [List.map_cons, V]
    rw [and_split _ _ _ _ (by omega) (by omega), ← ih]
    have e4 : (16 * (V bs % 16) + (b / 16 + b)) &&& 15 = (16 * (V bs % 16) + (b / 16 + b)) % 16 := Nat.and_two_pow_sub_one_eq_mod _ 4
    have e5 : s3 b = (b / 16 + b) % 16 := Nat.and_two_pow_sub_one_eq_mod _ 4
    rw [e4, e5]
    omega

/-- The bytes of a word. -/
def bytesOf (x : Nat) : List Nat := [x % 256, x / 256 % 256, x / 65536 % 256, x / 16777216 % 256, x / 4294967296 % 256, x / 1099511627776 % 256, x / 281474976710656 % 256, x / 72057594037927936 % 256]

theorem bytesOf_lt (x : Nat) : ∀ b ∈ bytesOf x, b < 256 := by
  intro b hb
  simp only [bytesOf, List.mem_cons, List.not_mem_nil, or_false] at hb
  omega

theorem V_bytesOf (x : Nat) (hx : x < 18446744073709551616) : V (bytesOf x) = x := by
  simp only [V, bytesOf]
  omega

/-- The words of the count, one a step. -/
def x1 (x : Nat) : Nat := (x / 2 &&& 6148914691236517205) + (x &&& 6148914691236517205)
def x2 (x : Nat) : Nat := (x1 x / 4 &&& 3689348814741910323) + (x1 x &&& 3689348814741910323)
def x3 (x : Nat) : Nat := (x2 x / 16 + x2 x) &&& 1085102592571150095
def x4 (x : Nat) : Nat := x3 x + x3 x / 256
def x5 (x : Nat) : Nat := x4 x + x4 x / 65536
def x6 (x : Nat) : Nat := x5 x + x5 x / 4294967296

theorem mask1 (x : Nat) : V ((bytesOf x).map fun _ => 85) = 6148914691236517205 := by simp [bytesOf, V]
theorem mask2 (x : Nat) : V ((bytesOf x).map fun _ => 51) = 3689348814741910323 := by simp [bytesOf, V]
theorem mask3 (x : Nat) : V ((bytesOf x).map fun _ => 15) = 1085102592571150095 := by simp [bytesOf, V]
theorem mask0 (x : Nat) : V ((bytesOf x).map fun _ => 1) = 72340172838076673 := by simp [bytesOf, V]
theorem map_const_map (l : List Nat) (f : Nat → Nat) (c : Nat) : (l.map f).map (fun _ => c) = l.map fun _ => c := by simp [List.map_map, Function.comp_def]

theorem x1_eq (x : Nat) (hx : x < 18446744073709551616) : x1 x = V ((bytesOf x).map s1) := by
  have h := step1 (bytesOf x) (bytesOf_lt x)
  rw [V_bytesOf x hx, mask1] at h
  unfold x1
  exact h
theorem x2_eq (x : Nat) (hx : x < 18446744073709551616) : x2 x = V ((bytesOf x).map fun b => s2 (s1 b)) := by
  have h := step2 ((bytesOf x).map s1) (by
    intro b hb
    obtain ⟨c, hc, rfl⟩ := List.mem_map.1 hb
    exact (byte1 c (bytesOf_lt x c hc) 0 (by omega)).2.2)
  rw [← x1_eq x hx, map_const_map, mask2, List.map_map] at h
  unfold x2
  exact h
theorem x3_eq (x : Nat) (hx : x < 18446744073709551616) : x3 x = V ((bytesOf x).map fun b => pc 8 b) := by
  have h := step3 ((bytesOf x).map fun b => s2 (s1 b)) (by
    intro b hb
    obtain ⟨c, hc, rfl⟩ := List.mem_map.1 hb
    have := byte12 c (bytesOf_lt x c hc)
    exact ⟨this.1, this.2.1⟩)
  rw [← x2_eq x hx, map_const_map, mask3, List.map_map] at h
  have e : (bytesOf x).map (fun b => pc 8 b) = (bytesOf x).map (s3 ∘ fun b => s2 (s1 b)) :=
    List.map_congr_left fun b hb => (byte12 b (bytesOf_lt x b hb)).2.2.1.symm
  rw [e]
  unfold x3
  exact h

theorem V_le (bs : List Nat) (c : Nat) (h : ∀ b ∈ bs, b ≤ c) : V bs ≤ c * V (bs.map fun _ => 1) := by
  induction bs with
  | nil => simp [V]
  | cons b bs ih =>
    have ih := ih (fun x hx => h x (List.mem_cons_of_mem _ hx))
    have hb := h b (List.mem_cons_self ..)
    simp only [V, List.map_cons, Nat.mul_add, Nat.mul_left_comm c 256]
    omega

theorem cut (L H K q : Nat) (h : q = L + K * H) (hL : L < K) : q / K = H := by
  rw [h, Nat.add_mul_div_left _ _ (by omega), Nat.div_eq_of_lt hL, Nat.zero_add]

/-- The three last steps, of eight small digits. -/
theorem gather (X y0 y1 y2 y3 y4 y5 y6 y7 : Nat) (h0 : y0 ≤ 8) (h1 : y1 ≤ 8) (h2 : y2 ≤ 8) (h3 : y3 ≤ 8) (h4 : y4 ≤ 8) (h5 : y5 ≤ 8) (h6 : y6 ≤ 8) (h7 : y7 ≤ 8)
    (hX : X = y0 + 256 * y1 + 65536 * y2 + 16777216 * y3 + 4294967296 * y4 + 1099511627776 * y5 + 281474976710656 * y6 + 72057594037927936 * y7) :
    X < 18446744073709551616 ∧ X + X / 256 < 18446744073709551616 ∧ X + X / 256 + (X + X / 256) / 65536 < 18446744073709551616 ∧
      X + X / 256 + (X + X / 256) / 65536 + (X + X / 256 + (X + X / 256) / 65536) / 4294967296 < 9223372036854775808 ∧
      (X + X / 256 + (X + X / 256) / 65536 + (X + X / 256 + (X + X / 256) / 65536) / 4294967296) % 128 = y0 + y1 + y2 + y3 + y4 + y5 + y6 + y7 := by
  have e1 := cut y0 (y1 + 256 * y2 + 65536 * y3 + 16777216 * y4 + 4294967296 * y5 + 1099511627776 * y6 + 281474976710656 * y7) 256 X (by omega) (by omega)
  have e2 := cut (y0 + y1 + 256 * (y1 + y2)) (y2 + y3 + 256 * (y3 + y4) + 65536 * (y4 + y5) + 16777216 * (y5 + y6) + 4294967296 * (y6 + y7) + 1099511627776 * y7) 65536 (X + X / 256) (by rw [e1]; omega) (by omega)
  have e3 := cut (y0 + y1 + y2 + y3 + 256 * (y1 + y2 + y3 + y4) + 65536 * (y2 + y3 + y4 + y5) + 16777216 * (y3 + y4 + y5 + y6)) (y4 + y5 + y6 + y7 + 256 * (y5 + y6 + y7) + 65536 * (y6 + y7) + 16777216 * y7) 4294967296 (X + X / 256 + (X + X / 256) / 65536) (by rw [e2, e1]; omega) (by omega)
  rw [e3, e2, e1, hX]
  clear e1 e2 e3 hX
  refine ⟨by omega, by omega, by omega, by omega, ?_⟩
  omega

/-- The same of a word's bytes, each counted by whatever counts at most 8. -/
theorem gatherF (f : Nat → Nat) (x X : Nat) (hf : ∀ b ∈ bytesOf x, f b ≤ 8) (hX : X = V ((bytesOf x).map f)) :
    X < 18446744073709551616 ∧ X + X / 256 < 18446744073709551616 ∧ X + X / 256 + (X + X / 256) / 65536 < 18446744073709551616 ∧
      X + X / 256 + (X + X / 256) / 65536 + (X + X / 256 + (X + X / 256) / 65536) / 4294967296 < 9223372036854775808 ∧
      (X + X / 256 + (X + X / 256) / 65536 + (X + X / 256 + (X + X / 256) / 65536) / 4294967296) % 128 =
        f (x % 256) + (f (x / 256 % 256) + (f (x / 65536 % 256) + (f (x / 16777216 % 256) + (f (x / 4294967296 % 256) + (f (x / 1099511627776 % 256) + (f (x / 281474976710656 % 256) + f (x / 72057594037927936 % 256))))))) := by
  simp only [bytesOf, List.map_cons, List.map_nil, V] at hX
  simp only [bytesOf, List.mem_cons, List.not_mem_nil, or_false, forall_eq_or_imp, forall_eq] at hf
  obtain ⟨p0, p1, p2, p3, p4, p5, p6, p7⟩ := hf
  obtain ⟨g3, g4, g5, g6, g7⟩ := gather X _ _ _ _ _ _ _ _ p0 p1 p2 p3 p4 p5 p6 p7 (by omega)
  exact ⟨g3, g4, g5, g6, by rw [g7]; simp only [Nat.add_assoc]⟩

theorem pc_bytes (x : Nat) (hx : x < 18446744073709551616) : pc 64 x = pc 8 (x % 256) + (pc 8 (x / 256 % 256) + (pc 8 (x / 65536 % 256) + (pc 8 (x / 16777216 % 256) + (pc 8 (x / 4294967296 % 256) + (pc 8 (x / 1099511627776 % 256) + (pc 8 (x / 281474976710656 % 256) + (pc 8 (x / 72057594037927936 % 256)))))))) := by
  have a1 : pc 64 x = pc 8 (x % 256) + pc 56 (x / 256) := pc_eight 56 x
  have a2 : pc 56 (x / 256) = pc 8 (x / 256 % 256) + pc 48 (x / 256 / 256) := pc_eight 48 _
  have a3 : pc 48 (x / 256 / 256) = pc 8 (x / 256 / 256 % 256) + pc 40 (x / 256 / 256 / 256) := pc_eight 40 _
  have a4 : pc 40 (x / 256 / 256 / 256) = pc 8 (x / 256 / 256 / 256 % 256) + pc 32 (x / 256 / 256 / 256 / 256) := pc_eight 32 _
  have a5 : pc 32 (x / 256 / 256 / 256 / 256) = pc 8 (x / 256 / 256 / 256 / 256 % 256) + pc 24 (x / 256 / 256 / 256 / 256 / 256) := pc_eight 24 _
  have a6 : pc 24 (x / 256 / 256 / 256 / 256 / 256) = pc 8 (x / 256 / 256 / 256 / 256 / 256 % 256) + pc 16 (x / 256 / 256 / 256 / 256 / 256 / 256) := pc_eight 16 _
  have a7 : pc 16 (x / 256 / 256 / 256 / 256 / 256 / 256) = pc 8 (x / 256 / 256 / 256 / 256 / 256 / 256 % 256) + pc 8 (x / 256 / 256 / 256 / 256 / 256 / 256 / 256) := pc_eight 8 _
  have a8 : x / 256 / 256 / 256 / 256 / 256 / 256 / 256 = x / 256 / 256 / 256 / 256 / 256 / 256 / 256 % 256 := by omega
  rw [a8] at a7
  rw [a1, a2, a3, a4, a5, a6, a7]
  simp only [Nat.div_div_eq_div_mul, Nat.reduceMul]

/-- None of the steps wraps. -/
theorem steps_lt (x : Nat) (hx : x < 18446744073709551616) :
    x1 x < 18446744073709551616 ∧ x2 x < 18446744073709551616 ∧ x2 x / 16 + x2 x < 18446744073709551616 ∧ x3 x < 18446744073709551616 ∧ x4 x < 18446744073709551616 ∧ x5 x < 18446744073709551616 ∧ x6 x < 9223372036854775808 ∧ x6 x % 128 = pc 64 x := by
  have h1 : x1 x ≤ 255 * 72340172838076673 := by
    rw [x1_eq x hx]
    refine Nat.le_trans (V_le _ 255 ?_) (by rw [map_const_map, mask0]; omega)
    intro b hb
    obtain ⟨c, hc, rfl⟩ := List.mem_map.1 hb
    have := (byte1 c (bytesOf_lt x c hc) 0 (by omega)).2.2
    omega
  have h2 : x2 x ≤ 68 * 72340172838076673 := by
    rw [x2_eq x hx]
    refine Nat.le_trans (V_le _ 68 ?_) (by rw [map_const_map, mask0]; omega)
    intro b hb
    obtain ⟨c, hc, rfl⟩ := List.mem_map.1 hb
    have := byte12 c (bytesOf_lt x c hc)
    omega
  obtain ⟨g3, g4, g5, g6, g7⟩ := gatherF (pc 8) x (x3 x) (fun b hb => (byte12 b (bytesOf_lt x b hb)).2.2.2) (x3_eq x hx)
  exact ⟨by omega, by omega, by omega, g3, g4, g5, g6, g7.trans (pc_bytes x hx).symm⟩

/-! ### POWERS OF TWO -/
theorem pow_of_pc : ∀ f x, x < 2 ^ f → pc f x = 1 → ∃ k, k < f ∧ x = 2 ^ k := by
  intro f
  induction f with
  | zero => intro x _ h; simp [pc] at h
  | succ f ih =>
    intro x hx h
    simp only [pc] at h
    by_cases h2 : x % 2 = 0
    · obtain ⟨k, hk, e⟩ := ih (x / 2) (by omega) (by omega)
      exact ⟨k + 1, by omega, by omega⟩
    · have hz : pc f (x / 2) = 0 := by omega
      have : ∀ f y, y < 2 ^ f → pc f y = 0 → y = 0 := by
        intro f
        induction f with
        | zero => intro y hy _; omega
        | succ f ih => intro y hy h0; simp only [pc] at h0; have := ih (y / 2) (by omega) (by omega); omega
      have := this f (x / 2) (by omega) hz
      exact ⟨0, by omega, by simp; omega⟩

theorem and_double (a b s t : Nat) (hs : s < 2) (ht : t < 2) : (s + 2 * a) &&& (t + 2 * b) = (s &&& t) + 2 * (a &&& b) := by
  have h1 : ((s + 2 * a) &&& (t + 2 * b)) / 2 ^ 1 = (s + 2 * a) / 2 ^ 1 &&& (t + 2 * b) / 2 ^ 1 := Nat.and_div_two_pow ..
  have h2 : ((s + 2 * a) &&& (t + 2 * b)) % 2 ^ 1 = (s + 2 * a) % 2 ^ 1 &&& (t + 2 * b) % 2 ^ 1 := Nat.and_mod_two_pow ..
  rw [show (s + 2 * a) / 2 ^ 1 = a from by omega, show (t + 2 * b) / 2 ^ 1 = b from by omega] at h1
  rw [show (s + 2 * a) % 2 ^ 1 = s from by omega, show (t + 2 * b) % 2 ^ 1 = t from by omega] at h2
  rw [← h1, ← h2]
  omega

theorem pow_of_and : ∀ f x, x < 2 ^ f → 0 < x → x &&& (x - 1) = 0 → ∃ k, k < f ∧ x = 2 ^ k := by
  intro f
  induction f with
  | zero => intro x hx h0; omega
  | succ f ih =>
    intro x hx h0 h
    by_cases h2 : x % 2 = 0
    · have e := and_double (x / 2) (x / 2 - 1) 0 1 (by omega) (by omega)
      rw [show 0 + 2 * (x / 2) = x from by omega, show 1 + 2 * (x / 2 - 1) = x - 1 from by omega, h] at e
      obtain ⟨k, hk, e'⟩ := ih (x / 2) (by omega) (by omega) (by omega)
      exact ⟨k + 1, by omega, by omega⟩
    · have e := and_double (x / 2) (x / 2) 1 0 (by omega) (by omega)
      rw [show 1 + 2 * (x / 2) = x from by omega, show 0 + 2 * (x / 2) = x - 1 from by omega, h, Nat.and_self] at e
      exact ⟨0, by omega, by simp; omega⟩

theorem of_pow : ∀ k, k < 64 → pc 64 (2 ^ k) = 1 ∧ 2 ^ k &&& (2 ^ k - 1) = 0 := by decide +kernel

/-- One bit, just where 'n & (n-1)' is 0. -/
theorem one_bit (n : Nat) (h0 : 0 < n) (hn : n < 18446744073709551616) : pc 64 n = 1 ↔ n &&& (n - 1) = 0 := by
  constructor
  · intro h
    obtain ⟨k, hk, rfl⟩ := pow_of_pc 64 n (by omega) h
    exact (of_pow k hk).2
  · intro h
    obtain ⟨k, hk, rfl⟩ := pow_of_and 64 n (by omega) h0 h
    exact (of_pow k hk).1

theorem mask_mod (n x : Nat) (h0 : 0 < n) (hn : n < 18446744073709551616) (h : n &&& (n - 1) = 0) : x &&& (n - 1) = x % n := by
  obtain ⟨k, hk, rfl⟩ := pow_of_and 64 n (by omega) h0 h
  exact Nat.and_two_pow_sub_one_eq_mod x k

/-! ### THE FIRST WORD THAT IS TAKEN -/
/-- Word number k: of the list, or all ones behind its end. -/
def wd (zs : List Int) (len k : Nat) : Nat := if k < len then (zs.getD k 0).toNat else 18446744073709551615

/-- The halves of a product of two words, and 2^64 mod n. (Plain names, so that a walk carries them whole.) -/
def hi (x n : Nat) : Nat := x * n / 18446744073709551616
def lo (x n : Nat) : Nat := x * n % 18446744073709551616
def th (n : Nat) : Nat := 18446744073709551616 % n

/-- j is the first word whose product's low half is not below 2^64 mod n. -/
def First (zs : List Int) (len n j : Nat) : Prop := (∀ i, i < j → lo (wd zs len i) n < th n) ∧ th n ≤ lo (wd zs len j) n

theorem First.one {zs : List Int} {len n j k : Nat} (a : First zs len n j) (b : First zs len n k) : j = k := by
  obtain ⟨a1, a2⟩ := a
  obtain ⟨b1, b2⟩ := b
  rcases Nat.lt_trichotomy j k with h | h | h
  · have := b1 j h; omega
  · exact h
  · have := a1 k h; omega

/-- The all-ones word: its product's halves; it is taken. -/
theorem ones_word (n : Nat) (h0 : 0 < n) (hn : n < 18446744073709551616) : hi 18446744073709551615 n = n - 1 ∧ th n ≤ lo 18446744073709551615 n := by
  have e2 : lo 18446744073709551615 n = 18446744073709551616 - n := by unfold lo; omega
  refine ⟨by unfold hi; omega, ?_⟩
  rw [e2]
  unfold th
  by_cases h : n ≤ 9223372036854775808
  · have := Nat.mod_lt 18446744073709551616 h0; omega
  · have e : 18446744073709551616 % n = 18446744073709551616 - n := by
      rw [Nat.mod_eq_sub_mod (by omega), Nat.mod_eq_of_lt (by omega)]
    omega
theorem wd_end (zs : List Int) (len k : Nat) (h : len ≤ k) : wd zs len k = 18446744073709551615 := by unfold wd; rw [if_neg (by omega)]
theorem th_lt (n : Nat) (h0 : 0 < n) : th n < n := Nat.mod_lt _ h0
theorem hi_lt (x n : Nat) (hx : x < 18446744073709551616) (hn : 0 < n) : hi x n < n := by
  unfold hi
  rw [Nat.div_lt_iff_lt_mul (by omega)]
  rw [Nat.mul_comm]
  exact Nat.mul_lt_mul_of_pos_left hx hn

/-- '-n % n' in 64 bits. -/
theorem thresh (n : Nat) (h0 : 0 < n) (hn : n < 18446744073709551616) : (18446744073709551616 - n) % n = th n := by
  unfold th
  rw [← Nat.mod_eq_sub_mod (by omega)]

/-- '(^0 % n + 1) % n' in 64 bits: n is no power of two, or at least above 1, so that the sum does not wrap. -/
theorem thresh' (n : Nat) (h0 : 1 < n) (hn : n < 18446744073709551616) : 18446744073709551615 % n + 1 < 18446744073709551616 ∧ (18446744073709551615 % n + 1) % n = th n := by
  have := Nat.mod_lt 18446744073709551615 (show 0 < n by omega)
  refine ⟨by omega, ?_⟩
  have e := Nat.add_mod 18446744073709551615 1 n
  rw [Nat.mod_eq_of_lt h0] at e
  exact e.symm

/-- What is drawn below n, and how many words it took. -/
def Drawn (zs : List Int) (len n v used : Nat) : Prop :=
  (n &&& (n - 1) = 0 ∧ v = wd zs len 0 % n ∧ used = 1) ∨ (¬ n &&& (n - 1) = 0 ∧ ∃ j, First zs len n j ∧ v = hi (wd zs len j) n ∧ used = j + 1)

theorem Drawn.one {zs : List Int} {len n v u v' u' : Nat} (a : Drawn zs len n v u) (b : Drawn zs len n v' u') : v = v' ∧ u = u' := by
  rcases a with ⟨p, a1, a2⟩ | ⟨p, j, hj, a1, a2⟩ <;> rcases b with ⟨q, b1, b2⟩ | ⟨q, k, hk, b1, b2⟩
  · exact ⟨by omega, by omega⟩
  · exact absurd p q
  · exact absurd q p
  · have := hj.one hk; subst this; exact ⟨by omega, by omega⟩

theorem Drawn.lt {zs : List Int} {len n v u : Nat} (a : Drawn zs len n v u) (h0 : 0 < n) (hz : ∀ k, wd zs len k < 18446744073709551616) : v < n := by
  rcases a with ⟨p, a1, a2⟩ | ⟨p, j, hj, a1, a2⟩
  · rw [a1]; exact Nat.mod_lt _ h0
  · rw [a1]; exact hi_lt _ _ (hz j) h0

end Go.Proofs.Ybulkbmbk.Pl
