section
/-! PURE PART: the field of 256 elements by logs, the check letters, the distance -/
set_option maxRecDepth 100000
def gf_AL : List Nat := [1, 2, 4, 8, 16, 32, 64, 128, 45, 90, 180, 69, 138, 57, 114, 228, 229, 231, 227, 235, 251, 219, 155, 27, 54, 108, 216, 157, 23, 46, 92, 184, 93, 186, 89, 178, 73, 146, 9, 18, 36, 72, 144, 13, 26, 52, 104, 208, 141, 55, 110, 220, 149, 7, 14, 28, 56, 112, 224, 237, 247, 195, 171, 123, 246, 193, 175, 115, 230, 225, 239, 243, 203, 187, 91, 182, 65, 130, 41, 82, 164, 101, 202, 185, 95, 190, 81, 162, 105, 210, 137, 63, 126, 252, 213, 135, 35, 70, 140, 53, 106, 212, 133, 39, 78, 156, 21, 42, 84, 168, 125, 250, 217, 159, 19, 38, 76, 152, 29, 58, 116, 232, 253, 215, 131, 43, 86, 172, 117, 234, 249, 223, 147, 11, 22, 44, 88, 176, 77, 154, 25, 50, 100, 200, 189, 87, 174, 113, 226, 233, 255, 211, 139, 59, 118, 236, 245, 199, 163, 107, 214, 129, 47, 94, 188, 85, 170, 121, 242, 201, 191, 83, 166, 97, 194, 169, 127, 254, 209, 143, 51, 102, 204, 181, 71, 142, 49, 98, 196, 165, 103, 206, 177, 79, 158, 17, 34, 68, 136, 61, 122, 244, 197, 167, 99, 198, 161, 111, 222, 145, 15, 30, 60, 120, 240, 205, 183, 67, 134, 33, 66, 132, 37, 74, 148, 5, 10, 20, 40, 80, 160, 109, 218, 153, 31, 62, 124, 248, 221, 151, 3, 6, 12, 24, 48, 96, 192, 173, 119, 238, 241, 207, 179, 75, 150]
def gf_LL : List Nat := [0, 0, 1, 240, 2, 225, 241, 53, 3, 38, 226, 133, 242, 43, 54, 210, 4, 195, 39, 114, 227, 106, 134, 28, 243, 140, 44, 23, 55, 118, 211, 234, 5, 219, 196, 96, 40, 222, 115, 103, 228, 78, 107, 125, 135, 8, 29, 162, 244, 186, 141, 180, 45, 99, 24, 49, 56, 13, 119, 153, 212, 199, 235, 91, 6, 76, 220, 217, 197, 11, 97, 184, 41, 36, 223, 253, 116, 138, 104, 193, 229, 86, 79, 171, 108, 165, 126, 145, 136, 34, 9, 74, 30, 32, 163, 84, 245, 173, 187, 204, 142, 81, 181, 190, 46, 88, 100, 159, 25, 231, 50, 207, 57, 147, 14, 67, 120, 128, 154, 248, 213, 167, 200, 63, 236, 110, 92, 176, 7, 161, 77, 124, 221, 102, 218, 95, 198, 90, 12, 152, 98, 48, 185, 179, 42, 209, 37, 132, 224, 52, 254, 239, 117, 233, 139, 22, 105, 27, 194, 113, 230, 206, 87, 158, 80, 189, 172, 203, 109, 175, 166, 62, 127, 247, 146, 66, 137, 192, 35, 252, 10, 183, 75, 216, 31, 83, 33, 73, 164, 144, 85, 170, 246, 65, 174, 61, 188, 202, 205, 157, 143, 169, 82, 72, 182, 215, 191, 251, 47, 178, 89, 151, 101, 94, 160, 123, 26, 112, 232, 21, 51, 238, 208, 131, 58, 69, 148, 18, 15, 16, 68, 17, 121, 149, 129, 19, 155, 59, 249, 70, 214, 250, 168, 71, 201, 156, 64, 60, 237, 130, 111, 20, 93, 122, 177, 150]
def gf_SL : List Nat := [5, 7, 10, 11, 12, 14, 18, 20, 24, 28, 36, 42, 48, 56, 62, 68]
def gf_FL : List (List Nat) := [
  [228, 48, 15, 111, 62],
  [23, 68, 144, 134, 240, 92, 254],
  [28, 24, 185, 166, 223, 248, 116, 255, 110, 61],
  [175, 138, 205, 12, 194, 168, 39, 245, 60, 97, 120],
  [41, 153, 158, 91, 61, 42, 142, 213, 97, 178, 100, 242],
  [156, 97, 192, 252, 95, 9, 157, 119, 138, 45, 18, 186, 83, 185],
  [83, 195, 100, 39, 188, 75, 66, 61, 241, 213, 109, 129, 94, 254, 225, 48, 90, 188],
  [15, 195, 244, 9, 233, 71, 168, 2, 188, 160, 153, 145, 253, 79, 108, 82, 27, 174, 186, 172],
  [52, 190, 88, 205, 109, 39, 176, 21, 155, 197, 251, 223, 155, 21, 5, 172, 254, 124, 12, 181, 184, 96, 50, 193],
  [211, 231, 43, 97, 71, 96, 103, 174, 37, 151, 170, 53, 75, 34, 249, 121, 17, 138, 110, 213, 141, 136, 120, 151, 233, 168, 93, 255],
  [245, 127, 242, 218, 130, 250, 162, 181, 102, 120, 84, 179, 220, 251, 80, 182, 229, 18, 2, 4, 68, 33, 101, 137, 95, 119, 115, 44, 175, 184, 59, 25, 225, 98, 81, 112],
  [77, 193, 137, 31, 19, 38, 22, 153, 247, 105, 122, 2, 245, 133, 242, 8, 175, 95, 100, 9, 167, 105, 214, 111, 57, 121, 21, 1, 253, 57, 54, 101, 248, 202, 69, 50, 150, 177, 226, 5, 9, 5],
  [245, 132, 172, 223, 96, 32, 117, 22, 238, 133, 238, 231, 205, 188, 237, 87, 191, 106, 16, 147, 118, 23, 37, 90, 170, 205, 131, 88, 120, 100, 66, 138, 186, 240, 82, 44, 176, 87, 187, 147, 160, 175, 69, 213, 92, 253, 225, 19],
  [175, 9, 223, 238, 12, 17, 220, 208, 100, 29, 175, 170, 230, 192, 215, 235, 150, 159, 36, 223, 38, 200, 132, 54, 228, 146, 218, 234, 117, 203, 29, 232, 144, 238, 22, 150, 201, 117, 62, 207, 164, 13, 137, 245, 127, 67, 247, 28, 155, 43, 203, 107, 233, 53, 143, 46],
  [242, 93, 169, 50, 144, 210, 39, 118, 202, 188, 201, 189, 143, 108, 196, 37, 185, 112, 134, 230, 245, 63, 197, 190, 250, 106, 185, 221, 175, 64, 114, 71, 161, 44, 147, 6, 27, 218, 51, 63, 87, 10, 40, 130, 188, 17, 163, 31, 176, 170, 4, 107, 232, 7, 94, 166, 224, 124, 86, 47, 11, 204],
  [220, 228, 173, 89, 251, 149, 159, 56, 89, 33, 147, 244, 154, 36, 73, 127, 213, 136, 248, 180, 234, 197, 158, 177, 68, 122, 93, 213, 15, 160, 227, 236, 66, 139, 153, 185, 202, 167, 179, 25, 220, 232, 96, 210, 231, 136, 223, 239, 181, 241, 59, 52, 172, 25, 49, 232, 211, 189, 64, 54, 108, 153, 132, 63, 96, 103, 82, 186]]
def gf_RL : List Nat := [3, 5, 8, 12, 18, 22, 30, 36, 44, 62]
def gf_CL : List Nat := [5, 7, 10, 12, 14, 18, 20, 24, 28, 36]
def gf_TL : List Nat := [0, 1, 2, 4, 5, 6, 7, 8, 9, 10]
def gf_A (k : Nat) : Nat := gf_AL.getD k 0
def gf_L (a : Nat) : Nat := gf_LL.getD a 0
def gm (a b : Nat) : Nat := if a = 0 then 0 else if b = 0 then 0 else gf_A ((gf_L a + gf_L b) % 255)
def gx (a : Nat) : Nat := if 255 < a * 2 then (a * 2) ^^^ 301 else a * 2
theorem gf_LA : ∀ k, k < 255 → (gf_L (gf_A k) = k ∧ gf_A k < 256 ∧ gf_A k ≠ 0) := by decide +kernel
theorem gf_AofL : ∀ a, a < 256 → (a ≠ 0 → gf_A (gf_L a) = a) := by decide +kernel
theorem gf_Lt0 : ∀ a, a < 256 → gf_L a < 255 := by decide +kernel
theorem gf_AS : ∀ k, k < 255 → gf_A ((k + 1) % 255) = gx (gf_A k) := by decide +kernel
theorem gf_Lt (a : Nat) : gf_L a < 255 := by
  by_cases h : a < 256
  · exact gf_Lt0 a h
  · have hl : gf_LL.length ≤ a := by
      have : gf_LL.length = 256 := by decide +kernel
      omega
    unfold gf_L
    rw [List.getD_eq_getElem?_getD, List.getElem?_eq_none hl]
    decide
theorem gf_At (k : Nat) : gf_A k < 256 := by
  by_cases h : k < 255
  · exact (gf_LA k h).2.1
  · have hl : gf_AL.length ≤ k := by
      have : gf_AL.length = 255 := by decide +kernel
      omega
    unfold gf_A
    rw [List.getD_eq_getElem?_getD, List.getElem?_eq_none hl]
    decide
theorem gf_m (x : Nat) : x % 255 < 255 := Nat.mod_lt _ (by decide)
theorem gm_0l (b : Nat) : gm 0 b = 0 := by simp [gm]
theorem gm_0r (a : Nat) : gm a 0 = 0 := by simp [gm]
theorem gm_n {a b : Nat} (ha : a ≠ 0) (hb : b ≠ 0) : gm a b = gf_A ((gf_L a + gf_L b) % 255) := by simp [gm, ha, hb]
theorem gm_comm (a b : Nat) : gm a b = gm b a := by
  by_cases ha : a = 0
  · rw [ha, gm_0l, gm_0r]
  · by_cases hb : b = 0
    · rw [hb, gm_0l, gm_0r]
    · rw [gm_n ha hb, gm_n hb ha, Nat.add_comm]
theorem gm_lt (a b : Nat) : gm a b < 256 := by
  by_cases ha : a = 0
  · rw [ha, gm_0l]; decide
  · by_cases hb : b = 0
    · rw [hb, gm_0r]; decide
    · rw [gm_n ha hb]; exact gf_At _
theorem gm_nz {a b : Nat} (ha : a ≠ 0) (hb : b ≠ 0) : gm a b ≠ 0 := by
  rw [gm_n ha hb]; exact (gf_LA _ (gf_m _)).2.2
theorem gm_L {a b : Nat} (ha : a ≠ 0) (hb : b ≠ 0) : gf_L (gm a b) = (gf_L a + gf_L b) % 255 := by
  rw [gm_n ha hb]; exact (gf_LA _ (gf_m _)).1
theorem gm_assoc (a b c : Nat) : gm (gm a b) c = gm a (gm b c) := by
  by_cases ha : a = 0
  · rw [ha, gm_0l, gm_0l, gm_0l]
  · by_cases hb : b = 0
    · rw [hb, gm_0l, gm_0r, gm_0l]
    · by_cases hc : c = 0
      · rw [hc, gm_0r, gm_0r, gm_0r]
      · rw [gm_n (gm_nz ha hb) hc, gm_n ha (gm_nz hb hc), gm_L ha hb, gm_L hb hc]
        congr 1
        omega
theorem gf_A0 : gf_A 0 = 1 := by decide +kernel
theorem gf_L1 : gf_L 1 = 0 := by decide +kernel
theorem gm_1l {b : Nat} (hb : b < 256) : gm 1 b = b := by
  by_cases h : b = 0
  · rw [h, gm_0r]
  · rw [gm_n (by decide) h, gf_L1, Nat.zero_add, Nat.mod_eq_of_lt (gf_Lt b)]
    exact gf_AofL b hb h
theorem gm_1r {b : Nat} (hb : b < 256) : gm b 1 = b := by rw [gm_comm]; exact gm_1l hb
theorem gx_0 : gx 0 = 0 := by decide
theorem gx_lt : ∀ a, a < 256 → gx a < 256 := by decide +kernel
theorem gm_gx (a : Nat) {b : Nat} (hb : b < 256) : gm a (gx b) = gx (gm a b) := by
  by_cases ha : a = 0
  · rw [ha, gm_0l, gm_0l, gx_0]
  · by_cases h0 : b = 0
    · rw [h0, gx_0, gm_0r, gx_0]
    · have e1 := gf_AofL b hb h0
      have e2 : gx b = gf_A ((gf_L b + 1) % 255) := by rw [gf_AS _ (gf_Lt b), e1]
      have hnz : gx b ≠ 0 := by rw [e2]; exact (gf_LA _ (gf_m _)).2.2
      have hL : gf_L (gx b) = (gf_L b + 1) % 255 := by rw [e2]; exact (gf_LA _ (gf_m _)).1
      rw [gm_n ha hnz, hL, gm_n ha h0, ← gf_AS _ (gf_m _)]
      congr 1
      omega
theorem xx4 (a b p q : Nat) : (a ^^^ p) ^^^ (b ^^^ q) = (a ^^^ b) ^^^ (p ^^^ q) := by
  rw [Nat.xor_assoc, Nat.xor_assoc, ← Nat.xor_assoc p, Nat.xor_comm p b, Nat.xor_assoc b p]
theorem x8 {a b : Nat} (ha : a < 256) (hb : b < 256) : a ^^^ b < 256 := Nat.xor_lt_two_pow (n := 8) ha hb
theorem gx_key : ∀ a, a < 256 → gx a = (a <<< 1) ^^^ (if a.testBit 7 then 301 else 0) := by decide +kernel
theorem gx_xor {a b : Nat} (ha : a < 256) (hb : b < 256) : gx (a ^^^ b) = gx a ^^^ gx b := by
  rw [gx_key _ (x8 ha hb), gx_key a ha, gx_key b hb, xx4, Nat.shiftLeft_xor_distrib, Nat.testBit_xor]
  congr 1
  cases a.testBit 7 <;> cases b.testBit 7 <;> rfl
def gxi : Nat → Nat → Nat
  | 0, b => b
  | k + 1, b => gx (gxi k b)
theorem gxi_lt {b : Nat} (hb : b < 256) : ∀ k, gxi k b < 256 := by
  intro k
  induction k with
  | zero => exact hb
  | succ k ih => exact gx_lt _ ih
theorem gxi_xor {a b : Nat} (ha : a < 256) (hb : b < 256) : ∀ k, gxi k (a ^^^ b) = gxi k a ^^^ gxi k b := by
  intro k
  induction k with
  | zero => rfl
  | succ k ih =>
    show gx (gxi k (a ^^^ b)) = gx (gxi k a) ^^^ gx (gxi k b)
    rw [ih, gx_xor (gxi_lt ha k) (gxi_lt hb k)]
theorem gm_pow {b : Nat} (hb : b < 256) : ∀ k, k < 255 → gm (gf_A k) b = gxi k b := by
  intro k
  induction k with
  | zero => intro _; rw [gf_A0, gm_1l hb]; rfl
  | succ k ih =>
    intro h
    have e : gf_A (k + 1) = gx (gf_A k) := by
      have := gf_AS k (by omega)
      rwa [Nat.mod_eq_of_lt h] at this
    show gm (gf_A (k + 1)) b = gx (gxi k b)
    rw [e, gm_comm, gm_gx b (gf_At k), gm_comm b, ih (by omega)]
theorem gm_sub {a : Nat} (ha : a ≠ 0) (x : Nat) : gm a x = gm (gf_A (gf_L a)) x := by
  by_cases hx : x = 0
  · rw [hx, gm_0r, gm_0r]
  · rw [gm_n ha hx, gm_n (gf_LA _ (gf_Lt a)).2.2 hx, (gf_LA _ (gf_Lt a)).1]
theorem gm_xor (a : Nat) {b c : Nat} (hb : b < 256) (hc : c < 256) : gm a (b ^^^ c) = gm a b ^^^ gm a c := by
  by_cases ha : a = 0
  · rw [ha, gm_0l, gm_0l, gm_0l]; rfl
  · rw [gm_sub ha, gm_sub ha b, gm_sub ha c, gm_pow (x8 hb hc) _ (gf_Lt a), gm_pow hb _ (gf_Lt a), gm_pow hc _ (gf_Lt a), gxi_xor hb hc]
theorem gm_xorl {a b : Nat} (c : Nat) (ha : a < 256) (hb : b < 256) : gm (a ^^^ b) c = gm a c ^^^ gm b c := by
  rw [gm_comm, gm_xor c ha hb, gm_comm c a, gm_comm c b]
-- powers, sums
def pw (r : Nat) : Nat → Nat
  | 0 => 1
  | k + 1 => gm (pw r k) r
theorem pw_lt (r k : Nat) : pw r k < 256 := by
  cases k with
  | zero => show 1 < 256; decide
  | succ k => exact gm_lt _ _
def sm (f : Nat → Nat) : Nat → Nat
  | 0 => 0
  | k + 1 => sm f k ^^^ f k
theorem sm_lt {f : Nat → Nat} : ∀ n, (∀ k, k < n → f k < 256) → sm f n < 256 := by
  intro n
  induction n with
  | zero => intro _; show 0 < 256; decide
  | succ n ih => intro h; exact x8 (ih (fun k hk => h k (by omega))) (h n (by omega))
theorem sm_congr {f g : Nat → Nat} : ∀ n, (∀ k, k < n → f k = g k) → sm f n = sm g n := by
  intro n
  induction n with
  | zero => intro _; rfl
  | succ n ih =>
    intro h
    show sm f n ^^^ f n = sm g n ^^^ g n
    rw [ih (fun k hk => h k (by omega)), h n (by omega)]
theorem sm_xor (f g : Nat → Nat) : ∀ n, sm (fun k => f k ^^^ g k) n = sm f n ^^^ sm g n := by
  intro n
  induction n with
  | zero => show 0 = 0 ^^^ 0; decide
  | succ n ih =>
    show sm (fun k => f k ^^^ g k) n ^^^ (f n ^^^ g n) = (sm f n ^^^ f n) ^^^ (sm g n ^^^ g n)
    rw [ih, xx4]
theorem sm_mul (a : Nat) {f : Nat → Nat} : ∀ n, (∀ k, k < n → f k < 256) → gm a (sm f n) = sm (fun k => gm a (f k)) n := by
  intro n
  induction n with
  | zero => intro _; exact gm_0r a
  | succ n ih =>
    intro h
    show gm a (sm f n ^^^ f n) = sm (fun k => gm a (f k)) n ^^^ gm a (f n)
    rw [gm_xor a (sm_lt n (fun k hk => h k (by omega))) (h n (by omega)), ih (fun k hk => h k (by omega))]
theorem sm_zero {f : Nat → Nat} : ∀ n, (∀ k, k < n → f k = 0) → sm f n = 0 := by
  intro n
  induction n with
  | zero => intro _; rfl
  | succ n ih =>
    intro h
    show sm f n ^^^ f n = 0
    rw [ih (fun k hk => h k (by omega)), h n (by omega)]; rfl
theorem sm_one {f : Nat → Nat} {k0 : Nat} : ∀ n, k0 < n → (∀ k, k < n → k ≠ k0 → f k = 0) → sm f n = f k0 := by
  intro n
  induction n with
  | zero => intro h; exact absurd h (Nat.not_lt_zero _)
  | succ n ih =>
    intro h h2
    show sm f n ^^^ f n = f k0
    by_cases e : k0 = n
    · subst e
      rw [sm_zero k0 (fun k hk => h2 k (by omega) (by omega)), Nat.zero_xor]
    · rw [ih (by omega) (fun k hk hn => h2 k (by omega) hn), h2 n (by omega) (fun q => e q.symm), Nat.xor_zero]
def ev (r : Nat) (e : Nat → Nat) (n : Nat) : Nat := sm (fun k => gm (e k) (pw r k)) n
theorem ev_s (r : Nat) (e : Nat → Nat) (n : Nat) : ev r e (n + 1) = ev r e n ^^^ gm (e n) (pw r n) := rfl
theorem ev_lt (r : Nat) (e : Nat → Nat) (n : Nat) : ev r e n < 256 := sm_lt n (fun _ _ => gm_lt _ _)
def hz (r : Nat) (w : Nat → Nat) : Nat → Nat
  | 0 => 0
  | j + 1 => gm (hz r w j) r ^^^ w j
theorem hz_s (r : Nat) (w : Nat → Nat) (j : Nat) : hz r w (j + 1) = gm (hz r w j) r ^^^ w j := rfl
theorem hz_lt {r : Nat} {w : Nat → Nat} : ∀ n, (∀ j, j < n → w j < 256) → hz r w n < 256 := by
  intro n
  cases n with
  | zero => intro _; show 0 < 256; decide
  | succ n => intro h; exact x8 (gm_lt _ _) (h n (by omega))
theorem hz_congr {r : Nat} {w v : Nat → Nat} : ∀ n, (∀ j, j < n → w j = v j) → hz r w n = hz r v n := by
  intro n
  induction n with
  | zero => intro _; rfl
  | succ n ih =>
    intro h
    rw [hz_s, hz_s, ih (fun j hj => h j (by omega)), h n (by omega)]
theorem hz_xor {r : Nat} {w v : Nat → Nat} : ∀ n, (∀ j, j < n → w j < 256) → (∀ j, j < n → v j < 256) → hz r (fun j => w j ^^^ v j) n = hz r w n ^^^ hz r v n := by
  intro n
  induction n with
  | zero => intro _ _; show 0 = 0 ^^^ 0; decide
  | succ n ih =>
    intro h1 h2
    rw [hz_s, hz_s, hz_s, ih (fun j hj => h1 j (by omega)) (fun j hj => h2 j (by omega)), gm_xorl r (hz_lt n (fun j hj => h1 j (by omega))) (hz_lt n (fun j hj => h2 j (by omega))), xx4]
theorem hz_ev {r n : Nat} {e : Nat → Nat} (he : ∀ k, k < n → e k < 256) : ∀ j, j ≤ n → gm (hz r (fun i => e (n - 1 - i)) j) (pw r (n - j)) ^^^ ev r e (n - j) = ev r e n := by
  intro j
  induction j with
  | zero =>
    intro _
    show gm 0 (pw r (n - 0)) ^^^ ev r e (n - 0) = ev r e n
    rw [gm_0l, Nat.zero_xor, Nat.sub_zero]
  | succ j ih =>
    intro hj
    obtain ⟨k, hk⟩ : ∃ k, n = k + (j + 1) := ⟨n - (j + 1), by omega⟩
    have h1 := ih (by omega)
    rw [show n - j = k + 1 by omega, ev_s] at h1
    rw [show n - (j + 1) = k by omega, hz_s, show n - 1 - j = k by omega, ← h1]
    have hH : hz r (fun i => e (n - 1 - i)) j < 256 := hz_lt j (fun i hi => he _ (by omega))
    rw [gm_xorl _ (gm_lt _ _) (he k (by omega)), gm_assoc]
    show _ = gm _ (gm (pw r k) r) ^^^ _
    rw [gm_comm r, Nat.xor_assoc, Nat.xor_comm (gm (e k) (pw r k))]
theorem hz_ev0 {r n : Nat} {e : Nat → Nat} (he : ∀ k, k < n → e k < 256) : hz r (fun i => e (n - 1 - i)) n = ev r e n := by
  have h := hz_ev (r := r) he n (Nat.le_refl n)
  rw [Nat.sub_self] at h
  have hH : hz r (fun i => e (n - 1 - i)) n < 256 := hz_lt n (fun i hi => he _ (by omega))
  rw [← h]
  show _ = gm _ 1 ^^^ 0
  rw [Nat.xor_zero, gm_1r hH]
theorem hz_app {r K : Nat} {w : Nat → Nat} (hw : ∀ j, w j < 256) : ∀ j, hz r w (K + j) = gm (hz r w K) (pw r j) ^^^ hz r (fun i => w (K + i)) j := by
  intro j
  induction j with
  | zero =>
    show hz r w K = gm (hz r w K) 1 ^^^ 0
    rw [Nat.xor_zero, gm_1r (hz_lt K (fun j _ => hw j))]
  | succ j ih =>
    show hz r w ((K + j) + 1) = _
    rw [hz_s, hz_s, ih, gm_xorl r (gm_lt _ _) (hz_lt j (fun i _ => hw _)), gm_assoc, Nat.xor_assoc]
    rfl
-- the check letters
def ecM (n : Nat) (e : Nat → Nat) (c : Nat) : Nat := e (n - 1) ^^^ c
def ecS (n : Nat) (g e : Nat → Nat) (c : Nat) : Nat → Nat := fun k => if k = 0 then gm (ecM n e c) (g 0) else e (k - 1) ^^^ gm (ecM n e c) (g k)
def ecF (n : Nat) (g t : Nat → Nat) : Nat → Nat → Nat
  | 0 => fun _ => 0
  | i + 1 => ecS n g (ecF n g t i) (t i)
theorem ecS_lt {n : Nat} {g e : Nat → Nat} {c : Nat} (he : ∀ k, e k < 256) (k : Nat) : ecS n g e c k < 256 := by
  unfold ecS
  split
  · exact gm_lt _ _
  · exact x8 (he _) (gm_lt _ _)
theorem ecF_lt {n : Nat} {g t : Nat → Nat} : ∀ i k, ecF n g t i k < 256 := by
  intro i
  induction i with
  | zero => intro k; show 0 < 256; decide
  | succ i ih => intro k; exact ecS_lt ih k
theorem ev_ecS {r n : Nat} {g e : Nat → Nat} {c : Nat} (he : ∀ k, e k < 256) : ∀ j, ev r (ecS n g e c) (j + 1) = gm (ecM n e c) (ev r g (j + 1)) ^^^ gm r (ev r e j) := by
  intro j
  induction j with
  | zero =>
    rw [ev_s, ev_s]
    show 0 ^^^ gm (gm (ecM n e c) (g 0)) (pw r 0) = gm (ecM n e c) (0 ^^^ gm (g 0) (pw r 0)) ^^^ gm r 0
    rw [Nat.zero_xor, Nat.zero_xor, gm_0r, Nat.xor_zero, gm_assoc]
  | succ j ih =>
    rw [ev_s, ih, ev_s r g (j + 1), ev_s r e j]
    have e1 : ecS n g e c (j + 1) = e j ^^^ gm (ecM n e c) (g (j + 1)) := by
      unfold ecS
      rw [if_neg (Nat.succ_ne_zero j)]
      rfl
    rw [e1, gm_xorl _ (he j) (gm_lt _ _), gm_xor _ (ev_lt _ _ _) (gm_lt _ _), gm_xor r (ev_lt _ _ _) (gm_lt _ _), gm_assoc (ecM n e c)]
    have e2 : gm (e j) (pw r (j + 1)) = gm r (gm (e j) (pw r j)) := by
      show gm (e j) (gm (pw r j) r) = _
      rw [← gm_assoc, gm_comm _ r]
    rw [e2, Nat.xor_comm (gm r (gm (e j) (pw r j))), xx4]
theorem ev_step {r n : Nat} {g e : Nat → Nat} {c : Nat} (hn : 0 < n) (he : ∀ k, e k < 256) (hc : c < 256) (hg : ev r g n = pw r n) : ev r (ecS n g e c) n = gm r (ev r e n) ^^^ gm c (pw r n) := by
  obtain ⟨j, rfl⟩ : ∃ j, n = j + 1 := ⟨n - 1, by omega⟩
  rw [ev_ecS he, hg, ev_s r e j, gm_xor r (ev_lt _ _ _) (gm_lt _ _)]
  have e0 : ecM (j + 1) e c = e j ^^^ c := rfl
  have e2 : gm r (gm (e j) (pw r j)) = gm (e j) (pw r (j + 1)) := by
    show _ = gm (e j) (gm (pw r j) r)
    rw [← gm_assoc (e j), gm_comm _ r]
  rw [e0, gm_xorl _ (he j) hc, e2, Nat.xor_comm (gm (e j) (pw r (j + 1)) ^^^ gm c (pw r (j + 1))), Nat.xor_assoc]
theorem ev_ecF {r n : Nat} {g t : Nat → Nat} (hn : 0 < n) (ht : ∀ j, t j < 256) (hg : ev r g n = pw r n) : ∀ i, ev r (ecF n g t i) n = gm (hz r t i) (pw r n) := by
  intro i
  induction i with
  | zero =>
    show ev r (fun _ => 0) n = gm 0 (pw r n)
    rw [gm_0l]
    exact sm_zero n (fun k _ => gm_0l _)
  | succ i ih =>
    show ev r (ecS n g (ecF n g t i) (t i)) n = _
    rw [ev_step hn (ecF_lt i) (ht i) hg, ih, hz_s, gm_xorl _ (gm_lt _ _) (ht i), ← gm_assoc r, gm_comm r]
/-- the whole word: K letters, then n check letters -/
def wd (K n : Nat) (g t : Nat → Nat) : Nat → Nat := fun j => if j < K then t j else ecF n g t K (n - 1 - (j - K))
theorem wd_lt {K n : Nat} {g t : Nat → Nat} (ht : ∀ j, t j < 256) (j : Nat) : wd K n g t j < 256 := by
  unfold wd
  split
  · exact ht j
  · exact ecF_lt _ _
theorem wd_root {r K n : Nat} {g t : Nat → Nat} (hn : 0 < n) (ht : ∀ j, t j < 256) (hg : ev r g n = pw r n) : hz r (wd K n g t) (K + n) = 0 := by
  rw [hz_app (wd_lt ht) n]
  have e1 : hz r (wd K n g t) K = hz r t K := hz_congr K (fun j hj => by unfold wd; rw [if_pos hj])
  have e2 : (fun i => wd K n g t (K + i)) = fun i => ecF n g t K (n - 1 - i) := by
    funext i
    unfold wd
    rw [if_neg (by omega), Nat.add_sub_cancel_left]
  rw [e1, e2, hz_ev0 (fun k _ => ecF_lt K k), ev_ecF hn ht hg, Nat.xor_self]
-- kinds
def gf_R (k : Nat) : Nat := gf_RL.getD k 0
def gf_C (k : Nat) : Nat := gf_CL.getD k 0
def gf_T (k : Nat) : Nat := gf_TL.getD k 0
def gf_S (i : Nat) : Nat := gf_SL.getD i 0
def gf_P (i j : Nat) : Nat := (gf_FL.getD i []).getD j 0
theorem gf_kind : ∀ k, k < 10 → (3 ≤ gf_R k ∧ gf_R k ≤ 62 ∧ 5 ≤ gf_C k ∧ gf_C k ≤ 36 ∧ gf_T k < 16 ∧ gf_S (gf_T k) = gf_C k ∧ (gf_FL.getD (gf_T k) []).length = gf_C k) := by decide +kernel
theorem gf_first : ∀ k, k < 10 → ∀ i, i < gf_T k → gf_S i ≠ gf_C k := by decide +kernel
theorem gf_P_ok : ∀ k, k < 10 → ∀ j, j < gf_C k → (gf_P (gf_T k) j < 256 ∧ gf_P (gf_T k) j ≠ 0) := by decide +kernel
theorem gf_gen0 : ∀ k, k < 10 → ∀ i, i < gf_C k → hz (gf_A (i + 1)) (fun j => gf_P (gf_T k) (gf_C k - 1 - j)) (gf_C k) = pw (gf_A (i + 1)) (gf_C k) := by decide +kernel
theorem gf_gen {k i : Nat} (hk : k < 10) (hi : i < gf_C k) : ev (gf_A (i + 1)) (gf_P (gf_T k)) (gf_C k) = pw (gf_A (i + 1)) (gf_C k) := by
  rw [← hz_ev0 (fun j hj => (gf_P_ok k hk j hj).1)]
  exact gf_gen0 k hk i hi
/-- the word of kind k out of the letters t -/
def gw (k : Nat) (t : Nat → Nat) : Nat → Nat := wd (gf_R k) (gf_C k) (gf_P (gf_T k)) t
def gn (k : Nat) : Nat := gf_R k + gf_C k
theorem gn_le {k : Nat} (hk : k < 10) : 8 ≤ gn k ∧ gn k ≤ 98 := by
  have h := gf_kind k hk
  unfold gn
  omega
theorem gw_lt {k : Nat} {t : Nat → Nat} (ht : ∀ j, t j < 256) (j : Nat) : gw k t j < 256 := wd_lt ht j
theorem gw_in {k : Nat} {t : Nat → Nat} {j : Nat} (hj : j < gf_R k) : gw k t j = t j := by
  unfold gw wd
  rw [if_pos hj]
theorem gw_root {k i : Nat} {t : Nat → Nat} (hk : k < 10) (hi : i < gf_C k) (ht : ∀ j, t j < 256) : hz (gf_A (i + 1)) (gw k t) (gn k) = 0 :=
  wd_root (by have := gf_kind k hk; omega) ht (gf_gen hk hi)
-- the distance
def cn (p : Nat → Bool) : Nat → Nat
  | 0 => 0
  | j + 1 => cn p j + (if p j = true then 1 else 0)
theorem cn_s (p : Nat → Bool) (j : Nat) : cn p (j + 1) = cn p j + (if p j = true then 1 else 0) := rfl
theorem cn_zero {p : Nat → Bool} : ∀ n, cn p n = 0 → ∀ k, k < n → p k = false := by
  intro n
  induction n with
  | zero => intro _ k h; exact absurd h (Nat.not_lt_zero _)
  | succ n ih =>
    intro h k hk
    rw [cn_s] at h
    by_cases e : k = n
    · subst e
      cases hp : p k with
      | false => rfl
      | true => rw [hp] at h; simp at h
    · exact ih (by omega) k (by omega)
theorem cn_none {p : Nat → Bool} : ∀ n, (∀ k, k < n → p k = false) → cn p n = 0 := by
  intro n
  induction n with
  | zero => intro _; rfl
  | succ n ih =>
    intro h
    rw [cn_s, ih (fun k hk => h k (by omega)), h n (by omega)]
    rfl
theorem cn_le {p q : Nat → Bool} : ∀ n, (∀ k, k < n → p k = true → q k = true) → cn p n ≤ cn q n := by
  intro n
  induction n with
  | zero => intro _; exact Nat.le_refl _
  | succ n ih =>
    intro h
    have h1 := ih (fun k hk => h k (by omega))
    rw [cn_s, cn_s]
    cases hp : p n with
    | false => simp; omega
    | true => rw [h n (by omega) hp]; simp; omega
theorem cn_lt {p q : Nat → Bool} {k0 : Nat} : ∀ n, k0 < n → p k0 = false → q k0 = true → (∀ k, k < n → p k = true → q k = true) → cn p n < cn q n := by
  intro n
  induction n with
  | zero => intro h; exact absurd h (Nat.not_lt_zero _)
  | succ n ih =>
    intro h hp hq hh
    rw [cn_s, cn_s]
    by_cases e : k0 = n
    · subst e
      have h1 := cn_le (p := p) (q := q) k0 (fun k hk => hh k (by omega))
      rw [hp, hq]
      simp
      omega
    · have h1 := ih (by omega) hp hq (fun k hk => hh k (by omega))
      cases hpn : p n with
      | false => simp; omega
      | true => rw [hh n (by omega) hpn]; simp; omega
theorem cn_rev {p : Nat → Bool} {N : Nat} : ∀ j, j ≤ N → cn (fun k => p (N - 1 - k)) j + cn p (N - j) = cn p N := by
  intro j
  induction j with
  | zero => intro _; show 0 + cn p (N - 0) = cn p N; rw [Nat.sub_zero, Nat.zero_add]
  | succ j ih =>
    intro hj
    obtain ⟨k, hk⟩ : ∃ k, N = k + (j + 1) := ⟨N - (j + 1), by omega⟩
    have h1 := ih (by omega)
    rw [show N - j = k + 1 by omega, cn_s p k] at h1
    rw [show N - (j + 1) = k by omega, cn_s, show N - 1 - j = k by omega]
    omega
theorem pw_nz {x : Nat} (hx : x ≠ 0) : ∀ i, pw x i ≠ 0 := by
  intro i
  induction i with
  | zero => show 1 ≠ 0; decide
  | succ i ih => exact gm_nz ih hx
theorem xor_nz {a b : Nat} (h : a ≠ b) : a ^^^ b ≠ 0 := fun e => h (by
  have h1 : (a ^^^ b) ^^^ b = 0 ^^^ b := by rw [e]
  rwa [Nat.xor_assoc, Nat.xor_self, Nat.xor_zero, Nat.zero_xor] at h1)
/-- few letters, many sums that vanish: all letters vanish -/
theorem gf_mds {N : Nat} {x : Nat → Nat} (hx : ∀ k, k < N → x k < 256 ∧ x k ≠ 0) (hi : ∀ j k, j < N → k < N → x j = x k → j = k) : ∀ (n : Nat) (e : Nat → Nat), (∀ k, e k < 256) → (∀ i, 1 ≤ i → i ≤ n → sm (fun k => gm (e k) (pw (x k) i)) N = 0) → cn (fun k => !(e k == 0)) N ≤ n → ∀ k, k < N → e k = 0 := by
  intro n
  induction n with
  | zero =>
    intro e _ _ h k hk
    have h1 := cn_zero (p := fun k => !(e k == 0)) N (by omega) k hk
    simpa using h1
  | succ n ih =>
    intro e he hs hc
    by_cases hz : ∀ k, k < N → e k = 0
    · exact hz
    · exfalso
      have hk0 : ∃ k0, k0 < N ∧ e k0 ≠ 0 := by
        refine Classical.byContradiction fun hn => hz fun k hk => ?_
        by_cases h : e k = 0
        · exact h
        · exact absurd ⟨k, hk, h⟩ hn
      obtain ⟨k0, hk0, h0⟩ := hk0
      have h2 := ih (fun k => gm (e k) (x k ^^^ x k0)) (fun k => gm_lt _ _) (fun i h1 h2 => by
        have a1 := hs i h1 (by omega)
        have a2 := hs (i + 1) (by omega) (by omega)
        have a3 : sm (fun k => gm (gm (e k) (x k ^^^ x k0)) (pw (x k) i)) N = sm (fun k => gm (e k) (pw (x k) (i + 1)) ^^^ gm (x k0) (gm (e k) (pw (x k) i))) N := by
          refine sm_congr N (fun k hk => ?_)
          rw [gm_xor (e k) (hx k hk).1 (hx k0 hk0).1, gm_xorl _ (gm_lt _ _) (gm_lt _ _)]
          congr 1
          · show _ = gm (e k) (gm (pw (x k) i) (x k))
            rw [gm_assoc, gm_comm (x k)]
          · rw [gm_comm (e k) (x k0), gm_assoc]
        rw [a3, sm_xor, a2, ← sm_mul (x k0) N (fun k _ => gm_lt _ _), a1, gm_0r]
        rfl) (by
        have hlt : cn (fun k => !(gm (e k) (x k ^^^ x k0) == 0)) N < cn (fun k => !(e k == 0)) N := by
          refine cn_lt N hk0 ?_ ?_ ?_
          · simp [Nat.xor_self, gm_0r]
          · simpa using h0
          · intro k _ h
            have h9 : gm (e k) (x k ^^^ x k0) ≠ 0 := by simpa using h
            have h8 : e k ≠ 0 := fun q => h9 (by rw [q, gm_0l])
            simpa using h8
        omega)
      have h3 : ∀ k, k < N → k ≠ k0 → e k = 0 := fun k hk hne => by
        by_cases h : e k = 0
        · exact h
        · exact absurd (h2 k hk) (gm_nz h (xor_nz (fun q => hne (hi k k0 hk hk0 q))))
      have h4 := hs 1 (by omega) (by omega)
      rw [sm_one N hk0 (fun k hk hne => by rw [h3 k hk hne, gm_0l])] at h4
      exact absurd h4 (gm_nz h0 (pw_nz (hx k0 hk0).2 1))
theorem pw_A {a : Nat} (ha : a < 255) : ∀ k, pw (gf_A a) k = gf_A (a * k % 255) := by
  intro k
  induction k with
  | zero => show 1 = gf_A (a * 0 % 255); rw [Nat.mul_zero, Nat.zero_mod, gf_A0]
  | succ k ih =>
    show gm (pw (gf_A a) k) (gf_A a) = _
    rw [ih, gm_n (gf_LA _ (gf_m _)).2.2 (gf_LA _ ha).2.2, (gf_LA _ (gf_m _)).1, (gf_LA _ ha).1, Nat.mul_succ]
    congr 1
    omega
/-- two words of one kind: the same, or unlike in more than n places -/
theorem gw_far {k : Nat} {t u : Nat → Nat} (hk : k < 10) (ht : ∀ j, t j < 256) (hu : ∀ j, u j < 256) : cn (fun j => !(gw k t j == gw k u j)) (gn k) = 0 ∨ gf_C k < cn (fun j => !(gw k t j == gw k u j)) (gn k) := by
  by_cases hc : cn (fun j => !(gw k t j == gw k u j)) (gn k) ≤ gf_C k
  · left
    obtain ⟨hg1, hg2⟩ := gn_le hk
    have hkc := gf_kind k hk
    have hall := gf_mds (N := gn k) (x := gf_A) (fun j hj => ⟨gf_At j, (gf_LA j (by omega)).2.2⟩) (fun i j h1 h2 q => by
      have q1 := (gf_LA i (by omega)).1
      have q2 := (gf_LA j (by omega)).1
      rw [q] at q1
      omega) (gf_C k) (fun j => gw k t (gn k - 1 - j) ^^^ gw k u (gn k - 1 - j)) (fun j => x8 (gw_lt ht _) (gw_lt hu _)) (fun i h1 h2 => by
        have a1 : hz (gf_A i) (fun j => gw k t j ^^^ gw k u j) (gn k) = 0 := by
          obtain ⟨i', rfl⟩ : ∃ i', i = i' + 1 := ⟨i - 1, by omega⟩
          rw [hz_xor (gn k) (fun j _ => gw_lt ht j) (fun j _ => gw_lt hu j), gw_root hk (by omega) ht, gw_root hk (by omega) hu]
          rfl
        have a2 := hz_ev0 (r := gf_A i) (n := gn k) (e := fun j => gw k t (gn k - 1 - j) ^^^ gw k u (gn k - 1 - j)) (fun j _ => x8 (gw_lt ht _) (gw_lt hu _))
        rw [hz_congr (v := fun j => gw k t j ^^^ gw k u j) (gn k) (fun j hj => by
          show gw k t (gn k - 1 - (gn k - 1 - j)) ^^^ gw k u (gn k - 1 - (gn k - 1 - j)) = _
          rw [show gn k - 1 - (gn k - 1 - j) = j by omega]), a1] at a2
        refine Eq.trans (sm_congr (gn k) (fun j hj => ?_)) a2.symm
        rw [pw_A (by omega), pw_A (by omega), Nat.mul_comm]) (by
        have h9 : cn (fun j => !((gw k t (gn k - 1 - j) ^^^ gw k u (gn k - 1 - j)) == 0)) (gn k) ≤ cn (fun j => (fun i => !(gw k t i == gw k u i)) (gn k - 1 - j)) (gn k) := by
          refine cn_le (gn k) (fun j _ h => ?_)
          have h8 : gw k t (gn k - 1 - j) ^^^ gw k u (gn k - 1 - j) ≠ 0 := by simpa using h
          have h7 : gw k t (gn k - 1 - j) ≠ gw k u (gn k - 1 - j) := fun q => h8 (by rw [q, Nat.xor_self])
          simpa using h7
        have h6 := cn_rev (p := fun i => !(gw k t i == gw k u i)) (N := gn k) (gn k) (Nat.le_refl _)
        have h5 : cn (fun i => !(gw k t i == gw k u i)) 0 = 0 := rfl
        rw [Nat.sub_self, h5, Nat.add_zero] at h6
        exact Nat.le_trans h9 (Nat.le_trans (Nat.le_of_eq h6) hc))
    refine cn_none (gn k) (fun j hj => ?_)
    have h1 := hall (gn k - 1 - j) (by omega)
    simp only [show gn k - 1 - (gn k - 1 - j) = j by omega] at h1
    have h2 : gw k t j = gw k u j := by
      by_cases q : gw k t j = gw k u j
      · exact q
      · exact absurd h1 (xor_nz q)
    simp [h2]
  · right
    omega
end
section
-- ===== PART A: goes FIRST, ahead of the names: the tables' words, and 'selects' of the private methods out of them =====
/-- a private method of a class that the tables say can be made, by its rows of tables_1 -/
def lw_okq (q : MethodName × Nat) : Prop := (q.1.cls ≠ "java/lang/invoke/MethodHandle" ∧ q.1.cls ≠ "java/lang/invoke/VarHandle") ∧ Cond.instantiable q.1.cls q.2 ∈ tables_1 ∧ Cond.privateMethod q.1 ∈ tables_1 ∧ Cond.instanceMethod q.1 ∈ tables_1
set_option maxRecDepth 100000
theorem lw_t1 {w : Cond} (h : w ∈ tables_1_1) : w ∈ tables_1 := List.mem_append_left _ h
theorem lw_t2 {w : Cond} (h : w ∈ tables_1_2) : w ∈ tables_1 := List.mem_append_right _ (List.mem_append_left _ h)
theorem lw_t3 {w : Cond} (h : w ∈ tables_1_3) : w ∈ tables_1 := List.mem_append_right _ (List.mem_append_right _ h)
theorem lw_p0 : lw_okq (⟨"java/lang/Throwable", "fillInStackTrace", "(I)Ljava/lang/Throwable;"⟩, 6) := ⟨⟨by decide +kernel, by decide +kernel⟩, lw_t2 (List.mem_of_getElem? (i := 18) rfl), lw_t2 (List.mem_of_getElem? (i := 16) rfl), lw_t2 (List.mem_of_getElem? (i := 17) rfl)⟩
def lw_privs_1 : List (MethodName × Nat) := [(⟨"java/lang/Throwable", "fillInStackTrace", "(I)Ljava/lang/Throwable;"⟩, 6)]
theorem lw_r1 : ∀ q ∈ lw_privs_1, lw_okq q := List.forall_mem_cons.mpr ⟨lw_p0, fun _ h => absurd h List.not_mem_nil⟩
def lw_privs : List (MethodName × Nat) := lw_privs_1
def lw_tbl : List Cond := k2_sels lw_privs ++ tables_1
theorem lw_privs_ok : ∀ q ∈ lw_privs, lw_okq q := lw_r1
-- ===== ONE list of words for every method: the tables' words that hold all through a run =====
def lw_all : List Cond := lw_tbl.filter goodWord
/-- a word of the tables by its place: claim/WORDS.tsv -/
theorem lw_w {w : Cond} (i : Nat) (h : lw_tbl[i]? = some w) (g : goodWord w = true) : w ∈ lw_all := List.mem_filter.mpr ⟨List.mem_of_getElem? h, g⟩
theorem lw_all_tbl {w : Cond} (h : w ∈ lw_all) : w ∈ lw_tbl := (List.mem_filter.mp h).1
theorem lw_self : GoodIn lw_all lw_all := fun w h => ⟨h, good_of_word (List.mem_filter.mp h).2⟩
/-- a class's field words, by their places -/
theorem lw_in (ws : List Cond) (ps : List Nat) (hp : ws = ps.filterMap (fun i => lw_tbl[i]?)) (hg : ws.all goodWord = true) : ∀ w ∈ ws, w ∈ lw_all := by
  intro w h
  have h1 := List.all_eq_true.mp hg w h
  rw [hp] at h
  obtain ⟨i, -, hi⟩ := List.mem_filterMap.mp h
  exact lw_w i hi h1
/-- the words of a contract for the method y with code b, L locals, answer r -/
abbrev ws_ (y : MethodName) (b : ByteArray) (L : Nat) (r : Option FieldType) : List Cond := Cond.code y b L r :: lw_all
theorem lw_meth {y : MethodName} {b : ByteArray} {L : Nat} {r : Option FieldType} (h : Cond.code y b L r ∈ lw_all) : GoodIn lw_all (ws_ y b L r) := by
  intro w hw
  rcases List.mem_cons.mp hw with e | e
  · rw [e]
    exact lw_self _ h
  · exact lw_self _ e
theorem lw_app {a c : List Cond} (ha : ∀ w ∈ a, w ∈ lw_all) (hc : GoodIn lw_all c) : GoodIn lw_all (a ++ c) := by
  intro w hw
  rcases List.mem_append.mp hw with e | e
  · exact lw_self w (ha w e)
  · exact hc w e
/-- what a call through an object asks: cwV n hts (lw_V ..) -/
theorem lw_V {own : String} {idx : Nat} {C : String} {y : MethodName} {b : ByteArray} {L : Nat} {r : Option FieldType} (h1 : Cond.methodLink own idx y ∈ lw_all) (h2 : Cond.instanceMethod y ∈ lw_all) (h3 : Cond.selects C y y ∈ lw_all) (h4 : Cond.initialized C ∈ lw_all) (h5 : Cond.code y b L r ∈ lw_all) : GoodIn lw_all (wsV own idx C y (ws_ y b L r)) := by
  refine lw_app ?_ (lw_meth h5)
  intro w hw
  simp only [List.mem_cons, List.not_mem_nil, or_false] at hw
  rcases hw with e | e | e | e
  · rw [e]; exact h1
  · rw [e]; exact h2
  · rw [e]; exact h3
  · rw [e]; exact h4
/-- what a static call asks: va_cwS n hts (lw_S ..) -/
theorem lw_S {own : String} {idx : Nat} {y : MethodName} {b : ByteArray} {L : Nat} {r : Option FieldType} (h1 : Cond.methodLink own idx y ∈ lw_all) (h2 : Cond.static y ∈ lw_all) (h3 : Cond.initialized y.cls ∈ lw_all) (h4 : Cond.code y b L r ∈ lw_all) : GoodIn lw_all (va_wsS own idx y (ws_ y b L r)) := by
  refine lw_app ?_ (lw_meth h4)
  intro w hw
  simp only [List.mem_cons, List.not_mem_nil, or_false] at hw
  rcases hw with e | e | e
  · rw [e]; exact h1
  · rw [e]; exact h2
  · rw [e]; exact h3
/-- the words of a contract for a method WITH HANDLERS (hh: its table) -/
abbrev wsW_ (y : MethodName) (b : ByteArray) (L : Nat) (r : Option FieldType) (hh : List (Nat × Nat × Nat × Nat)) : List Cond := Cond.codeWith y b L r hh :: lw_all
theorem lw_methW {y : MethodName} {b : ByteArray} {L : Nat} {r : Option FieldType} {hh : List (Nat × Nat × Nat × Nat)} (h : Cond.codeWith y b L r hh ∈ lw_all) : GoodIn lw_all (wsW_ y b L r hh) := by
  intro w hw
  rcases List.mem_cons.mp hw with e | e
  · rw [e]
    exact lw_self _ h
  · exact lw_self _ e
/-- any list of words by their places (lw_in), good -/
theorem lw_good {ws : List Cond} (h : ∀ w ∈ ws, w ∈ lw_all) : GoodIn lw_all ws := fun w hw => lw_self w (h w hw)
/-- what a call of a method with handlers asks: vx_cwVW n hts (lw_VW ..), vx_cwSW n hts (lw_SW ..) -/
theorem lw_VW {own : String} {idx : Nat} {C : String} {y : MethodName} {b : ByteArray} {L : Nat} {r : Option FieldType} {hh : List (Nat × Nat × Nat × Nat)} (h1 : Cond.methodLink own idx y ∈ lw_all) (h2 : Cond.instanceMethod y ∈ lw_all) (h3 : Cond.selects C y y ∈ lw_all) (h4 : Cond.initialized C ∈ lw_all) (h5 : Cond.codeWith y b L r hh ∈ lw_all) : GoodIn lw_all (wsV own idx C y (wsW_ y b L r hh)) := by
  refine lw_app ?_ (lw_methW h5)
  intro w hw
  simp only [List.mem_cons, List.not_mem_nil, or_false] at hw
  rcases hw with e | e | e | e
  · rw [e]; exact h1
  · rw [e]; exact h2
  · rw [e]; exact h3
  · rw [e]; exact h4
theorem lw_SW {own : String} {idx : Nat} {y : MethodName} {b : ByteArray} {L : Nat} {r : Option FieldType} {hh : List (Nat × Nat × Nat × Nat)} (h1 : Cond.methodLink own idx y ∈ lw_all) (h2 : Cond.static y ∈ lw_all) (h3 : Cond.initialized y.cls ∈ lw_all) (h4 : Cond.codeWith y b L r hh ∈ lw_all) : GoodIn lw_all (va_wsS own idx y (wsW_ y b L r hh)) := by
  refine lw_app ?_ (lw_methW h4)
  intro w hw
  simp only [List.mem_cons, List.not_mem_nil, or_false] at hw
  rcases hw with e | e | e
  · rw [e]; exact h1
  · rw [e]; exact h2
  · rw [e]; exact h3
/-- a word by its place in its run of the tables -/
theorem lw_at {r : List Cond} (hr : ∀ w ∈ r, w ∈ lw_tbl) {w : Cond} (i : Nat) (h : r[i]? = some w) : w ∈ lw_tbl := hr w (List.mem_of_getElem? h)
theorem lw_g {w : Cond} (h : w ∈ lw_tbl) (g : goodWord w = true) : w ∈ lw_all := List.mem_filter.mpr ⟨h, g⟩
theorem lw_ms : ∀ w ∈ k2_sels lw_privs, w ∈ lw_tbl := fun w h => show w ∈ k2_sels lw_privs ++ tables_1 from List.mem_append_left _ h
theorem lw_m1 : ∀ w ∈ tables_1_1, w ∈ lw_tbl := fun w h => show w ∈ k2_sels lw_privs ++ tables_1 from List.mem_append_right (k2_sels lw_privs) (show w ∈ tables_1 from List.mem_append_left _ h)
theorem lw_m2 : ∀ w ∈ tables_1_2, w ∈ lw_tbl := fun w h => show w ∈ k2_sels lw_privs ++ tables_1 from List.mem_append_right (k2_sels lw_privs) (show w ∈ tables_1 from List.mem_append_right _ (List.mem_append_left _ h))
theorem lw_m3 : ∀ w ∈ tables_1_3, w ∈ lw_tbl := fun w h => show w ∈ k2_sels lw_privs ++ tables_1 from List.mem_append_right (k2_sels lw_privs) (show w ∈ tables_1 from List.mem_append_right _ (List.mem_append_right _ h))
theorem qs0 : (Cond.selects "java/lang/Throwable" ⟨"java/lang/Throwable", "fillInStackTrace", "(I)Ljava/lang/Throwable;"⟩ ⟨"java/lang/Throwable", "fillInStackTrace", "(I)Ljava/lang/Throwable;"⟩) ∈ lw_all := lw_g (lw_at lw_ms 0 rfl) rfl
/-! DECODE ROWS BY BYTES: one lemma an opcode; a method's code is cut into short pieces once, and a row reads its own piece alone. -/
set_option maxRecDepth 100000
/-- the code has just these bytes from pc on -/
def DkAt (code : ByteArray) (pc : Nat) (bs : List UInt8) : Prop := ∀ (j : Nat) (b : UInt8), bs[j]? = some b → code.data.toList[pc + j]? = some b
/-- the piece W has the bytes bs from its place j on -/
def dkIn (W : List UInt8) (j : Nat) (bs : List UInt8) : Bool := decide ((W.drop j).take bs.length = bs)
theorem dk_seg {l W T : List UInt8} {o o2 : Nat} (h : l.drop o = W ++ T) (n : Nat) (hn : W.length = n) (ho : o + n = o2) : l.drop o2 = T := by
  subst ho
  rw [← List.drop_drop, h, List.drop_left' hn]
theorem dk_at {code : ByteArray} {W T bs : List UInt8} {o pc : Nat} (h : code.data.toList.drop o = W ++ T) (j : Nat) (hp : o + j = pc) (hw : dkIn W j bs = true) : DkAt code pc bs := by
  subst hp
  intro i b e
  have h1 := of_decide_eq_true hw
  have h2 : i < bs.length := (List.getElem?_eq_some_iff.mp e).1
  have h3 : W[j + i]? = some b := by
    rw [← h1, List.getElem?_take, if_pos h2, List.getElem?_drop] at e
    exact e
  have h4 : j + i < W.length := (List.getElem?_eq_some_iff.mp h3).1
  have h5 : (code.data.toList.drop o)[j + i]? = some b := by
    rw [h, List.getElem?_append_left h4]
    exact h3
  rw [List.getElem?_drop, ← Nat.add_assoc] at h5
  exact h5
theorem dk_u1 {A : ByteArray} {p : Nat} {b : UInt8} (h : A.data.toList[p]? = some b) : (Reader.u1 : Reader DecodeError Nat) A p = .ok (b.toNat, p + 1) := by
  obtain ⟨h1, h2⟩ := List.getElem?_eq_some_iff.mp h
  have h3 : p < A.size := by simpa using h1
  have h4 : A[p]'h3 = b := h2
  have e : (Reader.u1 : Reader DecodeError Nat) A p = (if h : p < A.size then .ok (A[p].toNat, p + 1) else .error (HasTruncated.truncated p)) := by
    show (do if h : p < A.size then do set (p + 1); Pure.pure A[p].toNat else MonadExcept.throw (HasTruncated.truncated p) : Reader DecodeError Nat) A p = _
    by_cases hi : p < A.size
    · rw [dif_pos hi, dif_pos hi]; rfl
    · rw [dif_neg hi, dif_neg hi]; rfl
  rw [e, dif_pos h3, h4]
theorem dk_bind {α β : Type} {r : Reader DecodeError α} {f : α → Reader DecodeError β} {A : ByteArray} {p s : Nat} {a : α} (h : r A p = .ok (a, s)) : (r >>= f) A p = f a A s := by
  show (do let (a, s) ← r A p; f a A s : Except DecodeError (β × Nat)) = _
  rw [h]
  rfl
theorem dk_map {α β : Type} {r : Reader DecodeError α} {g : α → β} {A : ByteArray} {p s : Nat} {a : α} (h : r A p = .ok (a, s)) : (g <$> r) A p = .ok (g a, s) := by
  show (do let (a, s) ← r A p; .ok (g a, s) : Except DecodeError (β × Nat)) = _
  rw [h]
  rfl
theorem dk_u2 {A : ByteArray} {p : Nat} {a b : UInt8} (h : A.data.toList[p]? = some a) (h2 : A.data.toList[p + 1]? = some b) : (Reader.u2 : Reader DecodeError Nat) A p = .ok (a.toNat * 256 + b.toNat, p + 2) := by
  show (Reader.u1 >>= fun hi => Reader.u1 >>= fun lo => Pure.pure (hi * 256 + lo) : Reader DecodeError Nat) A p = _
  rw [dk_bind (dk_u1 h), dk_bind (dk_u1 h2)]
  rfl
theorem dk_of {code : ByteArray} {pc n : Nat} {i : Instr} (h : Decoder.instr pc code pc = .ok (i, pc + n)) : decode code pc = .ok (i, n) := by
  have e : decode code pc = (match Decoder.instr pc code pc with | .error x => .error x | .ok (j, s) => .ok (j, s - pc)) := by
    show (do let (j, s) ← Decoder.instr pc code pc; Pure.pure (j, s - pc) : Except DecodeError (Instr × Nat)) = _
    cases Decoder.instr pc code pc <;> rfl
  rw [e, h]
  show Except.ok (i, pc + n - pc) = _
  rw [Nat.add_sub_cancel_left]
theorem dk_1 {code : ByteArray} {pc : Nat} (h : DkAt code pc [1]) : decode code pc = .ok (.aconst_null, 1) := dk_of ((dk_bind (dk_u1 (h 0 _ rfl))).trans rfl)
theorem dk_2 {code : ByteArray} {pc : Nat} (h : DkAt code pc [2]) : decode code pc = .ok (.iconst (-1), 1) := dk_of ((dk_bind (dk_u1 (h 0 _ rfl))).trans rfl)
theorem dk_3 {code : ByteArray} {pc : Nat} (h : DkAt code pc [3]) : decode code pc = .ok (.iconst 0, 1) := dk_of ((dk_bind (dk_u1 (h 0 _ rfl))).trans rfl)
theorem dk_4 {code : ByteArray} {pc : Nat} (h : DkAt code pc [4]) : decode code pc = .ok (.iconst 1, 1) := dk_of ((dk_bind (dk_u1 (h 0 _ rfl))).trans rfl)
theorem dk_5 {code : ByteArray} {pc : Nat} (h : DkAt code pc [5]) : decode code pc = .ok (.iconst 2, 1) := dk_of ((dk_bind (dk_u1 (h 0 _ rfl))).trans rfl)
theorem dk_7 {code : ByteArray} {pc : Nat} (h : DkAt code pc [7]) : decode code pc = .ok (.iconst 4, 1) := dk_of ((dk_bind (dk_u1 (h 0 _ rfl))).trans rfl)
theorem dk_16 {code : ByteArray} {pc : Nat} (a : UInt8) (h : DkAt code pc [16, a]) : decode code pc = .ok (.bipush (Reader.signed 8 a.toNat), 2) := dk_of ((dk_bind (dk_u1 (h 0 _ rfl))).trans ((dk_bind (dk_map (dk_u1 (h 1 _ rfl)))).trans rfl))
theorem dk_17 {code : ByteArray} {pc : Nat} (a b : UInt8) (h : DkAt code pc [17, a, b]) : decode code pc = .ok (.sipush (Reader.signed 16 (a.toNat * 256 + b.toNat)), 3) := dk_of ((dk_bind (dk_u1 (h 0 _ rfl))).trans ((dk_bind (dk_map (dk_u2 (h 1 _ rfl) (h 2 _ rfl)))).trans rfl))
theorem dk_18 {code : ByteArray} {pc : Nat} (a : UInt8) (h : DkAt code pc [18, a]) : decode code pc = .ok (.ldc a.toNat, 2) := dk_of ((dk_bind (dk_u1 (h 0 _ rfl))).trans ((dk_bind (dk_u1 (h 1 _ rfl))).trans rfl))
theorem dk_19 {code : ByteArray} {pc : Nat} (a b : UInt8) (h : DkAt code pc [19, a, b]) : decode code pc = .ok (.ldc_w (a.toNat * 256 + b.toNat), 3) := dk_of ((dk_bind (dk_u1 (h 0 _ rfl))).trans ((dk_bind (dk_u2 (h 1 _ rfl) (h 2 _ rfl))).trans rfl))
theorem dk_21 {code : ByteArray} {pc : Nat} (a : UInt8) (h : DkAt code pc [21, a]) : decode code pc = .ok (.iload a.toNat, 2) := dk_of ((dk_bind (dk_u1 (h 0 _ rfl))).trans ((dk_bind (dk_u1 (h 1 _ rfl))).trans rfl))
theorem dk_25 {code : ByteArray} {pc : Nat} (a : UInt8) (h : DkAt code pc [25, a]) : decode code pc = .ok (.aload a.toNat, 2) := dk_of ((dk_bind (dk_u1 (h 0 _ rfl))).trans ((dk_bind (dk_u1 (h 1 _ rfl))).trans rfl))
theorem dk_26 {code : ByteArray} {pc : Nat} (h : DkAt code pc [26]) : decode code pc = .ok (.iload_n 0, 1) := dk_of ((dk_bind (dk_u1 (h 0 _ rfl))).trans rfl)
theorem dk_27 {code : ByteArray} {pc : Nat} (h : DkAt code pc [27]) : decode code pc = .ok (.iload_n 1, 1) := dk_of ((dk_bind (dk_u1 (h 0 _ rfl))).trans rfl)
theorem dk_28 {code : ByteArray} {pc : Nat} (h : DkAt code pc [28]) : decode code pc = .ok (.iload_n 2, 1) := dk_of ((dk_bind (dk_u1 (h 0 _ rfl))).trans rfl)
theorem dk_29 {code : ByteArray} {pc : Nat} (h : DkAt code pc [29]) : decode code pc = .ok (.iload_n 3, 1) := dk_of ((dk_bind (dk_u1 (h 0 _ rfl))).trans rfl)
theorem dk_42 {code : ByteArray} {pc : Nat} (h : DkAt code pc [42]) : decode code pc = .ok (.aload_n 0, 1) := dk_of ((dk_bind (dk_u1 (h 0 _ rfl))).trans rfl)
theorem dk_43 {code : ByteArray} {pc : Nat} (h : DkAt code pc [43]) : decode code pc = .ok (.aload_n 1, 1) := dk_of ((dk_bind (dk_u1 (h 0 _ rfl))).trans rfl)
theorem dk_44 {code : ByteArray} {pc : Nat} (h : DkAt code pc [44]) : decode code pc = .ok (.aload_n 2, 1) := dk_of ((dk_bind (dk_u1 (h 0 _ rfl))).trans rfl)
theorem dk_45 {code : ByteArray} {pc : Nat} (h : DkAt code pc [45]) : decode code pc = .ok (.aload_n 3, 1) := dk_of ((dk_bind (dk_u1 (h 0 _ rfl))).trans rfl)
theorem dk_46 {code : ByteArray} {pc : Nat} (h : DkAt code pc [46]) : decode code pc = .ok (.iaload, 1) := dk_of ((dk_bind (dk_u1 (h 0 _ rfl))).trans rfl)
theorem dk_50 {code : ByteArray} {pc : Nat} (h : DkAt code pc [50]) : decode code pc = .ok (.aaload, 1) := dk_of ((dk_bind (dk_u1 (h 0 _ rfl))).trans rfl)
theorem dk_51 {code : ByteArray} {pc : Nat} (h : DkAt code pc [51]) : decode code pc = .ok (.baload, 1) := dk_of ((dk_bind (dk_u1 (h 0 _ rfl))).trans rfl)
theorem dk_52 {code : ByteArray} {pc : Nat} (h : DkAt code pc [52]) : decode code pc = .ok (.caload, 1) := dk_of ((dk_bind (dk_u1 (h 0 _ rfl))).trans rfl)
theorem dk_54 {code : ByteArray} {pc : Nat} (a : UInt8) (h : DkAt code pc [54, a]) : decode code pc = .ok (.istore a.toNat, 2) := dk_of ((dk_bind (dk_u1 (h 0 _ rfl))).trans ((dk_bind (dk_u1 (h 1 _ rfl))).trans rfl))
theorem dk_58 {code : ByteArray} {pc : Nat} (a : UInt8) (h : DkAt code pc [58, a]) : decode code pc = .ok (.astore a.toNat, 2) := dk_of ((dk_bind (dk_u1 (h 0 _ rfl))).trans ((dk_bind (dk_u1 (h 1 _ rfl))).trans rfl))
theorem dk_60 {code : ByteArray} {pc : Nat} (h : DkAt code pc [60]) : decode code pc = .ok (.istore_n 1, 1) := dk_of ((dk_bind (dk_u1 (h 0 _ rfl))).trans rfl)
theorem dk_61 {code : ByteArray} {pc : Nat} (h : DkAt code pc [61]) : decode code pc = .ok (.istore_n 2, 1) := dk_of ((dk_bind (dk_u1 (h 0 _ rfl))).trans rfl)
theorem dk_62 {code : ByteArray} {pc : Nat} (h : DkAt code pc [62]) : decode code pc = .ok (.istore_n 3, 1) := dk_of ((dk_bind (dk_u1 (h 0 _ rfl))).trans rfl)
theorem dk_76 {code : ByteArray} {pc : Nat} (h : DkAt code pc [76]) : decode code pc = .ok (.astore_n 1, 1) := dk_of ((dk_bind (dk_u1 (h 0 _ rfl))).trans rfl)
theorem dk_77 {code : ByteArray} {pc : Nat} (h : DkAt code pc [77]) : decode code pc = .ok (.astore_n 2, 1) := dk_of ((dk_bind (dk_u1 (h 0 _ rfl))).trans rfl)
theorem dk_78 {code : ByteArray} {pc : Nat} (h : DkAt code pc [78]) : decode code pc = .ok (.astore_n 3, 1) := dk_of ((dk_bind (dk_u1 (h 0 _ rfl))).trans rfl)
theorem dk_79 {code : ByteArray} {pc : Nat} (h : DkAt code pc [79]) : decode code pc = .ok (.iastore, 1) := dk_of ((dk_bind (dk_u1 (h 0 _ rfl))).trans rfl)
theorem dk_84 {code : ByteArray} {pc : Nat} (h : DkAt code pc [84]) : decode code pc = .ok (.bastore, 1) := dk_of ((dk_bind (dk_u1 (h 0 _ rfl))).trans rfl)
theorem dk_85 {code : ByteArray} {pc : Nat} (h : DkAt code pc [85]) : decode code pc = .ok (.castore, 1) := dk_of ((dk_bind (dk_u1 (h 0 _ rfl))).trans rfl)
theorem dk_87 {code : ByteArray} {pc : Nat} (h : DkAt code pc [87]) : decode code pc = .ok (.pop, 1) := dk_of ((dk_bind (dk_u1 (h 0 _ rfl))).trans rfl)
theorem dk_89 {code : ByteArray} {pc : Nat} (h : DkAt code pc [89]) : decode code pc = .ok (.dup, 1) := dk_of ((dk_bind (dk_u1 (h 0 _ rfl))).trans rfl)
theorem dk_90 {code : ByteArray} {pc : Nat} (h : DkAt code pc [90]) : decode code pc = .ok (.dup_x1, 1) := dk_of ((dk_bind (dk_u1 (h 0 _ rfl))).trans rfl)
theorem dk_96 {code : ByteArray} {pc : Nat} (h : DkAt code pc [96]) : decode code pc = .ok (.iadd, 1) := dk_of ((dk_bind (dk_u1 (h 0 _ rfl))).trans rfl)
theorem dk_100 {code : ByteArray} {pc : Nat} (h : DkAt code pc [100]) : decode code pc = .ok (.isub, 1) := dk_of ((dk_bind (dk_u1 (h 0 _ rfl))).trans rfl)
theorem dk_104 {code : ByteArray} {pc : Nat} (h : DkAt code pc [104]) : decode code pc = .ok (.imul, 1) := dk_of ((dk_bind (dk_u1 (h 0 _ rfl))).trans rfl)
theorem dk_108 {code : ByteArray} {pc : Nat} (h : DkAt code pc [108]) : decode code pc = .ok (.idiv, 1) := dk_of ((dk_bind (dk_u1 (h 0 _ rfl))).trans rfl)
theorem dk_112 {code : ByteArray} {pc : Nat} (h : DkAt code pc [112]) : decode code pc = .ok (.irem, 1) := dk_of ((dk_bind (dk_u1 (h 0 _ rfl))).trans rfl)
theorem dk_120 {code : ByteArray} {pc : Nat} (h : DkAt code pc [120]) : decode code pc = .ok (.ishl, 1) := dk_of ((dk_bind (dk_u1 (h 0 _ rfl))).trans rfl)
theorem dk_122 {code : ByteArray} {pc : Nat} (h : DkAt code pc [122]) : decode code pc = .ok (.ishr, 1) := dk_of ((dk_bind (dk_u1 (h 0 _ rfl))).trans rfl)
theorem dk_124 {code : ByteArray} {pc : Nat} (h : DkAt code pc [124]) : decode code pc = .ok (.iushr, 1) := dk_of ((dk_bind (dk_u1 (h 0 _ rfl))).trans rfl)
theorem dk_126 {code : ByteArray} {pc : Nat} (h : DkAt code pc [126]) : decode code pc = .ok (.iand, 1) := dk_of ((dk_bind (dk_u1 (h 0 _ rfl))).trans rfl)
theorem dk_128 {code : ByteArray} {pc : Nat} (h : DkAt code pc [128]) : decode code pc = .ok (.ior, 1) := dk_of ((dk_bind (dk_u1 (h 0 _ rfl))).trans rfl)
theorem dk_130 {code : ByteArray} {pc : Nat} (h : DkAt code pc [130]) : decode code pc = .ok (.ixor, 1) := dk_of ((dk_bind (dk_u1 (h 0 _ rfl))).trans rfl)
theorem dk_132 {code : ByteArray} {pc : Nat} (a b : UInt8) (h : DkAt code pc [132, a, b]) : decode code pc = .ok (.iinc a.toNat (Reader.signed 8 b.toNat), 3) := dk_of ((dk_bind (dk_u1 (h 0 _ rfl))).trans ((dk_bind (dk_u1 (h 1 _ rfl))).trans ((dk_bind (dk_map (dk_u1 (h 2 _ rfl)))).trans rfl)))
theorem dk_145 {code : ByteArray} {pc : Nat} (h : DkAt code pc [145]) : decode code pc = .ok (.i2b, 1) := dk_of ((dk_bind (dk_u1 (h 0 _ rfl))).trans rfl)
theorem dk_146 {code : ByteArray} {pc : Nat} (h : DkAt code pc [146]) : decode code pc = .ok (.i2c, 1) := dk_of ((dk_bind (dk_u1 (h 0 _ rfl))).trans rfl)
theorem dk_153 {code : ByteArray} {pc : Nat} (a b : UInt8) (h : DkAt code pc [153, a, b]) : decode code pc = .ok (.ifCond .eq (Reader.signed 16 (a.toNat * 256 + b.toNat)), 3) := dk_of ((dk_bind (dk_u1 (h 0 _ rfl))).trans ((dk_bind (dk_map (dk_u2 (h 1 _ rfl) (h 2 _ rfl)))).trans rfl))
theorem dk_154 {code : ByteArray} {pc : Nat} (a b : UInt8) (h : DkAt code pc [154, a, b]) : decode code pc = .ok (.ifCond .ne (Reader.signed 16 (a.toNat * 256 + b.toNat)), 3) := dk_of ((dk_bind (dk_u1 (h 0 _ rfl))).trans ((dk_bind (dk_map (dk_u2 (h 1 _ rfl) (h 2 _ rfl)))).trans rfl))
theorem dk_155 {code : ByteArray} {pc : Nat} (a b : UInt8) (h : DkAt code pc [155, a, b]) : decode code pc = .ok (.ifCond .lt (Reader.signed 16 (a.toNat * 256 + b.toNat)), 3) := dk_of ((dk_bind (dk_u1 (h 0 _ rfl))).trans ((dk_bind (dk_map (dk_u2 (h 1 _ rfl) (h 2 _ rfl)))).trans rfl))
theorem dk_156 {code : ByteArray} {pc : Nat} (a b : UInt8) (h : DkAt code pc [156, a, b]) : decode code pc = .ok (.ifCond .ge (Reader.signed 16 (a.toNat * 256 + b.toNat)), 3) := dk_of ((dk_bind (dk_u1 (h 0 _ rfl))).trans ((dk_bind (dk_map (dk_u2 (h 1 _ rfl) (h 2 _ rfl)))).trans rfl))
theorem dk_158 {code : ByteArray} {pc : Nat} (a b : UInt8) (h : DkAt code pc [158, a, b]) : decode code pc = .ok (.ifCond .le (Reader.signed 16 (a.toNat * 256 + b.toNat)), 3) := dk_of ((dk_bind (dk_u1 (h 0 _ rfl))).trans ((dk_bind (dk_map (dk_u2 (h 1 _ rfl) (h 2 _ rfl)))).trans rfl))
theorem dk_159 {code : ByteArray} {pc : Nat} (a b : UInt8) (h : DkAt code pc [159, a, b]) : decode code pc = .ok (.if_icmp .eq (Reader.signed 16 (a.toNat * 256 + b.toNat)), 3) := dk_of ((dk_bind (dk_u1 (h 0 _ rfl))).trans ((dk_bind (dk_map (dk_u2 (h 1 _ rfl) (h 2 _ rfl)))).trans rfl))
theorem dk_160 {code : ByteArray} {pc : Nat} (a b : UInt8) (h : DkAt code pc [160, a, b]) : decode code pc = .ok (.if_icmp .ne (Reader.signed 16 (a.toNat * 256 + b.toNat)), 3) := dk_of ((dk_bind (dk_u1 (h 0 _ rfl))).trans ((dk_bind (dk_map (dk_u2 (h 1 _ rfl) (h 2 _ rfl)))).trans rfl))
theorem dk_161 {code : ByteArray} {pc : Nat} (a b : UInt8) (h : DkAt code pc [161, a, b]) : decode code pc = .ok (.if_icmp .lt (Reader.signed 16 (a.toNat * 256 + b.toNat)), 3) := dk_of ((dk_bind (dk_u1 (h 0 _ rfl))).trans ((dk_bind (dk_map (dk_u2 (h 1 _ rfl) (h 2 _ rfl)))).trans rfl))
theorem dk_162 {code : ByteArray} {pc : Nat} (a b : UInt8) (h : DkAt code pc [162, a, b]) : decode code pc = .ok (.if_icmp .ge (Reader.signed 16 (a.toNat * 256 + b.toNat)), 3) := dk_of ((dk_bind (dk_u1 (h 0 _ rfl))).trans ((dk_bind (dk_map (dk_u2 (h 1 _ rfl) (h 2 _ rfl)))).trans rfl))
theorem dk_163 {code : ByteArray} {pc : Nat} (a b : UInt8) (h : DkAt code pc [163, a, b]) : decode code pc = .ok (.if_icmp .gt (Reader.signed 16 (a.toNat * 256 + b.toNat)), 3) := dk_of ((dk_bind (dk_u1 (h 0 _ rfl))).trans ((dk_bind (dk_map (dk_u2 (h 1 _ rfl) (h 2 _ rfl)))).trans rfl))
theorem dk_164 {code : ByteArray} {pc : Nat} (a b : UInt8) (h : DkAt code pc [164, a, b]) : decode code pc = .ok (.if_icmp .le (Reader.signed 16 (a.toNat * 256 + b.toNat)), 3) := dk_of ((dk_bind (dk_u1 (h 0 _ rfl))).trans ((dk_bind (dk_map (dk_u2 (h 1 _ rfl) (h 2 _ rfl)))).trans rfl))
theorem dk_167 {code : ByteArray} {pc : Nat} (a b : UInt8) (h : DkAt code pc [167, a, b]) : decode code pc = .ok (.goto (Reader.signed 16 (a.toNat * 256 + b.toNat)), 3) := dk_of ((dk_bind (dk_u1 (h 0 _ rfl))).trans ((dk_bind (dk_map (dk_u2 (h 1 _ rfl) (h 2 _ rfl)))).trans rfl))
theorem dk_172 {code : ByteArray} {pc : Nat} (h : DkAt code pc [172]) : decode code pc = .ok (.ireturn, 1) := dk_of ((dk_bind (dk_u1 (h 0 _ rfl))).trans rfl)
theorem dk_176 {code : ByteArray} {pc : Nat} (h : DkAt code pc [176]) : decode code pc = .ok (.areturn, 1) := dk_of ((dk_bind (dk_u1 (h 0 _ rfl))).trans rfl)
theorem dk_177 {code : ByteArray} {pc : Nat} (h : DkAt code pc [177]) : decode code pc = .ok (.return_, 1) := dk_of ((dk_bind (dk_u1 (h 0 _ rfl))).trans rfl)
theorem dk_178 {code : ByteArray} {pc : Nat} (a b : UInt8) (h : DkAt code pc [178, a, b]) : decode code pc = .ok (.getstatic (a.toNat * 256 + b.toNat), 3) := dk_of ((dk_bind (dk_u1 (h 0 _ rfl))).trans ((dk_bind (dk_u2 (h 1 _ rfl) (h 2 _ rfl))).trans rfl))
theorem dk_180 {code : ByteArray} {pc : Nat} (a b : UInt8) (h : DkAt code pc [180, a, b]) : decode code pc = .ok (.getfield (a.toNat * 256 + b.toNat), 3) := dk_of ((dk_bind (dk_u1 (h 0 _ rfl))).trans ((dk_bind (dk_u2 (h 1 _ rfl) (h 2 _ rfl))).trans rfl))
theorem dk_181 {code : ByteArray} {pc : Nat} (a b : UInt8) (h : DkAt code pc [181, a, b]) : decode code pc = .ok (.putfield (a.toNat * 256 + b.toNat), 3) := dk_of ((dk_bind (dk_u1 (h 0 _ rfl))).trans ((dk_bind (dk_u2 (h 1 _ rfl) (h 2 _ rfl))).trans rfl))
theorem dk_182 {code : ByteArray} {pc : Nat} (a b : UInt8) (h : DkAt code pc [182, a, b]) : decode code pc = .ok (.invokevirtual (a.toNat * 256 + b.toNat), 3) := dk_of ((dk_bind (dk_u1 (h 0 _ rfl))).trans ((dk_bind (dk_u2 (h 1 _ rfl) (h 2 _ rfl))).trans rfl))
theorem dk_183 {code : ByteArray} {pc : Nat} (a b : UInt8) (h : DkAt code pc [183, a, b]) : decode code pc = .ok (.invokespecial (a.toNat * 256 + b.toNat), 3) := dk_of ((dk_bind (dk_u1 (h 0 _ rfl))).trans ((dk_bind (dk_u2 (h 1 _ rfl) (h 2 _ rfl))).trans rfl))
theorem dk_184 {code : ByteArray} {pc : Nat} (a b : UInt8) (h : DkAt code pc [184, a, b]) : decode code pc = .ok (.invokestatic (a.toNat * 256 + b.toNat), 3) := dk_of ((dk_bind (dk_u1 (h 0 _ rfl))).trans ((dk_bind (dk_u2 (h 1 _ rfl) (h 2 _ rfl))).trans rfl))
theorem dk_187 {code : ByteArray} {pc : Nat} (a b : UInt8) (h : DkAt code pc [187, a, b]) : decode code pc = .ok (.new (a.toNat * 256 + b.toNat), 3) := dk_of ((dk_bind (dk_u1 (h 0 _ rfl))).trans ((dk_bind (dk_u2 (h 1 _ rfl) (h 2 _ rfl))).trans rfl))
theorem dk_188_5 {code : ByteArray} {pc : Nat} (h : DkAt code pc [188, 5]) : decode code pc = .ok (.newarray .char, 2) := dk_of ((dk_bind (dk_u1 (h 0 _ rfl))).trans ((dk_bind (dk_u1 (h 1 _ rfl))).trans rfl))
theorem dk_188_8 {code : ByteArray} {pc : Nat} (h : DkAt code pc [188, 8]) : decode code pc = .ok (.newarray .byte, 2) := dk_of ((dk_bind (dk_u1 (h 0 _ rfl))).trans ((dk_bind (dk_u1 (h 1 _ rfl))).trans rfl))
theorem dk_188_10 {code : ByteArray} {pc : Nat} (h : DkAt code pc [188, 10]) : decode code pc = .ok (.newarray .int, 2) := dk_of ((dk_bind (dk_u1 (h 0 _ rfl))).trans ((dk_bind (dk_u1 (h 1 _ rfl))).trans rfl))
theorem dk_190 {code : ByteArray} {pc : Nat} (h : DkAt code pc [190]) : decode code pc = .ok (.arraylength, 1) := dk_of ((dk_bind (dk_u1 (h 0 _ rfl))).trans rfl)
theorem dk_191 {code : ByteArray} {pc : Nat} (h : DkAt code pc [191]) : decode code pc = .ok (.athrow, 1) := dk_of ((dk_bind (dk_u1 (h 0 _ rfl))).trans rfl)
theorem dk_192 {code : ByteArray} {pc : Nat} (a b : UInt8) (h : DkAt code pc [192, a, b]) : decode code pc = .ok (.checkcast (a.toNat * 256 + b.toNat), 3) := dk_of ((dk_bind (dk_u1 (h 0 _ rfl))).trans ((dk_bind (dk_u2 (h 1 _ rfl) (h 2 _ rfl))).trans rfl))
theorem dk_198 {code : ByteArray} {pc : Nat} (a b : UInt8) (h : DkAt code pc [198, a, b]) : decode code pc = .ok (.ifnull (Reader.signed 16 (a.toNat * 256 + b.toNat)), 3) := dk_of ((dk_bind (dk_u1 (h 0 _ rfl))).trans ((dk_bind (dk_map (dk_u2 (h 1 _ rfl) (h 2 _ rfl)))).trans rfl))
theorem dk_199 {code : ByteArray} {pc : Nat} (a b : UInt8) (h : DkAt code pc [199, a, b]) : decode code pc = .ok (.ifnonnull (Reader.signed 16 (a.toNat * 256 + b.toNat)), 3) := dk_of ((dk_bind (dk_u1 (h 0 _ rfl))).trans ((dk_bind (dk_map (dk_u2 (h 1 _ rfl) (h 2 _ rfl)))).trans rfl))
end
section
/-! java/lang/Object -/
set_option maxRecDepth 100000
def RJ13 : String := "java/lang/Object"
abbrev cJ13_init : ByteArray := object_method_1_code
def yJ13_init : MethodName := ⟨RJ13, "<init>", "()V"⟩
theorem dJ13_init_0 : decode cJ13_init 0 = .ok (.return_, 1) := by decide +kernel
theorem q25 : (Jvm.Cond.instanceMethod ({ cls := "java/lang/Object", name := "<init>", desc := "()V" } : Jvm.MethodName)) ∈ lw_all := lw_g (lw_at lw_m1 24 rfl) rfl
theorem q26 : (Jvm.Cond.code ({ cls := "java/lang/Object", name := "<init>", desc := "()V" } : Jvm.MethodName) object_method_1_code (1 : Nat) (Option.none : Option Jvm.ClassFile.FieldType)) ∈ lw_all := lw_g (lw_at lw_m1 25 rfl) rfl
theorem q351 : (Jvm.Cond.native ({ cls := "java/lang/Object", name := "clone", desc := "()Ljava/lang/Object;" } : Jvm.MethodName)) ∈ lw_all := lw_g (lw_at lw_m2 110 rfl) rfl
theorem q352 : (Jvm.Cond.instanceMethod ({ cls := "java/lang/Object", name := "clone", desc := "()Ljava/lang/Object;" } : Jvm.MethodName)) ∈ lw_all := lw_g (lw_at lw_m2 111 rfl) rfl
theorem q572 : (Jvm.Cond.initialized "java/lang/Object") ∈ lw_all := lw_g (lw_at lw_m3 91 rfl) rfl
/-! jdk/internal/util/Preconditions -/
set_option maxRecDepth 100000
def RJ2 : String := "jdk/internal/util/Preconditions"
abbrev cJ2_checkIndex : ByteArray := prog_20_method_11_code
def yJ2_checkIndex : MethodName := ⟨RJ2, "checkIndex", "(IILjava/util/function/BiFunction;)I"⟩
def dkwJ2_checkIndex_0 : List UInt8 := [26, 155, 0, 8, 26, 27, 161, 0, 10, 44, 26, 27, 184, 0, 95, 191, 26, 172]
abbrev dktJ2_checkIndex_0 : List UInt8 := dkwJ2_checkIndex_0 ++ []
theorem dksJ2_checkIndex_0 : cJ2_checkIndex.data.toList.drop 0 = dktJ2_checkIndex_0 := by decide +kernel
theorem dJ2_checkIndex_0 : decode cJ2_checkIndex 0 = .ok (.iload_n 0, 1) := dk_26 (dk_at dksJ2_checkIndex_0 0 rfl rfl)
theorem dJ2_checkIndex_1 : decode cJ2_checkIndex 1 = .ok (.ifCond .lt 8, 3) := dk_155 0 8 (dk_at dksJ2_checkIndex_0 1 rfl rfl)
theorem dJ2_checkIndex_4 : decode cJ2_checkIndex 4 = .ok (.iload_n 0, 1) := dk_26 (dk_at dksJ2_checkIndex_0 4 rfl rfl)
theorem dJ2_checkIndex_5 : decode cJ2_checkIndex 5 = .ok (.iload_n 1, 1) := dk_27 (dk_at dksJ2_checkIndex_0 5 rfl rfl)
theorem dJ2_checkIndex_6 : decode cJ2_checkIndex 6 = .ok (.if_icmp .lt 10, 3) := dk_161 0 10 (dk_at dksJ2_checkIndex_0 6 rfl rfl)
theorem dJ2_checkIndex_9 : decode cJ2_checkIndex 9 = .ok (.aload_n 2, 1) := dk_44 (dk_at dksJ2_checkIndex_0 9 rfl rfl)
theorem dJ2_checkIndex_10 : decode cJ2_checkIndex 10 = .ok (.iload_n 0, 1) := dk_26 (dk_at dksJ2_checkIndex_0 10 rfl rfl)
theorem dJ2_checkIndex_11 : decode cJ2_checkIndex 11 = .ok (.iload_n 1, 1) := dk_27 (dk_at dksJ2_checkIndex_0 11 rfl rfl)
theorem dJ2_checkIndex_12 : decode cJ2_checkIndex 12 = .ok (.invokestatic 95, 3) := dk_184 0 95 (dk_at dksJ2_checkIndex_0 12 rfl rfl)
theorem dJ2_checkIndex_15 : decode cJ2_checkIndex 15 = .ok (.athrow, 1) := dk_191 (dk_at dksJ2_checkIndex_0 15 rfl rfl)
theorem dJ2_checkIndex_16 : decode cJ2_checkIndex 16 = .ok (.iload_n 0, 1) := dk_26 (dk_at dksJ2_checkIndex_0 16 rfl rfl)
theorem dJ2_checkIndex_17 : decode cJ2_checkIndex 17 = .ok (.ireturn, 1) := dk_172 (dk_at dksJ2_checkIndex_0 17 rfl rfl)
abbrev cJ2_checkFromIndexSize : ByteArray := prog_20_method_13_code
def yJ2_checkFromIndexSize : MethodName := ⟨RJ2, "checkFromIndexSize", "(IIILjava/util/function/BiFunction;)I"⟩
def dkwJ2_checkFromIndexSize_1 : List UInt8 := [172]
abbrev dktJ2_checkFromIndexSize_1 : List UInt8 := dkwJ2_checkFromIndexSize_1 ++ []
def dkwJ2_checkFromIndexSize_0 : List UInt8 := [28, 26, 128, 27, 128, 155, 0, 10, 27, 28, 26, 100, 164, 0, 11, 45, 26, 27, 28, 184, 0, 103, 191, 26]
abbrev dktJ2_checkFromIndexSize_0 : List UInt8 := dkwJ2_checkFromIndexSize_0 ++ dktJ2_checkFromIndexSize_1
theorem dksJ2_checkFromIndexSize_0 : cJ2_checkFromIndexSize.data.toList.drop 0 = dktJ2_checkFromIndexSize_0 := by decide +kernel
theorem dksJ2_checkFromIndexSize_1 : cJ2_checkFromIndexSize.data.toList.drop 24 = dktJ2_checkFromIndexSize_1 := dk_seg dksJ2_checkFromIndexSize_0 24 rfl rfl
theorem dJ2_checkFromIndexSize_0 : decode cJ2_checkFromIndexSize 0 = .ok (.iload_n 2, 1) := dk_28 (dk_at dksJ2_checkFromIndexSize_0 0 rfl rfl)
theorem dJ2_checkFromIndexSize_1 : decode cJ2_checkFromIndexSize 1 = .ok (.iload_n 0, 1) := dk_26 (dk_at dksJ2_checkFromIndexSize_0 1 rfl rfl)
theorem dJ2_checkFromIndexSize_2 : decode cJ2_checkFromIndexSize 2 = .ok (.ior, 1) := dk_128 (dk_at dksJ2_checkFromIndexSize_0 2 rfl rfl)
theorem dJ2_checkFromIndexSize_3 : decode cJ2_checkFromIndexSize 3 = .ok (.iload_n 1, 1) := dk_27 (dk_at dksJ2_checkFromIndexSize_0 3 rfl rfl)
theorem dJ2_checkFromIndexSize_4 : decode cJ2_checkFromIndexSize 4 = .ok (.ior, 1) := dk_128 (dk_at dksJ2_checkFromIndexSize_0 4 rfl rfl)
theorem dJ2_checkFromIndexSize_5 : decode cJ2_checkFromIndexSize 5 = .ok (.ifCond .lt 10, 3) := dk_155 0 10 (dk_at dksJ2_checkFromIndexSize_0 5 rfl rfl)
theorem dJ2_checkFromIndexSize_8 : decode cJ2_checkFromIndexSize 8 = .ok (.iload_n 1, 1) := dk_27 (dk_at dksJ2_checkFromIndexSize_0 8 rfl rfl)
theorem dJ2_checkFromIndexSize_9 : decode cJ2_checkFromIndexSize 9 = .ok (.iload_n 2, 1) := dk_28 (dk_at dksJ2_checkFromIndexSize_0 9 rfl rfl)
theorem dJ2_checkFromIndexSize_10 : decode cJ2_checkFromIndexSize 10 = .ok (.iload_n 0, 1) := dk_26 (dk_at dksJ2_checkFromIndexSize_0 10 rfl rfl)
theorem dJ2_checkFromIndexSize_11 : decode cJ2_checkFromIndexSize 11 = .ok (.isub, 1) := dk_100 (dk_at dksJ2_checkFromIndexSize_0 11 rfl rfl)
theorem dJ2_checkFromIndexSize_12 : decode cJ2_checkFromIndexSize 12 = .ok (.if_icmp .le 11, 3) := dk_164 0 11 (dk_at dksJ2_checkFromIndexSize_0 12 rfl rfl)
theorem dJ2_checkFromIndexSize_15 : decode cJ2_checkFromIndexSize 15 = .ok (.aload_n 3, 1) := dk_45 (dk_at dksJ2_checkFromIndexSize_0 15 rfl rfl)
theorem dJ2_checkFromIndexSize_16 : decode cJ2_checkFromIndexSize 16 = .ok (.iload_n 0, 1) := dk_26 (dk_at dksJ2_checkFromIndexSize_0 16 rfl rfl)
theorem dJ2_checkFromIndexSize_17 : decode cJ2_checkFromIndexSize 17 = .ok (.iload_n 1, 1) := dk_27 (dk_at dksJ2_checkFromIndexSize_0 17 rfl rfl)
theorem dJ2_checkFromIndexSize_18 : decode cJ2_checkFromIndexSize 18 = .ok (.iload_n 2, 1) := dk_28 (dk_at dksJ2_checkFromIndexSize_0 18 rfl rfl)
theorem dJ2_checkFromIndexSize_19 : decode cJ2_checkFromIndexSize 19 = .ok (.invokestatic 103, 3) := dk_184 0 103 (dk_at dksJ2_checkFromIndexSize_0 19 rfl rfl)
theorem dJ2_checkFromIndexSize_22 : decode cJ2_checkFromIndexSize 22 = .ok (.athrow, 1) := dk_191 (dk_at dksJ2_checkFromIndexSize_0 22 rfl rfl)
theorem dJ2_checkFromIndexSize_23 : decode cJ2_checkFromIndexSize 23 = .ok (.iload_n 0, 1) := dk_26 (dk_at dksJ2_checkFromIndexSize_0 23 rfl rfl)
theorem dJ2_checkFromIndexSize_24 : decode cJ2_checkFromIndexSize 24 = .ok (.ireturn, 1) := dk_172 (dk_at dksJ2_checkFromIndexSize_1 0 rfl rfl)
abbrev cJ2_checkFromToIndex : ByteArray := prog_20_method_12_code
def yJ2_checkFromToIndex : MethodName := ⟨RJ2, "checkFromToIndex", "(IIILjava/util/function/BiFunction;)I"⟩
def dkwJ2_checkFromToIndex_0 : List UInt8 := [26, 155, 0, 13, 26, 27, 163, 0, 8, 27, 28, 164, 0, 11, 45, 26, 27, 28, 184, 0, 99, 191, 26, 172]
abbrev dktJ2_checkFromToIndex_0 : List UInt8 := dkwJ2_checkFromToIndex_0 ++ []
theorem dksJ2_checkFromToIndex_0 : cJ2_checkFromToIndex.data.toList.drop 0 = dktJ2_checkFromToIndex_0 := by decide +kernel
theorem dJ2_checkFromToIndex_0 : decode cJ2_checkFromToIndex 0 = .ok (.iload_n 0, 1) := dk_26 (dk_at dksJ2_checkFromToIndex_0 0 rfl rfl)
theorem dJ2_checkFromToIndex_1 : decode cJ2_checkFromToIndex 1 = .ok (.ifCond .lt 13, 3) := dk_155 0 13 (dk_at dksJ2_checkFromToIndex_0 1 rfl rfl)
theorem dJ2_checkFromToIndex_4 : decode cJ2_checkFromToIndex 4 = .ok (.iload_n 0, 1) := dk_26 (dk_at dksJ2_checkFromToIndex_0 4 rfl rfl)
theorem dJ2_checkFromToIndex_5 : decode cJ2_checkFromToIndex 5 = .ok (.iload_n 1, 1) := dk_27 (dk_at dksJ2_checkFromToIndex_0 5 rfl rfl)
theorem dJ2_checkFromToIndex_6 : decode cJ2_checkFromToIndex 6 = .ok (.if_icmp .gt 8, 3) := dk_163 0 8 (dk_at dksJ2_checkFromToIndex_0 6 rfl rfl)
theorem dJ2_checkFromToIndex_9 : decode cJ2_checkFromToIndex 9 = .ok (.iload_n 1, 1) := dk_27 (dk_at dksJ2_checkFromToIndex_0 9 rfl rfl)
theorem dJ2_checkFromToIndex_10 : decode cJ2_checkFromToIndex 10 = .ok (.iload_n 2, 1) := dk_28 (dk_at dksJ2_checkFromToIndex_0 10 rfl rfl)
theorem dJ2_checkFromToIndex_11 : decode cJ2_checkFromToIndex 11 = .ok (.if_icmp .le 11, 3) := dk_164 0 11 (dk_at dksJ2_checkFromToIndex_0 11 rfl rfl)
theorem dJ2_checkFromToIndex_14 : decode cJ2_checkFromToIndex 14 = .ok (.aload_n 3, 1) := dk_45 (dk_at dksJ2_checkFromToIndex_0 14 rfl rfl)
theorem dJ2_checkFromToIndex_15 : decode cJ2_checkFromToIndex 15 = .ok (.iload_n 0, 1) := dk_26 (dk_at dksJ2_checkFromToIndex_0 15 rfl rfl)
theorem dJ2_checkFromToIndex_16 : decode cJ2_checkFromToIndex 16 = .ok (.iload_n 1, 1) := dk_27 (dk_at dksJ2_checkFromToIndex_0 16 rfl rfl)
theorem dJ2_checkFromToIndex_17 : decode cJ2_checkFromToIndex 17 = .ok (.iload_n 2, 1) := dk_28 (dk_at dksJ2_checkFromToIndex_0 17 rfl rfl)
theorem dJ2_checkFromToIndex_18 : decode cJ2_checkFromToIndex 18 = .ok (.invokestatic 99, 3) := dk_184 0 99 (dk_at dksJ2_checkFromToIndex_0 18 rfl rfl)
theorem dJ2_checkFromToIndex_21 : decode cJ2_checkFromToIndex 21 = .ok (.athrow, 1) := dk_191 (dk_at dksJ2_checkFromToIndex_0 21 rfl rfl)
theorem dJ2_checkFromToIndex_22 : decode cJ2_checkFromToIndex 22 = .ok (.iload_n 0, 1) := dk_26 (dk_at dksJ2_checkFromToIndex_0 22 rfl rfl)
theorem dJ2_checkFromToIndex_23 : decode cJ2_checkFromToIndex 23 = .ok (.ireturn, 1) := dk_172 (dk_at dksJ2_checkFromToIndex_0 23 rfl rfl)
theorem q5 : (Jvm.Cond.initialized "jdk/internal/util/Preconditions") ∈ lw_all := lw_g (lw_at lw_m1 4 rfl) rfl
theorem q75 : (Jvm.Cond.laysStatic "jdk/internal/util/Preconditions" "SIOOBE_FORMATTER" "Ljava/util/function/BiFunction;") ∈ lw_tbl := lw_at lw_m1 74 rfl
theorem q77 : (Jvm.Cond.static ({ cls := "jdk/internal/util/Preconditions", name := "checkIndex", desc := "(IILjava/util/function/BiFunction;)I" } : Jvm.MethodName)) ∈ lw_all := lw_g (lw_at lw_m1 76 rfl) rfl
theorem q78 : (Jvm.Cond.code ({ cls := "jdk/internal/util/Preconditions", name := "checkIndex", desc := "(IILjava/util/function/BiFunction;)I" } : Jvm.MethodName) prog_20_method_11_code (3 : Nat) (Option.some Jvm.ClassFile.FieldType.int)) ∈ lw_all := lw_g (lw_at lw_m1 77 rfl) rfl
theorem q130 : (Jvm.Cond.static ({ cls := "jdk/internal/util/Preconditions", name := "checkFromIndexSize", desc := "(IIILjava/util/function/BiFunction;)I" } : Jvm.MethodName)) ∈ lw_all := lw_g (lw_at lw_m1 129 rfl) rfl
theorem q131 : (Jvm.Cond.code ({ cls := "jdk/internal/util/Preconditions", name := "checkFromIndexSize", desc := "(IIILjava/util/function/BiFunction;)I" } : Jvm.MethodName) prog_20_method_13_code (4 : Nat) (Option.some Jvm.ClassFile.FieldType.int)) ∈ lw_all := lw_g (lw_at lw_m1 130 rfl) rfl
theorem q377 : (Jvm.Cond.static ({ cls := "jdk/internal/util/Preconditions", name := "checkFromToIndex", desc := "(IIILjava/util/function/BiFunction;)I" } : Jvm.MethodName)) ∈ lw_all := lw_g (lw_at lw_m2 136 rfl) rfl
theorem q378 : (Jvm.Cond.code ({ cls := "jdk/internal/util/Preconditions", name := "checkFromToIndex", desc := "(IIILjava/util/function/BiFunction;)I" } : Jvm.MethodName) prog_20_method_12_code (4 : Nat) (Option.some Jvm.ClassFile.FieldType.int)) ∈ lw_all := lw_g (lw_at lw_m2 137 rfl) rfl
/-! java/lang/StringLatin1 -/
set_option maxRecDepth 100000
def RJ1 : String := "java/lang/StringLatin1"
abbrev cJ1_charAt : ByteArray := prog_14_method_2_code
def yJ1_charAt : MethodName := ⟨RJ1, "charAt", "([BI)C"⟩
def dkwJ1_charAt_0 : List UInt8 := [27, 42, 190, 184, 0, 9, 42, 27, 51, 17, 0, 255, 126, 146, 172]
abbrev dktJ1_charAt_0 : List UInt8 := dkwJ1_charAt_0 ++ []
theorem dksJ1_charAt_0 : cJ1_charAt.data.toList.drop 0 = dktJ1_charAt_0 := by decide +kernel
theorem dJ1_charAt_0 : decode cJ1_charAt 0 = .ok (.iload_n 1, 1) := dk_27 (dk_at dksJ1_charAt_0 0 rfl rfl)
theorem dJ1_charAt_1 : decode cJ1_charAt 1 = .ok (.aload_n 0, 1) := dk_42 (dk_at dksJ1_charAt_0 1 rfl rfl)
theorem dJ1_charAt_2 : decode cJ1_charAt 2 = .ok (.arraylength, 1) := dk_190 (dk_at dksJ1_charAt_0 2 rfl rfl)
theorem dJ1_charAt_3 : decode cJ1_charAt 3 = .ok (.invokestatic 9, 3) := dk_184 0 9 (dk_at dksJ1_charAt_0 3 rfl rfl)
theorem dJ1_charAt_6 : decode cJ1_charAt 6 = .ok (.aload_n 0, 1) := dk_42 (dk_at dksJ1_charAt_0 6 rfl rfl)
theorem dJ1_charAt_7 : decode cJ1_charAt 7 = .ok (.iload_n 1, 1) := dk_27 (dk_at dksJ1_charAt_0 7 rfl rfl)
theorem dJ1_charAt_8 : decode cJ1_charAt 8 = .ok (.baload, 1) := dk_51 (dk_at dksJ1_charAt_0 8 rfl rfl)
theorem dJ1_charAt_9 : decode cJ1_charAt 9 = .ok (.sipush 255, 3) := dk_17 0 255 (dk_at dksJ1_charAt_0 9 rfl rfl)
theorem dJ1_charAt_12 : decode cJ1_charAt 12 = .ok (.iand, 1) := dk_126 (dk_at dksJ1_charAt_0 12 rfl rfl)
theorem dJ1_charAt_13 : decode cJ1_charAt 13 = .ok (.i2c, 1) := dk_146 (dk_at dksJ1_charAt_0 13 rfl rfl)
theorem dJ1_charAt_14 : decode cJ1_charAt 14 = .ok (.ireturn, 1) := dk_172 (dk_at dksJ1_charAt_0 14 rfl rfl)
abbrev cJ1_inflate : ByteArray := prog_14_method_50_code
def yJ1_inflate : MethodName := ⟨RJ1, "inflate", "([BI[BII)V"⟩
def dkwJ1_inflate_0 : List UInt8 := [42, 27, 44, 29, 21, 4, 184, 0, 240, 177]
abbrev dktJ1_inflate_0 : List UInt8 := dkwJ1_inflate_0 ++ []
theorem dksJ1_inflate_0 : cJ1_inflate.data.toList.drop 0 = dktJ1_inflate_0 := by decide +kernel
theorem dJ1_inflate_0 : decode cJ1_inflate 0 = .ok (.aload_n 0, 1) := dk_42 (dk_at dksJ1_inflate_0 0 rfl rfl)
theorem dJ1_inflate_1 : decode cJ1_inflate 1 = .ok (.iload_n 1, 1) := dk_27 (dk_at dksJ1_inflate_0 1 rfl rfl)
theorem dJ1_inflate_2 : decode cJ1_inflate 2 = .ok (.aload_n 2, 1) := dk_44 (dk_at dksJ1_inflate_0 2 rfl rfl)
theorem dJ1_inflate_3 : decode cJ1_inflate 3 = .ok (.iload_n 3, 1) := dk_29 (dk_at dksJ1_inflate_0 3 rfl rfl)
theorem dJ1_inflate_4 : decode cJ1_inflate 4 = .ok (.iload 4, 2) := dk_21 4 (dk_at dksJ1_inflate_0 4 rfl rfl)
theorem dJ1_inflate_6 : decode cJ1_inflate 6 = .ok (.invokestatic 240, 3) := dk_184 0 240 (dk_at dksJ1_inflate_0 6 rfl rfl)
theorem dJ1_inflate_9 : decode cJ1_inflate 9 = .ok (.return_, 1) := dk_177 (dk_at dksJ1_inflate_0 9 rfl rfl)
abbrev cJ1_fillNull : ByteArray := prog_14_method_48_code
def yJ1_fillNull : MethodName := ⟨RJ1, "fillNull", "([BII)V"⟩
def dkwJ1_fillNull_0 : List UInt8 := [42, 27, 28, 3, 184, 0, 236, 177]
abbrev dktJ1_fillNull_0 : List UInt8 := dkwJ1_fillNull_0 ++ []
theorem dksJ1_fillNull_0 : cJ1_fillNull.data.toList.drop 0 = dktJ1_fillNull_0 := by decide +kernel
theorem dJ1_fillNull_0 : decode cJ1_fillNull 0 = .ok (.aload_n 0, 1) := dk_42 (dk_at dksJ1_fillNull_0 0 rfl rfl)
theorem dJ1_fillNull_1 : decode cJ1_fillNull 1 = .ok (.iload_n 1, 1) := dk_27 (dk_at dksJ1_fillNull_0 1 rfl rfl)
theorem dJ1_fillNull_2 : decode cJ1_fillNull 2 = .ok (.iload_n 2, 1) := dk_28 (dk_at dksJ1_fillNull_0 2 rfl rfl)
theorem dJ1_fillNull_3 : decode cJ1_fillNull 3 = .ok (.iconst 0, 1) := dk_3 (dk_at dksJ1_fillNull_0 3 rfl rfl)
theorem dJ1_fillNull_4 : decode cJ1_fillNull 4 = .ok (.invokestatic 236, 3) := dk_184 0 236 (dk_at dksJ1_fillNull_0 4 rfl rfl)
theorem dJ1_fillNull_7 : decode cJ1_fillNull 7 = .ok (.return_, 1) := dk_177 (dk_at dksJ1_fillNull_0 7 rfl rfl)
abbrev cJ1_canEncode : ByteArray := prog_14_method_3_code
def yJ1_canEncode : MethodName := ⟨RJ1, "canEncode", "(C)Z"⟩
def dkwJ1_canEncode_0 : List UInt8 := [26, 17, 0, 255, 163, 0, 7, 4, 167, 0, 4, 3, 172]
abbrev dktJ1_canEncode_0 : List UInt8 := dkwJ1_canEncode_0 ++ []
theorem dksJ1_canEncode_0 : cJ1_canEncode.data.toList.drop 0 = dktJ1_canEncode_0 := by decide +kernel
theorem dJ1_canEncode_0 : decode cJ1_canEncode 0 = .ok (.iload_n 0, 1) := dk_26 (dk_at dksJ1_canEncode_0 0 rfl rfl)
theorem dJ1_canEncode_1 : decode cJ1_canEncode 1 = .ok (.sipush 255, 3) := dk_17 0 255 (dk_at dksJ1_canEncode_0 1 rfl rfl)
theorem dJ1_canEncode_4 : decode cJ1_canEncode 4 = .ok (.if_icmp .gt 7, 3) := dk_163 0 7 (dk_at dksJ1_canEncode_0 4 rfl rfl)
theorem dJ1_canEncode_7 : decode cJ1_canEncode 7 = .ok (.iconst 1, 1) := dk_4 (dk_at dksJ1_canEncode_0 7 rfl rfl)
theorem dJ1_canEncode_8 : decode cJ1_canEncode 8 = .ok (.goto 4, 3) := dk_167 0 4 (dk_at dksJ1_canEncode_0 8 rfl rfl)
theorem dJ1_canEncode_11 : decode cJ1_canEncode 11 = .ok (.iconst 0, 1) := dk_3 (dk_at dksJ1_canEncode_0 11 rfl rfl)
theorem dJ1_canEncode_12 : decode cJ1_canEncode 12 = .ok (.ireturn, 1) := dk_172 (dk_at dksJ1_canEncode_0 12 rfl rfl)
theorem q4 : (Jvm.Cond.initialized "java/lang/StringLatin1") ∈ lw_all := lw_g (lw_at lw_m1 3 rfl) rfl
theorem q69 : (Jvm.Cond.static ({ cls := "java/lang/StringLatin1", name := "charAt", desc := "([BI)C" } : Jvm.MethodName)) ∈ lw_all := lw_g (lw_at lw_m1 68 rfl) rfl
theorem q70 : (Jvm.Cond.code ({ cls := "java/lang/StringLatin1", name := "charAt", desc := "([BI)C" } : Jvm.MethodName) prog_14_method_2_code (2 : Nat) (Option.some Jvm.ClassFile.FieldType.char)) ∈ lw_all := lw_g (lw_at lw_m1 69 rfl) rfl
theorem q71 : (Jvm.Cond.methodLink "java/lang/StringLatin1" (9 : Nat) ({ cls := "java/lang/String", name := "checkIndex", desc := "(II)V" } : Jvm.MethodName)) ∈ lw_all := lw_g (lw_at lw_m1 70 rfl) rfl
theorem q394 : (Jvm.Cond.static ({ cls := "java/lang/StringLatin1", name := "inflate", desc := "([BI[BII)V" } : Jvm.MethodName)) ∈ lw_all := lw_g (lw_at lw_m2 153 rfl) rfl
theorem q395 : (Jvm.Cond.code ({ cls := "java/lang/StringLatin1", name := "inflate", desc := "([BI[BII)V" } : Jvm.MethodName) prog_14_method_50_code (5 : Nat) (Option.none : Option Jvm.ClassFile.FieldType)) ∈ lw_all := lw_g (lw_at lw_m2 154 rfl) rfl
theorem q396 : (Jvm.Cond.methodLink "java/lang/StringLatin1" (240 : Nat) ({ cls := "java/lang/StringUTF16", name := "inflate", desc := "([BI[BII)V" } : Jvm.MethodName)) ∈ lw_all := lw_g (lw_at lw_m2 155 rfl) rfl
theorem q478 : (Jvm.Cond.static ({ cls := "java/lang/StringLatin1", name := "fillNull", desc := "([BII)V" } : Jvm.MethodName)) ∈ lw_all := lw_g (lw_at lw_m2 237 rfl) rfl
theorem q479 : (Jvm.Cond.code ({ cls := "java/lang/StringLatin1", name := "fillNull", desc := "([BII)V" } : Jvm.MethodName) prog_14_method_48_code (3 : Nat) (Option.none : Option Jvm.ClassFile.FieldType)) ∈ lw_all := lw_g (lw_at lw_m2 238 rfl) rfl
theorem q480 : (Jvm.Cond.methodLink "java/lang/StringLatin1" (236 : Nat) ({ cls := "java/util/Arrays", name := "fill", desc := "([BIIB)V" } : Jvm.MethodName)) ∈ lw_all := lw_g (lw_at lw_m2 239 rfl) rfl
theorem q507 : (Jvm.Cond.static ({ cls := "java/lang/StringLatin1", name := "canEncode", desc := "(C)Z" } : Jvm.MethodName)) ∈ lw_all := lw_g (lw_at lw_m3 26 rfl) rfl
theorem q508 : (Jvm.Cond.code ({ cls := "java/lang/StringLatin1", name := "canEncode", desc := "(C)Z" } : Jvm.MethodName) prog_14_method_3_code (1 : Nat) (Option.some Jvm.ClassFile.FieldType.boolean)) ∈ lw_all := lw_g (lw_at lw_m3 27 rfl) rfl
/-! java/lang/StringUTF16 -/
set_option maxRecDepth 100000
def RJ3 : String := "java/lang/StringUTF16"
abbrev cJ3_charAt : ByteArray := prog_15_method_83_code
def yJ3_charAt : MethodName := ⟨RJ3, "charAt", "([BI)C"⟩
def dkwJ3_charAt_0 : List UInt8 := [27, 42, 184, 0, 67, 42, 27, 184, 0, 71, 172]
abbrev dktJ3_charAt_0 : List UInt8 := dkwJ3_charAt_0 ++ []
theorem dksJ3_charAt_0 : cJ3_charAt.data.toList.drop 0 = dktJ3_charAt_0 := by decide +kernel
theorem dJ3_charAt_0 : decode cJ3_charAt 0 = .ok (.iload_n 1, 1) := dk_27 (dk_at dksJ3_charAt_0 0 rfl rfl)
theorem dJ3_charAt_1 : decode cJ3_charAt 1 = .ok (.aload_n 0, 1) := dk_42 (dk_at dksJ3_charAt_0 1 rfl rfl)
theorem dJ3_charAt_2 : decode cJ3_charAt 2 = .ok (.invokestatic 67, 3) := dk_184 0 67 (dk_at dksJ3_charAt_0 2 rfl rfl)
theorem dJ3_charAt_5 : decode cJ3_charAt 5 = .ok (.aload_n 0, 1) := dk_42 (dk_at dksJ3_charAt_0 5 rfl rfl)
theorem dJ3_charAt_6 : decode cJ3_charAt 6 = .ok (.iload_n 1, 1) := dk_27 (dk_at dksJ3_charAt_0 6 rfl rfl)
theorem dJ3_charAt_7 : decode cJ3_charAt 7 = .ok (.invokestatic 71, 3) := dk_184 0 71 (dk_at dksJ3_charAt_0 7 rfl rfl)
theorem dJ3_charAt_10 : decode cJ3_charAt 10 = .ok (.ireturn, 1) := dk_172 (dk_at dksJ3_charAt_0 10 rfl rfl)
abbrev cJ3_checkIndex : ByteArray := prog_15_method_91_code
def yJ3_checkIndex : MethodName := ⟨RJ3, "checkIndex", "(I[B)V"⟩
def dkwJ3_checkIndex_0 : List UInt8 := [26, 43, 184, 0, 48, 184, 1, 158, 177]
abbrev dktJ3_checkIndex_0 : List UInt8 := dkwJ3_checkIndex_0 ++ []
theorem dksJ3_checkIndex_0 : cJ3_checkIndex.data.toList.drop 0 = dktJ3_checkIndex_0 := by decide +kernel
theorem dJ3_checkIndex_0 : decode cJ3_checkIndex 0 = .ok (.iload_n 0, 1) := dk_26 (dk_at dksJ3_checkIndex_0 0 rfl rfl)
theorem dJ3_checkIndex_1 : decode cJ3_checkIndex 1 = .ok (.aload_n 1, 1) := dk_43 (dk_at dksJ3_checkIndex_0 1 rfl rfl)
theorem dJ3_checkIndex_2 : decode cJ3_checkIndex 2 = .ok (.invokestatic 48, 3) := dk_184 0 48 (dk_at dksJ3_checkIndex_0 2 rfl rfl)
theorem dJ3_checkIndex_5 : decode cJ3_checkIndex 5 = .ok (.invokestatic 414, 3) := dk_184 1 158 (dk_at dksJ3_checkIndex_0 5 rfl rfl)
theorem dJ3_checkIndex_8 : decode cJ3_checkIndex 8 = .ok (.return_, 1) := dk_177 (dk_at dksJ3_checkIndex_0 8 rfl rfl)
abbrev cJ3_length : ByteArray := prog_15_method_6_code
def yJ3_length : MethodName := ⟨RJ3, "length", "([B)I"⟩
def dkwJ3_length_0 : List UInt8 := [42, 190, 4, 122, 172]
abbrev dktJ3_length_0 : List UInt8 := dkwJ3_length_0 ++ []
theorem dksJ3_length_0 : cJ3_length.data.toList.drop 0 = dktJ3_length_0 := by decide +kernel
theorem dJ3_length_0 : decode cJ3_length 0 = .ok (.aload_n 0, 1) := dk_42 (dk_at dksJ3_length_0 0 rfl rfl)
theorem dJ3_length_1 : decode cJ3_length 1 = .ok (.arraylength, 1) := dk_190 (dk_at dksJ3_length_0 1 rfl rfl)
theorem dJ3_length_2 : decode cJ3_length 2 = .ok (.iconst 1, 1) := dk_4 (dk_at dksJ3_length_0 2 rfl rfl)
theorem dJ3_length_3 : decode cJ3_length 3 = .ok (.ishr, 1) := dk_122 (dk_at dksJ3_length_0 3 rfl rfl)
theorem dJ3_length_4 : decode cJ3_length 4 = .ok (.ireturn, 1) := dk_172 (dk_at dksJ3_length_0 4 rfl rfl)
abbrev cJ3_getChar : ByteArray := prog_15_method_5_code
def yJ3_getChar : MethodName := ⟨RJ3, "getChar", "([BI)C"⟩
def dkwJ3_getChar_2 : List UInt8 := [51, 17, 0, 255, 126, 178, 0, 63, 120, 128, 146, 172]
abbrev dktJ3_getChar_2 : List UInt8 := dkwJ3_getChar_2 ++ []
def dkwJ3_getChar_1 : List UInt8 := [183, 0, 56, 191, 27, 4, 120, 60, 42, 27, 132, 1, 1, 51, 17, 0, 255, 126, 178, 0, 59, 120, 42, 27]
abbrev dktJ3_getChar_1 : List UInt8 := dkwJ3_getChar_1 ++ dktJ3_getChar_2
def dkwJ3_getChar_0 : List UInt8 := [178, 0, 44, 154, 0, 25, 27, 155, 0, 11, 27, 42, 184, 0, 48, 161, 0, 13, 187, 0, 52, 89, 18, 54]
abbrev dktJ3_getChar_0 : List UInt8 := dkwJ3_getChar_0 ++ dktJ3_getChar_1
theorem dksJ3_getChar_0 : cJ3_getChar.data.toList.drop 0 = dktJ3_getChar_0 := by decide +kernel
theorem dksJ3_getChar_1 : cJ3_getChar.data.toList.drop 24 = dktJ3_getChar_1 := dk_seg dksJ3_getChar_0 24 rfl rfl
theorem dksJ3_getChar_2 : cJ3_getChar.data.toList.drop 48 = dktJ3_getChar_2 := dk_seg dksJ3_getChar_1 24 rfl rfl
theorem dJ3_getChar_0 : decode cJ3_getChar 0 = .ok (.getstatic 44, 3) := dk_178 0 44 (dk_at dksJ3_getChar_0 0 rfl rfl)
theorem dJ3_getChar_3 : decode cJ3_getChar 3 = .ok (.ifCond .ne 25, 3) := dk_154 0 25 (dk_at dksJ3_getChar_0 3 rfl rfl)
theorem dJ3_getChar_6 : decode cJ3_getChar 6 = .ok (.iload_n 1, 1) := dk_27 (dk_at dksJ3_getChar_0 6 rfl rfl)
theorem dJ3_getChar_7 : decode cJ3_getChar 7 = .ok (.ifCond .lt 11, 3) := dk_155 0 11 (dk_at dksJ3_getChar_0 7 rfl rfl)
theorem dJ3_getChar_10 : decode cJ3_getChar 10 = .ok (.iload_n 1, 1) := dk_27 (dk_at dksJ3_getChar_0 10 rfl rfl)
theorem dJ3_getChar_11 : decode cJ3_getChar 11 = .ok (.aload_n 0, 1) := dk_42 (dk_at dksJ3_getChar_0 11 rfl rfl)
theorem dJ3_getChar_12 : decode cJ3_getChar 12 = .ok (.invokestatic 48, 3) := dk_184 0 48 (dk_at dksJ3_getChar_0 12 rfl rfl)
theorem dJ3_getChar_15 : decode cJ3_getChar 15 = .ok (.if_icmp .lt 13, 3) := dk_161 0 13 (dk_at dksJ3_getChar_0 15 rfl rfl)
theorem dJ3_getChar_18 : decode cJ3_getChar 18 = .ok (.new 52, 3) := dk_187 0 52 (dk_at dksJ3_getChar_0 18 rfl rfl)
theorem dJ3_getChar_21 : decode cJ3_getChar 21 = .ok (.dup, 1) := dk_89 (dk_at dksJ3_getChar_0 21 rfl rfl)
theorem dJ3_getChar_22 : decode cJ3_getChar 22 = .ok (.ldc 54, 2) := dk_18 54 (dk_at dksJ3_getChar_0 22 rfl rfl)
theorem dJ3_getChar_24 : decode cJ3_getChar 24 = .ok (.invokespecial 56, 3) := dk_183 0 56 (dk_at dksJ3_getChar_1 0 rfl rfl)
theorem dJ3_getChar_27 : decode cJ3_getChar 27 = .ok (.athrow, 1) := dk_191 (dk_at dksJ3_getChar_1 3 rfl rfl)
theorem dJ3_getChar_28 : decode cJ3_getChar 28 = .ok (.iload_n 1, 1) := dk_27 (dk_at dksJ3_getChar_1 4 rfl rfl)
theorem dJ3_getChar_29 : decode cJ3_getChar 29 = .ok (.iconst 1, 1) := dk_4 (dk_at dksJ3_getChar_1 5 rfl rfl)
theorem dJ3_getChar_30 : decode cJ3_getChar 30 = .ok (.ishl, 1) := dk_120 (dk_at dksJ3_getChar_1 6 rfl rfl)
theorem dJ3_getChar_31 : decode cJ3_getChar 31 = .ok (.istore_n 1, 1) := dk_60 (dk_at dksJ3_getChar_1 7 rfl rfl)
theorem dJ3_getChar_32 : decode cJ3_getChar 32 = .ok (.aload_n 0, 1) := dk_42 (dk_at dksJ3_getChar_1 8 rfl rfl)
theorem dJ3_getChar_33 : decode cJ3_getChar 33 = .ok (.iload_n 1, 1) := dk_27 (dk_at dksJ3_getChar_1 9 rfl rfl)
theorem dJ3_getChar_34 : decode cJ3_getChar 34 = .ok (.iinc 1 1, 3) := dk_132 1 1 (dk_at dksJ3_getChar_1 10 rfl rfl)
theorem dJ3_getChar_37 : decode cJ3_getChar 37 = .ok (.baload, 1) := dk_51 (dk_at dksJ3_getChar_1 13 rfl rfl)
theorem dJ3_getChar_38 : decode cJ3_getChar 38 = .ok (.sipush 255, 3) := dk_17 0 255 (dk_at dksJ3_getChar_1 14 rfl rfl)
theorem dJ3_getChar_41 : decode cJ3_getChar 41 = .ok (.iand, 1) := dk_126 (dk_at dksJ3_getChar_1 17 rfl rfl)
theorem dJ3_getChar_42 : decode cJ3_getChar 42 = .ok (.getstatic 59, 3) := dk_178 0 59 (dk_at dksJ3_getChar_1 18 rfl rfl)
theorem dJ3_getChar_45 : decode cJ3_getChar 45 = .ok (.ishl, 1) := dk_120 (dk_at dksJ3_getChar_1 21 rfl rfl)
theorem dJ3_getChar_46 : decode cJ3_getChar 46 = .ok (.aload_n 0, 1) := dk_42 (dk_at dksJ3_getChar_1 22 rfl rfl)
theorem dJ3_getChar_47 : decode cJ3_getChar 47 = .ok (.iload_n 1, 1) := dk_27 (dk_at dksJ3_getChar_1 23 rfl rfl)
theorem dJ3_getChar_48 : decode cJ3_getChar 48 = .ok (.baload, 1) := dk_51 (dk_at dksJ3_getChar_2 0 rfl rfl)
theorem dJ3_getChar_49 : decode cJ3_getChar 49 = .ok (.sipush 255, 3) := dk_17 0 255 (dk_at dksJ3_getChar_2 1 rfl rfl)
theorem dJ3_getChar_52 : decode cJ3_getChar 52 = .ok (.iand, 1) := dk_126 (dk_at dksJ3_getChar_2 4 rfl rfl)
theorem dJ3_getChar_53 : decode cJ3_getChar 53 = .ok (.getstatic 63, 3) := dk_178 0 63 (dk_at dksJ3_getChar_2 5 rfl rfl)
theorem dJ3_getChar_56 : decode cJ3_getChar 56 = .ok (.ishl, 1) := dk_120 (dk_at dksJ3_getChar_2 8 rfl rfl)
theorem dJ3_getChar_57 : decode cJ3_getChar 57 = .ok (.ior, 1) := dk_128 (dk_at dksJ3_getChar_2 9 rfl rfl)
theorem dJ3_getChar_58 : decode cJ3_getChar 58 = .ok (.i2c, 1) := dk_146 (dk_at dksJ3_getChar_2 10 rfl rfl)
theorem dJ3_getChar_59 : decode cJ3_getChar 59 = .ok (.ireturn, 1) := dk_172 (dk_at dksJ3_getChar_2 11 rfl rfl)
abbrev cJ3_compress : ByteArray := prog_15_method_16_code
def yJ3_compress : MethodName := ⟨RJ3, "compress", "([CII)[B"⟩
def dkwJ3_compress_2 : List UInt8 := [184, 0, 123, 28, 159, 0, 6, 25, 5, 176, 45, 176]
abbrev dktJ3_compress_2 : List UInt8 := dkwJ3_compress_2 ++ []
def dkwJ3_compress_1 : List UInt8 := [184, 0, 119, 58, 5, 25, 5, 21, 4, 184, 0, 71, 17, 0, 255, 163, 0, 16, 25, 5, 3, 45, 3, 28]
abbrev dktJ3_compress_1 : List UInt8 := dkwJ3_compress_1 ++ dktJ3_compress_2
def dkwJ3_compress_0 : List UInt8 := [28, 188, 8, 78, 42, 27, 45, 3, 28, 184, 0, 115, 54, 4, 21, 4, 28, 159, 0, 40, 42, 27, 28]
abbrev dktJ3_compress_0 : List UInt8 := dkwJ3_compress_0 ++ dktJ3_compress_1
theorem dksJ3_compress_0 : cJ3_compress.data.toList.drop 0 = dktJ3_compress_0 := by decide +kernel
theorem dksJ3_compress_1 : cJ3_compress.data.toList.drop 23 = dktJ3_compress_1 := dk_seg dksJ3_compress_0 23 rfl rfl
theorem dksJ3_compress_2 : cJ3_compress.data.toList.drop 47 = dktJ3_compress_2 := dk_seg dksJ3_compress_1 24 rfl rfl
theorem dJ3_compress_0 : decode cJ3_compress 0 = .ok (.iload_n 2, 1) := dk_28 (dk_at dksJ3_compress_0 0 rfl rfl)
theorem dJ3_compress_1 : decode cJ3_compress 1 = .ok (.newarray .byte, 2) := dk_188_8 (dk_at dksJ3_compress_0 1 rfl rfl)
theorem dJ3_compress_3 : decode cJ3_compress 3 = .ok (.astore_n 3, 1) := dk_78 (dk_at dksJ3_compress_0 3 rfl rfl)
theorem dJ3_compress_4 : decode cJ3_compress 4 = .ok (.aload_n 0, 1) := dk_42 (dk_at dksJ3_compress_0 4 rfl rfl)
theorem dJ3_compress_5 : decode cJ3_compress 5 = .ok (.iload_n 1, 1) := dk_27 (dk_at dksJ3_compress_0 5 rfl rfl)
theorem dJ3_compress_6 : decode cJ3_compress 6 = .ok (.aload_n 3, 1) := dk_45 (dk_at dksJ3_compress_0 6 rfl rfl)
theorem dJ3_compress_7 : decode cJ3_compress 7 = .ok (.iconst 0, 1) := dk_3 (dk_at dksJ3_compress_0 7 rfl rfl)
theorem dJ3_compress_8 : decode cJ3_compress 8 = .ok (.iload_n 2, 1) := dk_28 (dk_at dksJ3_compress_0 8 rfl rfl)
theorem dJ3_compress_9 : decode cJ3_compress 9 = .ok (.invokestatic 115, 3) := dk_184 0 115 (dk_at dksJ3_compress_0 9 rfl rfl)
theorem dJ3_compress_12 : decode cJ3_compress 12 = .ok (.istore 4, 2) := dk_54 4 (dk_at dksJ3_compress_0 12 rfl rfl)
theorem dJ3_compress_14 : decode cJ3_compress 14 = .ok (.iload 4, 2) := dk_21 4 (dk_at dksJ3_compress_0 14 rfl rfl)
theorem dJ3_compress_16 : decode cJ3_compress 16 = .ok (.iload_n 2, 1) := dk_28 (dk_at dksJ3_compress_0 16 rfl rfl)
theorem dJ3_compress_17 : decode cJ3_compress 17 = .ok (.if_icmp .eq 40, 3) := dk_159 0 40 (dk_at dksJ3_compress_0 17 rfl rfl)
theorem dJ3_compress_20 : decode cJ3_compress 20 = .ok (.aload_n 0, 1) := dk_42 (dk_at dksJ3_compress_0 20 rfl rfl)
theorem dJ3_compress_21 : decode cJ3_compress 21 = .ok (.iload_n 1, 1) := dk_27 (dk_at dksJ3_compress_0 21 rfl rfl)
theorem dJ3_compress_22 : decode cJ3_compress 22 = .ok (.iload_n 2, 1) := dk_28 (dk_at dksJ3_compress_0 22 rfl rfl)
theorem dJ3_compress_23 : decode cJ3_compress 23 = .ok (.invokestatic 119, 3) := dk_184 0 119 (dk_at dksJ3_compress_1 0 rfl rfl)
theorem dJ3_compress_26 : decode cJ3_compress 26 = .ok (.astore 5, 2) := dk_58 5 (dk_at dksJ3_compress_1 3 rfl rfl)
theorem dJ3_compress_28 : decode cJ3_compress 28 = .ok (.aload 5, 2) := dk_25 5 (dk_at dksJ3_compress_1 5 rfl rfl)
theorem dJ3_compress_30 : decode cJ3_compress 30 = .ok (.iload 4, 2) := dk_21 4 (dk_at dksJ3_compress_1 7 rfl rfl)
theorem dJ3_compress_32 : decode cJ3_compress 32 = .ok (.invokestatic 71, 3) := dk_184 0 71 (dk_at dksJ3_compress_1 9 rfl rfl)
theorem dJ3_compress_35 : decode cJ3_compress 35 = .ok (.sipush 255, 3) := dk_17 0 255 (dk_at dksJ3_compress_1 12 rfl rfl)
theorem dJ3_compress_38 : decode cJ3_compress 38 = .ok (.if_icmp .gt 16, 3) := dk_163 0 16 (dk_at dksJ3_compress_1 15 rfl rfl)
theorem dJ3_compress_41 : decode cJ3_compress 41 = .ok (.aload 5, 2) := dk_25 5 (dk_at dksJ3_compress_1 18 rfl rfl)
theorem dJ3_compress_43 : decode cJ3_compress 43 = .ok (.iconst 0, 1) := dk_3 (dk_at dksJ3_compress_1 20 rfl rfl)
theorem dJ3_compress_44 : decode cJ3_compress 44 = .ok (.aload_n 3, 1) := dk_45 (dk_at dksJ3_compress_1 21 rfl rfl)
theorem dJ3_compress_45 : decode cJ3_compress 45 = .ok (.iconst 0, 1) := dk_3 (dk_at dksJ3_compress_1 22 rfl rfl)
theorem dJ3_compress_46 : decode cJ3_compress 46 = .ok (.iload_n 2, 1) := dk_28 (dk_at dksJ3_compress_1 23 rfl rfl)
theorem dJ3_compress_47 : decode cJ3_compress 47 = .ok (.invokestatic 123, 3) := dk_184 0 123 (dk_at dksJ3_compress_2 0 rfl rfl)
theorem dJ3_compress_50 : decode cJ3_compress 50 = .ok (.iload_n 2, 1) := dk_28 (dk_at dksJ3_compress_2 3 rfl rfl)
theorem dJ3_compress_51 : decode cJ3_compress 51 = .ok (.if_icmp .eq 6, 3) := dk_159 0 6 (dk_at dksJ3_compress_2 4 rfl rfl)
theorem dJ3_compress_54 : decode cJ3_compress 54 = .ok (.aload 5, 2) := dk_25 5 (dk_at dksJ3_compress_2 7 rfl rfl)
theorem dJ3_compress_56 : decode cJ3_compress 56 = .ok (.areturn, 1) := dk_176 (dk_at dksJ3_compress_2 9 rfl rfl)
theorem dJ3_compress_57 : decode cJ3_compress 57 = .ok (.aload_n 3, 1) := dk_45 (dk_at dksJ3_compress_2 10 rfl rfl)
theorem dJ3_compress_58 : decode cJ3_compress 58 = .ok (.areturn, 1) := dk_176 (dk_at dksJ3_compress_2 11 rfl rfl)
abbrev cJ3_compress_2 : ByteArray := prog_15_method_21_code
def yJ3_compress_2 : MethodName := ⟨RJ3, "compress", "([CI[BII)I"⟩
def dkwJ3_compress_2_1 : List UInt8 := [21, 5, 172, 44, 29, 21, 6, 145, 84, 132, 1, 1, 132, 3, 1, 132, 5, 1, 167, 255, 218, 21, 4, 172]
abbrev dktJ3_compress_2_1 : List UInt8 := dkwJ3_compress_2_1 ++ []
def dkwJ3_compress_2_0 : List UInt8 := [3, 54, 5, 21, 5, 21, 4, 162, 0, 37, 42, 27, 52, 54, 6, 21, 6, 17, 0, 255, 164, 0, 6]
abbrev dktJ3_compress_2_0 : List UInt8 := dkwJ3_compress_2_0 ++ dktJ3_compress_2_1
theorem dksJ3_compress_2_0 : cJ3_compress_2.data.toList.drop 0 = dktJ3_compress_2_0 := by decide +kernel
theorem dksJ3_compress_2_1 : cJ3_compress_2.data.toList.drop 23 = dktJ3_compress_2_1 := dk_seg dksJ3_compress_2_0 23 rfl rfl
theorem dJ3_compress_2_0 : decode cJ3_compress_2 0 = .ok (.iconst 0, 1) := dk_3 (dk_at dksJ3_compress_2_0 0 rfl rfl)
theorem dJ3_compress_2_1 : decode cJ3_compress_2 1 = .ok (.istore 5, 2) := dk_54 5 (dk_at dksJ3_compress_2_0 1 rfl rfl)
theorem dJ3_compress_2_3 : decode cJ3_compress_2 3 = .ok (.iload 5, 2) := dk_21 5 (dk_at dksJ3_compress_2_0 3 rfl rfl)
theorem dJ3_compress_2_5 : decode cJ3_compress_2 5 = .ok (.iload 4, 2) := dk_21 4 (dk_at dksJ3_compress_2_0 5 rfl rfl)
theorem dJ3_compress_2_7 : decode cJ3_compress_2 7 = .ok (.if_icmp .ge 37, 3) := dk_162 0 37 (dk_at dksJ3_compress_2_0 7 rfl rfl)
theorem dJ3_compress_2_10 : decode cJ3_compress_2 10 = .ok (.aload_n 0, 1) := dk_42 (dk_at dksJ3_compress_2_0 10 rfl rfl)
theorem dJ3_compress_2_11 : decode cJ3_compress_2 11 = .ok (.iload_n 1, 1) := dk_27 (dk_at dksJ3_compress_2_0 11 rfl rfl)
theorem dJ3_compress_2_12 : decode cJ3_compress_2 12 = .ok (.caload, 1) := dk_52 (dk_at dksJ3_compress_2_0 12 rfl rfl)
theorem dJ3_compress_2_13 : decode cJ3_compress_2 13 = .ok (.istore 6, 2) := dk_54 6 (dk_at dksJ3_compress_2_0 13 rfl rfl)
theorem dJ3_compress_2_15 : decode cJ3_compress_2 15 = .ok (.iload 6, 2) := dk_21 6 (dk_at dksJ3_compress_2_0 15 rfl rfl)
theorem dJ3_compress_2_17 : decode cJ3_compress_2 17 = .ok (.sipush 255, 3) := dk_17 0 255 (dk_at dksJ3_compress_2_0 17 rfl rfl)
theorem dJ3_compress_2_20 : decode cJ3_compress_2 20 = .ok (.if_icmp .le 6, 3) := dk_164 0 6 (dk_at dksJ3_compress_2_0 20 rfl rfl)
theorem dJ3_compress_2_23 : decode cJ3_compress_2 23 = .ok (.iload 5, 2) := dk_21 5 (dk_at dksJ3_compress_2_1 0 rfl rfl)
theorem dJ3_compress_2_25 : decode cJ3_compress_2 25 = .ok (.ireturn, 1) := dk_172 (dk_at dksJ3_compress_2_1 2 rfl rfl)
theorem dJ3_compress_2_26 : decode cJ3_compress_2 26 = .ok (.aload_n 2, 1) := dk_44 (dk_at dksJ3_compress_2_1 3 rfl rfl)
theorem dJ3_compress_2_27 : decode cJ3_compress_2 27 = .ok (.iload_n 3, 1) := dk_29 (dk_at dksJ3_compress_2_1 4 rfl rfl)
theorem dJ3_compress_2_28 : decode cJ3_compress_2 28 = .ok (.iload 6, 2) := dk_21 6 (dk_at dksJ3_compress_2_1 5 rfl rfl)
theorem dJ3_compress_2_30 : decode cJ3_compress_2 30 = .ok (.i2b, 1) := dk_145 (dk_at dksJ3_compress_2_1 7 rfl rfl)
theorem dJ3_compress_2_31 : decode cJ3_compress_2 31 = .ok (.bastore, 1) := dk_84 (dk_at dksJ3_compress_2_1 8 rfl rfl)
theorem dJ3_compress_2_32 : decode cJ3_compress_2 32 = .ok (.iinc 1 1, 3) := dk_132 1 1 (dk_at dksJ3_compress_2_1 9 rfl rfl)
theorem dJ3_compress_2_35 : decode cJ3_compress_2 35 = .ok (.iinc 3 1, 3) := dk_132 3 1 (dk_at dksJ3_compress_2_1 12 rfl rfl)
theorem dJ3_compress_2_38 : decode cJ3_compress_2 38 = .ok (.iinc 5 1, 3) := dk_132 5 1 (dk_at dksJ3_compress_2_1 15 rfl rfl)
theorem dJ3_compress_2_41 : decode cJ3_compress_2 41 = .ok (.goto (-38), 3) := dk_167 255 218 (dk_at dksJ3_compress_2_1 18 rfl rfl)
theorem dJ3_compress_2_44 : decode cJ3_compress_2 44 = .ok (.iload 4, 2) := dk_21 4 (dk_at dksJ3_compress_2_1 21 rfl rfl)
theorem dJ3_compress_2_46 : decode cJ3_compress_2 46 = .ok (.ireturn, 1) := dk_172 (dk_at dksJ3_compress_2_1 23 rfl rfl)
abbrev cJ3_toBytes : ByteArray := prog_15_method_14_code
def yJ3_toBytes : MethodName := ⟨RJ3, "toBytes", "([CII)[B"⟩
def dkwJ3_toBytes_1 : List UInt8 := [132, 1, 1, 132, 4, 1, 167, 255, 235, 45, 176]
abbrev dktJ3_toBytes_1 : List UInt8 := dkwJ3_toBytes_1 ++ []
def dkwJ3_toBytes_0 : List UInt8 := [28, 184, 0, 107, 78, 3, 54, 4, 21, 4, 28, 162, 0, 21, 45, 21, 4, 42, 27, 52, 184, 0, 111]
abbrev dktJ3_toBytes_0 : List UInt8 := dkwJ3_toBytes_0 ++ dktJ3_toBytes_1
theorem dksJ3_toBytes_0 : cJ3_toBytes.data.toList.drop 0 = dktJ3_toBytes_0 := by decide +kernel
theorem dksJ3_toBytes_1 : cJ3_toBytes.data.toList.drop 23 = dktJ3_toBytes_1 := dk_seg dksJ3_toBytes_0 23 rfl rfl
theorem dJ3_toBytes_0 : decode cJ3_toBytes 0 = .ok (.iload_n 2, 1) := dk_28 (dk_at dksJ3_toBytes_0 0 rfl rfl)
theorem dJ3_toBytes_1 : decode cJ3_toBytes 1 = .ok (.invokestatic 107, 3) := dk_184 0 107 (dk_at dksJ3_toBytes_0 1 rfl rfl)
theorem dJ3_toBytes_4 : decode cJ3_toBytes 4 = .ok (.astore_n 3, 1) := dk_78 (dk_at dksJ3_toBytes_0 4 rfl rfl)
theorem dJ3_toBytes_5 : decode cJ3_toBytes 5 = .ok (.iconst 0, 1) := dk_3 (dk_at dksJ3_toBytes_0 5 rfl rfl)
theorem dJ3_toBytes_6 : decode cJ3_toBytes 6 = .ok (.istore 4, 2) := dk_54 4 (dk_at dksJ3_toBytes_0 6 rfl rfl)
theorem dJ3_toBytes_8 : decode cJ3_toBytes 8 = .ok (.iload 4, 2) := dk_21 4 (dk_at dksJ3_toBytes_0 8 rfl rfl)
theorem dJ3_toBytes_10 : decode cJ3_toBytes 10 = .ok (.iload_n 2, 1) := dk_28 (dk_at dksJ3_toBytes_0 10 rfl rfl)
theorem dJ3_toBytes_11 : decode cJ3_toBytes 11 = .ok (.if_icmp .ge 21, 3) := dk_162 0 21 (dk_at dksJ3_toBytes_0 11 rfl rfl)
theorem dJ3_toBytes_14 : decode cJ3_toBytes 14 = .ok (.aload_n 3, 1) := dk_45 (dk_at dksJ3_toBytes_0 14 rfl rfl)
theorem dJ3_toBytes_15 : decode cJ3_toBytes 15 = .ok (.iload 4, 2) := dk_21 4 (dk_at dksJ3_toBytes_0 15 rfl rfl)
theorem dJ3_toBytes_17 : decode cJ3_toBytes 17 = .ok (.aload_n 0, 1) := dk_42 (dk_at dksJ3_toBytes_0 17 rfl rfl)
theorem dJ3_toBytes_18 : decode cJ3_toBytes 18 = .ok (.iload_n 1, 1) := dk_27 (dk_at dksJ3_toBytes_0 18 rfl rfl)
theorem dJ3_toBytes_19 : decode cJ3_toBytes 19 = .ok (.caload, 1) := dk_52 (dk_at dksJ3_toBytes_0 19 rfl rfl)
theorem dJ3_toBytes_20 : decode cJ3_toBytes 20 = .ok (.invokestatic 111, 3) := dk_184 0 111 (dk_at dksJ3_toBytes_0 20 rfl rfl)
theorem dJ3_toBytes_23 : decode cJ3_toBytes 23 = .ok (.iinc 1 1, 3) := dk_132 1 1 (dk_at dksJ3_toBytes_1 0 rfl rfl)
theorem dJ3_toBytes_26 : decode cJ3_toBytes 26 = .ok (.iinc 4 1, 3) := dk_132 4 1 (dk_at dksJ3_toBytes_1 3 rfl rfl)
theorem dJ3_toBytes_29 : decode cJ3_toBytes 29 = .ok (.goto (-21), 3) := dk_167 255 235 (dk_at dksJ3_toBytes_1 6 rfl rfl)
theorem dJ3_toBytes_32 : decode cJ3_toBytes 32 = .ok (.aload_n 3, 1) := dk_45 (dk_at dksJ3_toBytes_1 9 rfl rfl)
theorem dJ3_toBytes_33 : decode cJ3_toBytes 33 = .ok (.areturn, 1) := dk_176 (dk_at dksJ3_toBytes_1 10 rfl rfl)
abbrev cJ3_newBytesFor : ByteArray := prog_15_method_2_code
def yJ3_newBytesFor : MethodName := ⟨RJ3, "newBytesFor", "(I)[B"⟩
def dkwJ3_newBytesFor_0 : List UInt8 := [26, 184, 0, 11, 188, 8, 176]
abbrev dktJ3_newBytesFor_0 : List UInt8 := dkwJ3_newBytesFor_0 ++ []
theorem dksJ3_newBytesFor_0 : cJ3_newBytesFor.data.toList.drop 0 = dktJ3_newBytesFor_0 := by decide +kernel
theorem dJ3_newBytesFor_0 : decode cJ3_newBytesFor 0 = .ok (.iload_n 0, 1) := dk_26 (dk_at dksJ3_newBytesFor_0 0 rfl rfl)
theorem dJ3_newBytesFor_1 : decode cJ3_newBytesFor 1 = .ok (.invokestatic 11, 3) := dk_184 0 11 (dk_at dksJ3_newBytesFor_0 1 rfl rfl)
theorem dJ3_newBytesFor_4 : decode cJ3_newBytesFor 4 = .ok (.newarray .byte, 2) := dk_188_8 (dk_at dksJ3_newBytesFor_0 4 rfl rfl)
theorem dJ3_newBytesFor_6 : decode cJ3_newBytesFor 6 = .ok (.areturn, 1) := dk_176 (dk_at dksJ3_newBytesFor_0 6 rfl rfl)
abbrev cJ3_newBytesLength : ByteArray := prog_15_method_3_code
def yJ3_newBytesLength : MethodName := ⟨RJ3, "newBytesLength", "(I)I"⟩
def dkwJ3_newBytesLength_2 : List UInt8 := [182, 0, 32, 182, 0, 37, 183, 0, 41, 191, 26, 4, 120, 172]
abbrev dktJ3_newBytesLength_2 : List UInt8 := dkwJ3_newBytesLength_2 ++ []
def dkwJ3_newBytesLength_1 : List UInt8 := [187, 0, 23, 89, 183, 0, 25, 18, 26, 182, 0, 28, 26, 182, 0, 32, 18, 35, 182, 0, 28, 18, 20]
abbrev dktJ3_newBytesLength_1 : List UInt8 := dkwJ3_newBytesLength_1 ++ dktJ3_newBytesLength_2
def dkwJ3_newBytesLength_0 : List UInt8 := [26, 156, 0, 11, 187, 0, 17, 89, 183, 0, 19, 191, 26, 18, 20, 161, 0, 40, 187, 0, 21, 89]
abbrev dktJ3_newBytesLength_0 : List UInt8 := dkwJ3_newBytesLength_0 ++ dktJ3_newBytesLength_1
theorem dksJ3_newBytesLength_0 : cJ3_newBytesLength.data.toList.drop 0 = dktJ3_newBytesLength_0 := by decide +kernel
theorem dksJ3_newBytesLength_1 : cJ3_newBytesLength.data.toList.drop 22 = dktJ3_newBytesLength_1 := dk_seg dksJ3_newBytesLength_0 22 rfl rfl
theorem dksJ3_newBytesLength_2 : cJ3_newBytesLength.data.toList.drop 45 = dktJ3_newBytesLength_2 := dk_seg dksJ3_newBytesLength_1 23 rfl rfl
theorem dJ3_newBytesLength_0 : decode cJ3_newBytesLength 0 = .ok (.iload_n 0, 1) := dk_26 (dk_at dksJ3_newBytesLength_0 0 rfl rfl)
theorem dJ3_newBytesLength_1 : decode cJ3_newBytesLength 1 = .ok (.ifCond .ge 11, 3) := dk_156 0 11 (dk_at dksJ3_newBytesLength_0 1 rfl rfl)
theorem dJ3_newBytesLength_4 : decode cJ3_newBytesLength 4 = .ok (.new 17, 3) := dk_187 0 17 (dk_at dksJ3_newBytesLength_0 4 rfl rfl)
theorem dJ3_newBytesLength_7 : decode cJ3_newBytesLength 7 = .ok (.dup, 1) := dk_89 (dk_at dksJ3_newBytesLength_0 7 rfl rfl)
theorem dJ3_newBytesLength_8 : decode cJ3_newBytesLength 8 = .ok (.invokespecial 19, 3) := dk_183 0 19 (dk_at dksJ3_newBytesLength_0 8 rfl rfl)
theorem dJ3_newBytesLength_11 : decode cJ3_newBytesLength 11 = .ok (.athrow, 1) := dk_191 (dk_at dksJ3_newBytesLength_0 11 rfl rfl)
theorem dJ3_newBytesLength_12 : decode cJ3_newBytesLength 12 = .ok (.iload_n 0, 1) := dk_26 (dk_at dksJ3_newBytesLength_0 12 rfl rfl)
theorem dJ3_newBytesLength_13 : decode cJ3_newBytesLength 13 = .ok (.ldc 20, 2) := dk_18 20 (dk_at dksJ3_newBytesLength_0 13 rfl rfl)
theorem dJ3_newBytesLength_15 : decode cJ3_newBytesLength 15 = .ok (.if_icmp .lt 40, 3) := dk_161 0 40 (dk_at dksJ3_newBytesLength_0 15 rfl rfl)
theorem dJ3_newBytesLength_18 : decode cJ3_newBytesLength 18 = .ok (.new 21, 3) := dk_187 0 21 (dk_at dksJ3_newBytesLength_0 18 rfl rfl)
theorem dJ3_newBytesLength_21 : decode cJ3_newBytesLength 21 = .ok (.dup, 1) := dk_89 (dk_at dksJ3_newBytesLength_0 21 rfl rfl)
theorem dJ3_newBytesLength_22 : decode cJ3_newBytesLength 22 = .ok (.new 23, 3) := dk_187 0 23 (dk_at dksJ3_newBytesLength_1 0 rfl rfl)
theorem dJ3_newBytesLength_25 : decode cJ3_newBytesLength 25 = .ok (.dup, 1) := dk_89 (dk_at dksJ3_newBytesLength_1 3 rfl rfl)
theorem dJ3_newBytesLength_26 : decode cJ3_newBytesLength 26 = .ok (.invokespecial 25, 3) := dk_183 0 25 (dk_at dksJ3_newBytesLength_1 4 rfl rfl)
theorem dJ3_newBytesLength_29 : decode cJ3_newBytesLength 29 = .ok (.ldc 26, 2) := dk_18 26 (dk_at dksJ3_newBytesLength_1 7 rfl rfl)
theorem dJ3_newBytesLength_31 : decode cJ3_newBytesLength 31 = .ok (.invokevirtual 28, 3) := dk_182 0 28 (dk_at dksJ3_newBytesLength_1 9 rfl rfl)
theorem dJ3_newBytesLength_34 : decode cJ3_newBytesLength 34 = .ok (.iload_n 0, 1) := dk_26 (dk_at dksJ3_newBytesLength_1 12 rfl rfl)
theorem dJ3_newBytesLength_35 : decode cJ3_newBytesLength 35 = .ok (.invokevirtual 32, 3) := dk_182 0 32 (dk_at dksJ3_newBytesLength_1 13 rfl rfl)
theorem dJ3_newBytesLength_38 : decode cJ3_newBytesLength 38 = .ok (.ldc 35, 2) := dk_18 35 (dk_at dksJ3_newBytesLength_1 16 rfl rfl)
theorem dJ3_newBytesLength_40 : decode cJ3_newBytesLength 40 = .ok (.invokevirtual 28, 3) := dk_182 0 28 (dk_at dksJ3_newBytesLength_1 18 rfl rfl)
theorem dJ3_newBytesLength_43 : decode cJ3_newBytesLength 43 = .ok (.ldc 20, 2) := dk_18 20 (dk_at dksJ3_newBytesLength_1 21 rfl rfl)
theorem dJ3_newBytesLength_45 : decode cJ3_newBytesLength 45 = .ok (.invokevirtual 32, 3) := dk_182 0 32 (dk_at dksJ3_newBytesLength_2 0 rfl rfl)
theorem dJ3_newBytesLength_48 : decode cJ3_newBytesLength 48 = .ok (.invokevirtual 37, 3) := dk_182 0 37 (dk_at dksJ3_newBytesLength_2 3 rfl rfl)
theorem dJ3_newBytesLength_51 : decode cJ3_newBytesLength 51 = .ok (.invokespecial 41, 3) := dk_183 0 41 (dk_at dksJ3_newBytesLength_2 6 rfl rfl)
theorem dJ3_newBytesLength_54 : decode cJ3_newBytesLength 54 = .ok (.athrow, 1) := dk_191 (dk_at dksJ3_newBytesLength_2 9 rfl rfl)
theorem dJ3_newBytesLength_55 : decode cJ3_newBytesLength 55 = .ok (.iload_n 0, 1) := dk_26 (dk_at dksJ3_newBytesLength_2 10 rfl rfl)
theorem dJ3_newBytesLength_56 : decode cJ3_newBytesLength 56 = .ok (.iconst 1, 1) := dk_4 (dk_at dksJ3_newBytesLength_2 11 rfl rfl)
theorem dJ3_newBytesLength_57 : decode cJ3_newBytesLength 57 = .ok (.ishl, 1) := dk_120 (dk_at dksJ3_newBytesLength_2 12 rfl rfl)
theorem dJ3_newBytesLength_58 : decode cJ3_newBytesLength 58 = .ok (.ireturn, 1) := dk_172 (dk_at dksJ3_newBytesLength_2 13 rfl rfl)
abbrev cJ3_putChar : ByteArray := prog_15_method_4_code
def yJ3_putChar : MethodName := ⟨RJ3, "putChar", "([BII)V"⟩
def dkwJ3_putChar_2 : List UInt8 := [178, 0, 63, 122, 145, 84, 177]
abbrev dktJ3_putChar_2 : List UInt8 := dkwJ3_putChar_2 ++ []
def dkwJ3_putChar_1 : List UInt8 := [183, 0, 56, 191, 27, 4, 120, 60, 42, 27, 132, 1, 1, 28, 178, 0, 59, 122, 145, 84, 42, 27, 28]
abbrev dktJ3_putChar_1 : List UInt8 := dkwJ3_putChar_1 ++ dktJ3_putChar_2
def dkwJ3_putChar_0 : List UInt8 := [178, 0, 44, 154, 0, 25, 27, 155, 0, 11, 27, 42, 184, 0, 48, 161, 0, 13, 187, 0, 52, 89, 18, 54]
abbrev dktJ3_putChar_0 : List UInt8 := dkwJ3_putChar_0 ++ dktJ3_putChar_1
theorem dksJ3_putChar_0 : cJ3_putChar.data.toList.drop 0 = dktJ3_putChar_0 := by decide +kernel
theorem dksJ3_putChar_1 : cJ3_putChar.data.toList.drop 24 = dktJ3_putChar_1 := dk_seg dksJ3_putChar_0 24 rfl rfl
theorem dksJ3_putChar_2 : cJ3_putChar.data.toList.drop 47 = dktJ3_putChar_2 := dk_seg dksJ3_putChar_1 23 rfl rfl
theorem dJ3_putChar_0 : decode cJ3_putChar 0 = .ok (.getstatic 44, 3) := dk_178 0 44 (dk_at dksJ3_putChar_0 0 rfl rfl)
theorem dJ3_putChar_3 : decode cJ3_putChar 3 = .ok (.ifCond .ne 25, 3) := dk_154 0 25 (dk_at dksJ3_putChar_0 3 rfl rfl)
theorem dJ3_putChar_6 : decode cJ3_putChar 6 = .ok (.iload_n 1, 1) := dk_27 (dk_at dksJ3_putChar_0 6 rfl rfl)
theorem dJ3_putChar_7 : decode cJ3_putChar 7 = .ok (.ifCond .lt 11, 3) := dk_155 0 11 (dk_at dksJ3_putChar_0 7 rfl rfl)
theorem dJ3_putChar_10 : decode cJ3_putChar 10 = .ok (.iload_n 1, 1) := dk_27 (dk_at dksJ3_putChar_0 10 rfl rfl)
theorem dJ3_putChar_11 : decode cJ3_putChar 11 = .ok (.aload_n 0, 1) := dk_42 (dk_at dksJ3_putChar_0 11 rfl rfl)
theorem dJ3_putChar_12 : decode cJ3_putChar 12 = .ok (.invokestatic 48, 3) := dk_184 0 48 (dk_at dksJ3_putChar_0 12 rfl rfl)
theorem dJ3_putChar_15 : decode cJ3_putChar 15 = .ok (.if_icmp .lt 13, 3) := dk_161 0 13 (dk_at dksJ3_putChar_0 15 rfl rfl)
theorem dJ3_putChar_18 : decode cJ3_putChar 18 = .ok (.new 52, 3) := dk_187 0 52 (dk_at dksJ3_putChar_0 18 rfl rfl)
theorem dJ3_putChar_21 : decode cJ3_putChar 21 = .ok (.dup, 1) := dk_89 (dk_at dksJ3_putChar_0 21 rfl rfl)
theorem dJ3_putChar_22 : decode cJ3_putChar 22 = .ok (.ldc 54, 2) := dk_18 54 (dk_at dksJ3_putChar_0 22 rfl rfl)
theorem dJ3_putChar_24 : decode cJ3_putChar 24 = .ok (.invokespecial 56, 3) := dk_183 0 56 (dk_at dksJ3_putChar_1 0 rfl rfl)
theorem dJ3_putChar_27 : decode cJ3_putChar 27 = .ok (.athrow, 1) := dk_191 (dk_at dksJ3_putChar_1 3 rfl rfl)
theorem dJ3_putChar_28 : decode cJ3_putChar 28 = .ok (.iload_n 1, 1) := dk_27 (dk_at dksJ3_putChar_1 4 rfl rfl)
theorem dJ3_putChar_29 : decode cJ3_putChar 29 = .ok (.iconst 1, 1) := dk_4 (dk_at dksJ3_putChar_1 5 rfl rfl)
theorem dJ3_putChar_30 : decode cJ3_putChar 30 = .ok (.ishl, 1) := dk_120 (dk_at dksJ3_putChar_1 6 rfl rfl)
theorem dJ3_putChar_31 : decode cJ3_putChar 31 = .ok (.istore_n 1, 1) := dk_60 (dk_at dksJ3_putChar_1 7 rfl rfl)
theorem dJ3_putChar_32 : decode cJ3_putChar 32 = .ok (.aload_n 0, 1) := dk_42 (dk_at dksJ3_putChar_1 8 rfl rfl)
theorem dJ3_putChar_33 : decode cJ3_putChar 33 = .ok (.iload_n 1, 1) := dk_27 (dk_at dksJ3_putChar_1 9 rfl rfl)
theorem dJ3_putChar_34 : decode cJ3_putChar 34 = .ok (.iinc 1 1, 3) := dk_132 1 1 (dk_at dksJ3_putChar_1 10 rfl rfl)
theorem dJ3_putChar_37 : decode cJ3_putChar 37 = .ok (.iload_n 2, 1) := dk_28 (dk_at dksJ3_putChar_1 13 rfl rfl)
theorem dJ3_putChar_38 : decode cJ3_putChar 38 = .ok (.getstatic 59, 3) := dk_178 0 59 (dk_at dksJ3_putChar_1 14 rfl rfl)
theorem dJ3_putChar_41 : decode cJ3_putChar 41 = .ok (.ishr, 1) := dk_122 (dk_at dksJ3_putChar_1 17 rfl rfl)
theorem dJ3_putChar_42 : decode cJ3_putChar 42 = .ok (.i2b, 1) := dk_145 (dk_at dksJ3_putChar_1 18 rfl rfl)
theorem dJ3_putChar_43 : decode cJ3_putChar 43 = .ok (.bastore, 1) := dk_84 (dk_at dksJ3_putChar_1 19 rfl rfl)
theorem dJ3_putChar_44 : decode cJ3_putChar 44 = .ok (.aload_n 0, 1) := dk_42 (dk_at dksJ3_putChar_1 20 rfl rfl)
theorem dJ3_putChar_45 : decode cJ3_putChar 45 = .ok (.iload_n 1, 1) := dk_27 (dk_at dksJ3_putChar_1 21 rfl rfl)
theorem dJ3_putChar_46 : decode cJ3_putChar 46 = .ok (.iload_n 2, 1) := dk_28 (dk_at dksJ3_putChar_1 22 rfl rfl)
theorem dJ3_putChar_47 : decode cJ3_putChar 47 = .ok (.getstatic 63, 3) := dk_178 0 63 (dk_at dksJ3_putChar_2 0 rfl rfl)
theorem dJ3_putChar_50 : decode cJ3_putChar 50 = .ok (.ishr, 1) := dk_122 (dk_at dksJ3_putChar_2 3 rfl rfl)
theorem dJ3_putChar_51 : decode cJ3_putChar 51 = .ok (.i2b, 1) := dk_145 (dk_at dksJ3_putChar_2 4 rfl rfl)
theorem dJ3_putChar_52 : decode cJ3_putChar 52 = .ok (.bastore, 1) := dk_84 (dk_at dksJ3_putChar_2 5 rfl rfl)
theorem dJ3_putChar_53 : decode cJ3_putChar 53 = .ok (.return_, 1) := dk_177 (dk_at dksJ3_putChar_2 6 rfl rfl)
abbrev cJ3_compress_3 : ByteArray := prog_15_method_22_code
def yJ3_compress_3 : MethodName := ⟨RJ3, "compress", "([BI[BII)I"⟩
def dkwJ3_compress_3_2 : List UInt8 := [132, 5, 1, 167, 255, 216, 21, 4, 172]
abbrev dktJ3_compress_3_2 : List UInt8 := dkwJ3_compress_3_2 ++ []
def dkwJ3_compress_3_1 : List UInt8 := [21, 6, 17, 0, 255, 164, 0, 6, 21, 5, 172, 44, 29, 21, 6, 145, 84, 132, 1, 1, 132, 3, 1]
abbrev dktJ3_compress_3_1 : List UInt8 := dkwJ3_compress_3_1 ++ dktJ3_compress_3_2
def dkwJ3_compress_3_0 : List UInt8 := [27, 21, 4, 42, 184, 0, 173, 3, 54, 5, 21, 5, 21, 4, 162, 0, 39, 42, 27, 184, 0, 71, 54, 6]
abbrev dktJ3_compress_3_0 : List UInt8 := dkwJ3_compress_3_0 ++ dktJ3_compress_3_1
theorem dksJ3_compress_3_0 : cJ3_compress_3.data.toList.drop 0 = dktJ3_compress_3_0 := by decide +kernel
theorem dksJ3_compress_3_1 : cJ3_compress_3.data.toList.drop 24 = dktJ3_compress_3_1 := dk_seg dksJ3_compress_3_0 24 rfl rfl
theorem dksJ3_compress_3_2 : cJ3_compress_3.data.toList.drop 47 = dktJ3_compress_3_2 := dk_seg dksJ3_compress_3_1 23 rfl rfl
theorem dJ3_compress_3_0 : decode cJ3_compress_3 0 = .ok (.iload_n 1, 1) := dk_27 (dk_at dksJ3_compress_3_0 0 rfl rfl)
theorem dJ3_compress_3_1 : decode cJ3_compress_3 1 = .ok (.iload 4, 2) := dk_21 4 (dk_at dksJ3_compress_3_0 1 rfl rfl)
theorem dJ3_compress_3_3 : decode cJ3_compress_3 3 = .ok (.aload_n 0, 1) := dk_42 (dk_at dksJ3_compress_3_0 3 rfl rfl)
theorem dJ3_compress_3_4 : decode cJ3_compress_3 4 = .ok (.invokestatic 173, 3) := dk_184 0 173 (dk_at dksJ3_compress_3_0 4 rfl rfl)
theorem dJ3_compress_3_7 : decode cJ3_compress_3 7 = .ok (.iconst 0, 1) := dk_3 (dk_at dksJ3_compress_3_0 7 rfl rfl)
theorem dJ3_compress_3_8 : decode cJ3_compress_3 8 = .ok (.istore 5, 2) := dk_54 5 (dk_at dksJ3_compress_3_0 8 rfl rfl)
theorem dJ3_compress_3_10 : decode cJ3_compress_3 10 = .ok (.iload 5, 2) := dk_21 5 (dk_at dksJ3_compress_3_0 10 rfl rfl)
theorem dJ3_compress_3_12 : decode cJ3_compress_3 12 = .ok (.iload 4, 2) := dk_21 4 (dk_at dksJ3_compress_3_0 12 rfl rfl)
theorem dJ3_compress_3_14 : decode cJ3_compress_3 14 = .ok (.if_icmp .ge 39, 3) := dk_162 0 39 (dk_at dksJ3_compress_3_0 14 rfl rfl)
theorem dJ3_compress_3_17 : decode cJ3_compress_3 17 = .ok (.aload_n 0, 1) := dk_42 (dk_at dksJ3_compress_3_0 17 rfl rfl)
theorem dJ3_compress_3_18 : decode cJ3_compress_3 18 = .ok (.iload_n 1, 1) := dk_27 (dk_at dksJ3_compress_3_0 18 rfl rfl)
theorem dJ3_compress_3_19 : decode cJ3_compress_3 19 = .ok (.invokestatic 71, 3) := dk_184 0 71 (dk_at dksJ3_compress_3_0 19 rfl rfl)
theorem dJ3_compress_3_22 : decode cJ3_compress_3 22 = .ok (.istore 6, 2) := dk_54 6 (dk_at dksJ3_compress_3_0 22 rfl rfl)
theorem dJ3_compress_3_24 : decode cJ3_compress_3 24 = .ok (.iload 6, 2) := dk_21 6 (dk_at dksJ3_compress_3_1 0 rfl rfl)
theorem dJ3_compress_3_26 : decode cJ3_compress_3 26 = .ok (.sipush 255, 3) := dk_17 0 255 (dk_at dksJ3_compress_3_1 2 rfl rfl)
theorem dJ3_compress_3_29 : decode cJ3_compress_3 29 = .ok (.if_icmp .le 6, 3) := dk_164 0 6 (dk_at dksJ3_compress_3_1 5 rfl rfl)
theorem dJ3_compress_3_32 : decode cJ3_compress_3 32 = .ok (.iload 5, 2) := dk_21 5 (dk_at dksJ3_compress_3_1 8 rfl rfl)
theorem dJ3_compress_3_34 : decode cJ3_compress_3 34 = .ok (.ireturn, 1) := dk_172 (dk_at dksJ3_compress_3_1 10 rfl rfl)
theorem dJ3_compress_3_35 : decode cJ3_compress_3 35 = .ok (.aload_n 2, 1) := dk_44 (dk_at dksJ3_compress_3_1 11 rfl rfl)
theorem dJ3_compress_3_36 : decode cJ3_compress_3 36 = .ok (.iload_n 3, 1) := dk_29 (dk_at dksJ3_compress_3_1 12 rfl rfl)
theorem dJ3_compress_3_37 : decode cJ3_compress_3 37 = .ok (.iload 6, 2) := dk_21 6 (dk_at dksJ3_compress_3_1 13 rfl rfl)
theorem dJ3_compress_3_39 : decode cJ3_compress_3 39 = .ok (.i2b, 1) := dk_145 (dk_at dksJ3_compress_3_1 15 rfl rfl)
theorem dJ3_compress_3_40 : decode cJ3_compress_3 40 = .ok (.bastore, 1) := dk_84 (dk_at dksJ3_compress_3_1 16 rfl rfl)
theorem dJ3_compress_3_41 : decode cJ3_compress_3 41 = .ok (.iinc 1 1, 3) := dk_132 1 1 (dk_at dksJ3_compress_3_1 17 rfl rfl)
theorem dJ3_compress_3_44 : decode cJ3_compress_3 44 = .ok (.iinc 3 1, 3) := dk_132 3 1 (dk_at dksJ3_compress_3_1 20 rfl rfl)
theorem dJ3_compress_3_47 : decode cJ3_compress_3 47 = .ok (.iinc 5 1, 3) := dk_132 5 1 (dk_at dksJ3_compress_3_2 0 rfl rfl)
theorem dJ3_compress_3_50 : decode cJ3_compress_3 50 = .ok (.goto (-40), 3) := dk_167 255 216 (dk_at dksJ3_compress_3_2 3 rfl rfl)
theorem dJ3_compress_3_53 : decode cJ3_compress_3 53 = .ok (.iload 4, 2) := dk_21 4 (dk_at dksJ3_compress_3_2 6 rfl rfl)
theorem dJ3_compress_3_55 : decode cJ3_compress_3 55 = .ok (.ireturn, 1) := dk_172 (dk_at dksJ3_compress_3_2 8 rfl rfl)
abbrev cJ3_checkBoundsOffCount : ByteArray := prog_15_method_94_code
def yJ3_checkBoundsOffCount : MethodName := ⟨RJ3, "checkBoundsOffCount", "(II[B)V"⟩
def dkwJ3_checkBoundsOffCount_0 : List UInt8 := [26, 27, 44, 184, 0, 48, 184, 1, 163, 87, 177]
abbrev dktJ3_checkBoundsOffCount_0 : List UInt8 := dkwJ3_checkBoundsOffCount_0 ++ []
theorem dksJ3_checkBoundsOffCount_0 : cJ3_checkBoundsOffCount.data.toList.drop 0 = dktJ3_checkBoundsOffCount_0 := by decide +kernel
theorem dJ3_checkBoundsOffCount_0 : decode cJ3_checkBoundsOffCount 0 = .ok (.iload_n 0, 1) := dk_26 (dk_at dksJ3_checkBoundsOffCount_0 0 rfl rfl)
theorem dJ3_checkBoundsOffCount_1 : decode cJ3_checkBoundsOffCount 1 = .ok (.iload_n 1, 1) := dk_27 (dk_at dksJ3_checkBoundsOffCount_0 1 rfl rfl)
theorem dJ3_checkBoundsOffCount_2 : decode cJ3_checkBoundsOffCount 2 = .ok (.aload_n 2, 1) := dk_44 (dk_at dksJ3_checkBoundsOffCount_0 2 rfl rfl)
theorem dJ3_checkBoundsOffCount_3 : decode cJ3_checkBoundsOffCount 3 = .ok (.invokestatic 48, 3) := dk_184 0 48 (dk_at dksJ3_checkBoundsOffCount_0 3 rfl rfl)
theorem dJ3_checkBoundsOffCount_6 : decode cJ3_checkBoundsOffCount 6 = .ok (.invokestatic 419, 3) := dk_184 1 163 (dk_at dksJ3_checkBoundsOffCount_0 6 rfl rfl)
theorem dJ3_checkBoundsOffCount_9 : decode cJ3_checkBoundsOffCount 9 = .ok (.pop, 1) := dk_87 (dk_at dksJ3_checkBoundsOffCount_0 9 rfl rfl)
theorem dJ3_checkBoundsOffCount_10 : decode cJ3_checkBoundsOffCount 10 = .ok (.return_, 1) := dk_177 (dk_at dksJ3_checkBoundsOffCount_0 10 rfl rfl)
abbrev cJ3_coderFromArrayLen : ByteArray := prog_15_method_15_code
def yJ3_coderFromArrayLen : MethodName := ⟨RJ3, "coderFromArrayLen", "([BI)B"⟩
def dkwJ3_coderFromArrayLen_0 : List UInt8 := [27, 42, 190, 100, 16, 31, 124, 145, 172]
abbrev dktJ3_coderFromArrayLen_0 : List UInt8 := dkwJ3_coderFromArrayLen_0 ++ []
theorem dksJ3_coderFromArrayLen_0 : cJ3_coderFromArrayLen.data.toList.drop 0 = dktJ3_coderFromArrayLen_0 := by decide +kernel
theorem dJ3_coderFromArrayLen_0 : decode cJ3_coderFromArrayLen 0 = .ok (.iload_n 1, 1) := dk_27 (dk_at dksJ3_coderFromArrayLen_0 0 rfl rfl)
theorem dJ3_coderFromArrayLen_1 : decode cJ3_coderFromArrayLen 1 = .ok (.aload_n 0, 1) := dk_42 (dk_at dksJ3_coderFromArrayLen_0 1 rfl rfl)
theorem dJ3_coderFromArrayLen_2 : decode cJ3_coderFromArrayLen 2 = .ok (.arraylength, 1) := dk_190 (dk_at dksJ3_coderFromArrayLen_0 2 rfl rfl)
theorem dJ3_coderFromArrayLen_3 : decode cJ3_coderFromArrayLen 3 = .ok (.isub, 1) := dk_100 (dk_at dksJ3_coderFromArrayLen_0 3 rfl rfl)
theorem dJ3_coderFromArrayLen_4 : decode cJ3_coderFromArrayLen 4 = .ok (.bipush 31, 2) := dk_16 31 (dk_at dksJ3_coderFromArrayLen_0 4 rfl rfl)
theorem dJ3_coderFromArrayLen_6 : decode cJ3_coderFromArrayLen 6 = .ok (.iushr, 1) := dk_124 (dk_at dksJ3_coderFromArrayLen_0 6 rfl rfl)
theorem dJ3_coderFromArrayLen_7 : decode cJ3_coderFromArrayLen 7 = .ok (.i2b, 1) := dk_145 (dk_at dksJ3_coderFromArrayLen_0 7 rfl rfl)
theorem dJ3_coderFromArrayLen_8 : decode cJ3_coderFromArrayLen 8 = .ok (.ireturn, 1) := dk_172 (dk_at dksJ3_coderFromArrayLen_0 8 rfl rfl)
abbrev cJ3_putCharsAt : ByteArray := prog_15_method_81_code
def yJ3_putCharsAt : MethodName := ⟨RJ3, "putCharsAt", "([BICCCC)I"⟩
def dkwJ3_putCharsAt_3 : List UInt8 := [21, 6, 172]
abbrev dktJ3_putCharsAt_3 : List UInt8 := dkwJ3_putCharsAt_3 ++ []
def dkwJ3_putCharsAt_2 : List UInt8 := [184, 0, 111, 178, 0, 44, 154, 0, 17, 27, 21, 6, 159, 0, 11, 187, 0, 52, 89, 183, 0, 66, 191]
abbrev dktJ3_putCharsAt_2 : List UInt8 := dkwJ3_putCharsAt_2 ++ dktJ3_putCharsAt_3
def dkwJ3_putCharsAt_1 : List UInt8 := [132, 1, 1, 29, 184, 0, 111, 42, 27, 132, 1, 1, 21, 4, 184, 0, 111, 42, 27, 132, 1, 1, 21, 5]
abbrev dktJ3_putCharsAt_1 : List UInt8 := dkwJ3_putCharsAt_1 ++ dktJ3_putCharsAt_2
def dkwJ3_putCharsAt_0 : List UInt8 := [27, 7, 96, 54, 6, 27, 21, 6, 42, 184, 0, 96, 42, 27, 132, 1, 1, 28, 184, 0, 111, 42, 27]
abbrev dktJ3_putCharsAt_0 : List UInt8 := dkwJ3_putCharsAt_0 ++ dktJ3_putCharsAt_1
theorem dksJ3_putCharsAt_0 : cJ3_putCharsAt.data.toList.drop 0 = dktJ3_putCharsAt_0 := by decide +kernel
theorem dksJ3_putCharsAt_1 : cJ3_putCharsAt.data.toList.drop 23 = dktJ3_putCharsAt_1 := dk_seg dksJ3_putCharsAt_0 23 rfl rfl
theorem dksJ3_putCharsAt_2 : cJ3_putCharsAt.data.toList.drop 47 = dktJ3_putCharsAt_2 := dk_seg dksJ3_putCharsAt_1 24 rfl rfl
theorem dksJ3_putCharsAt_3 : cJ3_putCharsAt.data.toList.drop 70 = dktJ3_putCharsAt_3 := dk_seg dksJ3_putCharsAt_2 23 rfl rfl
theorem dJ3_putCharsAt_0 : decode cJ3_putCharsAt 0 = .ok (.iload_n 1, 1) := dk_27 (dk_at dksJ3_putCharsAt_0 0 rfl rfl)
theorem dJ3_putCharsAt_1 : decode cJ3_putCharsAt 1 = .ok (.iconst 4, 1) := dk_7 (dk_at dksJ3_putCharsAt_0 1 rfl rfl)
theorem dJ3_putCharsAt_2 : decode cJ3_putCharsAt 2 = .ok (.iadd, 1) := dk_96 (dk_at dksJ3_putCharsAt_0 2 rfl rfl)
theorem dJ3_putCharsAt_3 : decode cJ3_putCharsAt 3 = .ok (.istore 6, 2) := dk_54 6 (dk_at dksJ3_putCharsAt_0 3 rfl rfl)
theorem dJ3_putCharsAt_5 : decode cJ3_putCharsAt 5 = .ok (.iload_n 1, 1) := dk_27 (dk_at dksJ3_putCharsAt_0 5 rfl rfl)
theorem dJ3_putCharsAt_6 : decode cJ3_putCharsAt 6 = .ok (.iload 6, 2) := dk_21 6 (dk_at dksJ3_putCharsAt_0 6 rfl rfl)
theorem dJ3_putCharsAt_8 : decode cJ3_putCharsAt 8 = .ok (.aload_n 0, 1) := dk_42 (dk_at dksJ3_putCharsAt_0 8 rfl rfl)
theorem dJ3_putCharsAt_9 : decode cJ3_putCharsAt 9 = .ok (.invokestatic 96, 3) := dk_184 0 96 (dk_at dksJ3_putCharsAt_0 9 rfl rfl)
theorem dJ3_putCharsAt_12 : decode cJ3_putCharsAt 12 = .ok (.aload_n 0, 1) := dk_42 (dk_at dksJ3_putCharsAt_0 12 rfl rfl)
theorem dJ3_putCharsAt_13 : decode cJ3_putCharsAt 13 = .ok (.iload_n 1, 1) := dk_27 (dk_at dksJ3_putCharsAt_0 13 rfl rfl)
theorem dJ3_putCharsAt_14 : decode cJ3_putCharsAt 14 = .ok (.iinc 1 1, 3) := dk_132 1 1 (dk_at dksJ3_putCharsAt_0 14 rfl rfl)
theorem dJ3_putCharsAt_17 : decode cJ3_putCharsAt 17 = .ok (.iload_n 2, 1) := dk_28 (dk_at dksJ3_putCharsAt_0 17 rfl rfl)
theorem dJ3_putCharsAt_18 : decode cJ3_putCharsAt 18 = .ok (.invokestatic 111, 3) := dk_184 0 111 (dk_at dksJ3_putCharsAt_0 18 rfl rfl)
theorem dJ3_putCharsAt_21 : decode cJ3_putCharsAt 21 = .ok (.aload_n 0, 1) := dk_42 (dk_at dksJ3_putCharsAt_0 21 rfl rfl)
theorem dJ3_putCharsAt_22 : decode cJ3_putCharsAt 22 = .ok (.iload_n 1, 1) := dk_27 (dk_at dksJ3_putCharsAt_0 22 rfl rfl)
theorem dJ3_putCharsAt_23 : decode cJ3_putCharsAt 23 = .ok (.iinc 1 1, 3) := dk_132 1 1 (dk_at dksJ3_putCharsAt_1 0 rfl rfl)
theorem dJ3_putCharsAt_26 : decode cJ3_putCharsAt 26 = .ok (.iload_n 3, 1) := dk_29 (dk_at dksJ3_putCharsAt_1 3 rfl rfl)
theorem dJ3_putCharsAt_27 : decode cJ3_putCharsAt 27 = .ok (.invokestatic 111, 3) := dk_184 0 111 (dk_at dksJ3_putCharsAt_1 4 rfl rfl)
theorem dJ3_putCharsAt_30 : decode cJ3_putCharsAt 30 = .ok (.aload_n 0, 1) := dk_42 (dk_at dksJ3_putCharsAt_1 7 rfl rfl)
theorem dJ3_putCharsAt_31 : decode cJ3_putCharsAt 31 = .ok (.iload_n 1, 1) := dk_27 (dk_at dksJ3_putCharsAt_1 8 rfl rfl)
theorem dJ3_putCharsAt_32 : decode cJ3_putCharsAt 32 = .ok (.iinc 1 1, 3) := dk_132 1 1 (dk_at dksJ3_putCharsAt_1 9 rfl rfl)
theorem dJ3_putCharsAt_35 : decode cJ3_putCharsAt 35 = .ok (.iload 4, 2) := dk_21 4 (dk_at dksJ3_putCharsAt_1 12 rfl rfl)
theorem dJ3_putCharsAt_37 : decode cJ3_putCharsAt 37 = .ok (.invokestatic 111, 3) := dk_184 0 111 (dk_at dksJ3_putCharsAt_1 14 rfl rfl)
theorem dJ3_putCharsAt_40 : decode cJ3_putCharsAt 40 = .ok (.aload_n 0, 1) := dk_42 (dk_at dksJ3_putCharsAt_1 17 rfl rfl)
theorem dJ3_putCharsAt_41 : decode cJ3_putCharsAt 41 = .ok (.iload_n 1, 1) := dk_27 (dk_at dksJ3_putCharsAt_1 18 rfl rfl)
theorem dJ3_putCharsAt_42 : decode cJ3_putCharsAt 42 = .ok (.iinc 1 1, 3) := dk_132 1 1 (dk_at dksJ3_putCharsAt_1 19 rfl rfl)
theorem dJ3_putCharsAt_45 : decode cJ3_putCharsAt 45 = .ok (.iload 5, 2) := dk_21 5 (dk_at dksJ3_putCharsAt_1 22 rfl rfl)
theorem dJ3_putCharsAt_47 : decode cJ3_putCharsAt 47 = .ok (.invokestatic 111, 3) := dk_184 0 111 (dk_at dksJ3_putCharsAt_2 0 rfl rfl)
theorem dJ3_putCharsAt_50 : decode cJ3_putCharsAt 50 = .ok (.getstatic 44, 3) := dk_178 0 44 (dk_at dksJ3_putCharsAt_2 3 rfl rfl)
theorem dJ3_putCharsAt_53 : decode cJ3_putCharsAt 53 = .ok (.ifCond .ne 17, 3) := dk_154 0 17 (dk_at dksJ3_putCharsAt_2 6 rfl rfl)
theorem dJ3_putCharsAt_56 : decode cJ3_putCharsAt 56 = .ok (.iload_n 1, 1) := dk_27 (dk_at dksJ3_putCharsAt_2 9 rfl rfl)
theorem dJ3_putCharsAt_57 : decode cJ3_putCharsAt 57 = .ok (.iload 6, 2) := dk_21 6 (dk_at dksJ3_putCharsAt_2 10 rfl rfl)
theorem dJ3_putCharsAt_59 : decode cJ3_putCharsAt 59 = .ok (.if_icmp .eq 11, 3) := dk_159 0 11 (dk_at dksJ3_putCharsAt_2 12 rfl rfl)
theorem dJ3_putCharsAt_62 : decode cJ3_putCharsAt 62 = .ok (.new 52, 3) := dk_187 0 52 (dk_at dksJ3_putCharsAt_2 15 rfl rfl)
theorem dJ3_putCharsAt_65 : decode cJ3_putCharsAt 65 = .ok (.dup, 1) := dk_89 (dk_at dksJ3_putCharsAt_2 18 rfl rfl)
theorem dJ3_putCharsAt_66 : decode cJ3_putCharsAt 66 = .ok (.invokespecial 66, 3) := dk_183 0 66 (dk_at dksJ3_putCharsAt_2 19 rfl rfl)
theorem dJ3_putCharsAt_69 : decode cJ3_putCharsAt 69 = .ok (.athrow, 1) := dk_191 (dk_at dksJ3_putCharsAt_2 22 rfl rfl)
theorem dJ3_putCharsAt_70 : decode cJ3_putCharsAt 70 = .ok (.iload 6, 2) := dk_21 6 (dk_at dksJ3_putCharsAt_3 0 rfl rfl)
theorem dJ3_putCharsAt_72 : decode cJ3_putCharsAt 72 = .ok (.ireturn, 1) := dk_172 (dk_at dksJ3_putCharsAt_3 2 rfl rfl)
abbrev cJ3_checkBoundsBeginEnd : ByteArray := prog_15_method_93_code
def yJ3_checkBoundsBeginEnd : MethodName := ⟨RJ3, "checkBoundsBeginEnd", "(II[B)V"⟩
def dkwJ3_checkBoundsBeginEnd_0 : List UInt8 := [26, 27, 44, 184, 0, 48, 184, 0, 241, 177]
abbrev dktJ3_checkBoundsBeginEnd_0 : List UInt8 := dkwJ3_checkBoundsBeginEnd_0 ++ []
theorem dksJ3_checkBoundsBeginEnd_0 : cJ3_checkBoundsBeginEnd.data.toList.drop 0 = dktJ3_checkBoundsBeginEnd_0 := by decide +kernel
theorem dJ3_checkBoundsBeginEnd_0 : decode cJ3_checkBoundsBeginEnd 0 = .ok (.iload_n 0, 1) := dk_26 (dk_at dksJ3_checkBoundsBeginEnd_0 0 rfl rfl)
theorem dJ3_checkBoundsBeginEnd_1 : decode cJ3_checkBoundsBeginEnd 1 = .ok (.iload_n 1, 1) := dk_27 (dk_at dksJ3_checkBoundsBeginEnd_0 1 rfl rfl)
theorem dJ3_checkBoundsBeginEnd_2 : decode cJ3_checkBoundsBeginEnd 2 = .ok (.aload_n 2, 1) := dk_44 (dk_at dksJ3_checkBoundsBeginEnd_0 2 rfl rfl)
theorem dJ3_checkBoundsBeginEnd_3 : decode cJ3_checkBoundsBeginEnd 3 = .ok (.invokestatic 48, 3) := dk_184 0 48 (dk_at dksJ3_checkBoundsBeginEnd_0 3 rfl rfl)
theorem dJ3_checkBoundsBeginEnd_6 : decode cJ3_checkBoundsBeginEnd 6 = .ok (.invokestatic 241, 3) := dk_184 0 241 (dk_at dksJ3_checkBoundsBeginEnd_0 6 rfl rfl)
theorem dJ3_checkBoundsBeginEnd_9 : decode cJ3_checkBoundsBeginEnd 9 = .ok (.return_, 1) := dk_177 (dk_at dksJ3_checkBoundsBeginEnd_0 9 rfl rfl)
abbrev cJ3_inflate : ByteArray := prog_15_method_86_code
def yJ3_inflate : MethodName := ⟨RJ3, "inflate", "([BI[BII)V"⟩
def dkwJ3_inflate_1 : List UInt8 := [132, 1, 1, 51, 17, 0, 255, 126, 184, 0, 111, 132, 5, 1, 167, 255, 228, 177]
abbrev dktJ3_inflate_1 : List UInt8 := dkwJ3_inflate_1 ++ []
def dkwJ3_inflate_0 : List UInt8 := [29, 21, 4, 44, 184, 0, 173, 3, 54, 5, 21, 5, 21, 4, 162, 0, 27, 44, 29, 132, 3, 1, 42, 27]
abbrev dktJ3_inflate_0 : List UInt8 := dkwJ3_inflate_0 ++ dktJ3_inflate_1
theorem dksJ3_inflate_0 : cJ3_inflate.data.toList.drop 0 = dktJ3_inflate_0 := by decide +kernel
theorem dksJ3_inflate_1 : cJ3_inflate.data.toList.drop 24 = dktJ3_inflate_1 := dk_seg dksJ3_inflate_0 24 rfl rfl
theorem dJ3_inflate_0 : decode cJ3_inflate 0 = .ok (.iload_n 3, 1) := dk_29 (dk_at dksJ3_inflate_0 0 rfl rfl)
theorem dJ3_inflate_1 : decode cJ3_inflate 1 = .ok (.iload 4, 2) := dk_21 4 (dk_at dksJ3_inflate_0 1 rfl rfl)
theorem dJ3_inflate_3 : decode cJ3_inflate 3 = .ok (.aload_n 2, 1) := dk_44 (dk_at dksJ3_inflate_0 3 rfl rfl)
theorem dJ3_inflate_4 : decode cJ3_inflate 4 = .ok (.invokestatic 173, 3) := dk_184 0 173 (dk_at dksJ3_inflate_0 4 rfl rfl)
theorem dJ3_inflate_7 : decode cJ3_inflate 7 = .ok (.iconst 0, 1) := dk_3 (dk_at dksJ3_inflate_0 7 rfl rfl)
theorem dJ3_inflate_8 : decode cJ3_inflate 8 = .ok (.istore 5, 2) := dk_54 5 (dk_at dksJ3_inflate_0 8 rfl rfl)
theorem dJ3_inflate_10 : decode cJ3_inflate 10 = .ok (.iload 5, 2) := dk_21 5 (dk_at dksJ3_inflate_0 10 rfl rfl)
theorem dJ3_inflate_12 : decode cJ3_inflate 12 = .ok (.iload 4, 2) := dk_21 4 (dk_at dksJ3_inflate_0 12 rfl rfl)
theorem dJ3_inflate_14 : decode cJ3_inflate 14 = .ok (.if_icmp .ge 27, 3) := dk_162 0 27 (dk_at dksJ3_inflate_0 14 rfl rfl)
theorem dJ3_inflate_17 : decode cJ3_inflate 17 = .ok (.aload_n 2, 1) := dk_44 (dk_at dksJ3_inflate_0 17 rfl rfl)
theorem dJ3_inflate_18 : decode cJ3_inflate 18 = .ok (.iload_n 3, 1) := dk_29 (dk_at dksJ3_inflate_0 18 rfl rfl)
theorem dJ3_inflate_19 : decode cJ3_inflate 19 = .ok (.iinc 3 1, 3) := dk_132 3 1 (dk_at dksJ3_inflate_0 19 rfl rfl)
theorem dJ3_inflate_22 : decode cJ3_inflate 22 = .ok (.aload_n 0, 1) := dk_42 (dk_at dksJ3_inflate_0 22 rfl rfl)
theorem dJ3_inflate_23 : decode cJ3_inflate 23 = .ok (.iload_n 1, 1) := dk_27 (dk_at dksJ3_inflate_0 23 rfl rfl)
theorem dJ3_inflate_24 : decode cJ3_inflate 24 = .ok (.iinc 1 1, 3) := dk_132 1 1 (dk_at dksJ3_inflate_1 0 rfl rfl)
theorem dJ3_inflate_27 : decode cJ3_inflate 27 = .ok (.baload, 1) := dk_51 (dk_at dksJ3_inflate_1 3 rfl rfl)
theorem dJ3_inflate_28 : decode cJ3_inflate 28 = .ok (.sipush 255, 3) := dk_17 0 255 (dk_at dksJ3_inflate_1 4 rfl rfl)
theorem dJ3_inflate_31 : decode cJ3_inflate 31 = .ok (.iand, 1) := dk_126 (dk_at dksJ3_inflate_1 7 rfl rfl)
theorem dJ3_inflate_32 : decode cJ3_inflate 32 = .ok (.invokestatic 111, 3) := dk_184 0 111 (dk_at dksJ3_inflate_1 8 rfl rfl)
theorem dJ3_inflate_35 : decode cJ3_inflate 35 = .ok (.iinc 5 1, 3) := dk_132 5 1 (dk_at dksJ3_inflate_1 11 rfl rfl)
theorem dJ3_inflate_38 : decode cJ3_inflate 38 = .ok (.goto (-28), 3) := dk_167 255 228 (dk_at dksJ3_inflate_1 14 rfl rfl)
theorem dJ3_inflate_41 : decode cJ3_inflate 41 = .ok (.return_, 1) := dk_177 (dk_at dksJ3_inflate_1 17 rfl rfl)
abbrev cJ3_fillNull : ByteArray := prog_15_method_70_code
def yJ3_fillNull : MethodName := ⟨RJ3, "fillNull", "([BII)V"⟩
def dkwJ3_fillNull_0 : List UInt8 := [42, 27, 4, 120, 28, 4, 120, 3, 184, 1, 124, 177]
abbrev dktJ3_fillNull_0 : List UInt8 := dkwJ3_fillNull_0 ++ []
theorem dksJ3_fillNull_0 : cJ3_fillNull.data.toList.drop 0 = dktJ3_fillNull_0 := by decide +kernel
theorem dJ3_fillNull_0 : decode cJ3_fillNull 0 = .ok (.aload_n 0, 1) := dk_42 (dk_at dksJ3_fillNull_0 0 rfl rfl)
theorem dJ3_fillNull_1 : decode cJ3_fillNull 1 = .ok (.iload_n 1, 1) := dk_27 (dk_at dksJ3_fillNull_0 1 rfl rfl)
theorem dJ3_fillNull_2 : decode cJ3_fillNull 2 = .ok (.iconst 1, 1) := dk_4 (dk_at dksJ3_fillNull_0 2 rfl rfl)
theorem dJ3_fillNull_3 : decode cJ3_fillNull 3 = .ok (.ishl, 1) := dk_120 (dk_at dksJ3_fillNull_0 3 rfl rfl)
theorem dJ3_fillNull_4 : decode cJ3_fillNull 4 = .ok (.iload_n 2, 1) := dk_28 (dk_at dksJ3_fillNull_0 4 rfl rfl)
theorem dJ3_fillNull_5 : decode cJ3_fillNull 5 = .ok (.iconst 1, 1) := dk_4 (dk_at dksJ3_fillNull_0 5 rfl rfl)
theorem dJ3_fillNull_6 : decode cJ3_fillNull 6 = .ok (.ishl, 1) := dk_120 (dk_at dksJ3_fillNull_0 6 rfl rfl)
theorem dJ3_fillNull_7 : decode cJ3_fillNull 7 = .ok (.iconst 0, 1) := dk_3 (dk_at dksJ3_fillNull_0 7 rfl rfl)
theorem dJ3_fillNull_8 : decode cJ3_fillNull 8 = .ok (.invokestatic 380, 3) := dk_184 1 124 (dk_at dksJ3_fillNull_0 8 rfl rfl)
theorem dJ3_fillNull_11 : decode cJ3_fillNull 11 = .ok (.return_, 1) := dk_177 (dk_at dksJ3_fillNull_0 11 rfl rfl)
abbrev cJ3_putCharSB : ByteArray := prog_15_method_71_code
def yJ3_putCharSB : MethodName := ⟨RJ3, "putCharSB", "([BII)V"⟩
def dkwJ3_putCharSB_0 : List UInt8 := [27, 42, 184, 0, 67, 42, 27, 28, 184, 0, 111, 177]
abbrev dktJ3_putCharSB_0 : List UInt8 := dkwJ3_putCharSB_0 ++ []
theorem dksJ3_putCharSB_0 : cJ3_putCharSB.data.toList.drop 0 = dktJ3_putCharSB_0 := by decide +kernel
theorem dJ3_putCharSB_0 : decode cJ3_putCharSB 0 = .ok (.iload_n 1, 1) := dk_27 (dk_at dksJ3_putCharSB_0 0 rfl rfl)
theorem dJ3_putCharSB_1 : decode cJ3_putCharSB 1 = .ok (.aload_n 0, 1) := dk_42 (dk_at dksJ3_putCharSB_0 1 rfl rfl)
theorem dJ3_putCharSB_2 : decode cJ3_putCharSB 2 = .ok (.invokestatic 67, 3) := dk_184 0 67 (dk_at dksJ3_putCharSB_0 2 rfl rfl)
theorem dJ3_putCharSB_5 : decode cJ3_putCharSB 5 = .ok (.aload_n 0, 1) := dk_42 (dk_at dksJ3_putCharSB_0 5 rfl rfl)
theorem dJ3_putCharSB_6 : decode cJ3_putCharSB 6 = .ok (.iload_n 1, 1) := dk_27 (dk_at dksJ3_putCharSB_0 6 rfl rfl)
theorem dJ3_putCharSB_7 : decode cJ3_putCharSB 7 = .ok (.iload_n 2, 1) := dk_28 (dk_at dksJ3_putCharSB_0 7 rfl rfl)
theorem dJ3_putCharSB_8 : decode cJ3_putCharSB 8 = .ok (.invokestatic 111, 3) := dk_184 0 111 (dk_at dksJ3_putCharSB_0 8 rfl rfl)
theorem dJ3_putCharSB_11 : decode cJ3_putCharSB 11 = .ok (.return_, 1) := dk_177 (dk_at dksJ3_putCharSB_0 11 rfl rfl)
abbrev cJ3_compress_4 : ByteArray := prog_15_method_17_code
def yJ3_compress_4 : MethodName := ⟨RJ3, "compress", "([BII)[B"⟩
def dkwJ3_compress_4_2 : List UInt8 := [25, 5, 3, 45, 3, 28, 184, 0, 123, 28, 159, 0, 6, 25, 5, 176, 45, 176]
abbrev dktJ3_compress_4_2 : List UInt8 := dkwJ3_compress_4_2 ++ []
def dkwJ3_compress_4_1 : List UInt8 := [27, 28, 96, 184, 0, 11, 184, 0, 126, 58, 5, 25, 5, 21, 4, 184, 0, 71, 17, 0, 255, 163, 0, 16]
abbrev dktJ3_compress_4_1 : List UInt8 := dkwJ3_compress_4_1 ++ dktJ3_compress_4_2
def dkwJ3_compress_4_0 : List UInt8 := [28, 188, 8, 78, 42, 27, 45, 3, 28, 184, 0, 123, 54, 4, 21, 4, 28, 159, 0, 47, 42, 27, 4, 120]
abbrev dktJ3_compress_4_0 : List UInt8 := dkwJ3_compress_4_0 ++ dktJ3_compress_4_1
theorem dksJ3_compress_4_0 : cJ3_compress_4.data.toList.drop 0 = dktJ3_compress_4_0 := by decide +kernel
theorem dksJ3_compress_4_1 : cJ3_compress_4.data.toList.drop 24 = dktJ3_compress_4_1 := dk_seg dksJ3_compress_4_0 24 rfl rfl
theorem dksJ3_compress_4_2 : cJ3_compress_4.data.toList.drop 48 = dktJ3_compress_4_2 := dk_seg dksJ3_compress_4_1 24 rfl rfl
theorem dJ3_compress_4_0 : decode cJ3_compress_4 0 = .ok (.iload_n 2, 1) := dk_28 (dk_at dksJ3_compress_4_0 0 rfl rfl)
theorem dJ3_compress_4_1 : decode cJ3_compress_4 1 = .ok (.newarray .byte, 2) := dk_188_8 (dk_at dksJ3_compress_4_0 1 rfl rfl)
theorem dJ3_compress_4_3 : decode cJ3_compress_4 3 = .ok (.astore_n 3, 1) := dk_78 (dk_at dksJ3_compress_4_0 3 rfl rfl)
theorem dJ3_compress_4_4 : decode cJ3_compress_4 4 = .ok (.aload_n 0, 1) := dk_42 (dk_at dksJ3_compress_4_0 4 rfl rfl)
theorem dJ3_compress_4_5 : decode cJ3_compress_4 5 = .ok (.iload_n 1, 1) := dk_27 (dk_at dksJ3_compress_4_0 5 rfl rfl)
theorem dJ3_compress_4_6 : decode cJ3_compress_4 6 = .ok (.aload_n 3, 1) := dk_45 (dk_at dksJ3_compress_4_0 6 rfl rfl)
theorem dJ3_compress_4_7 : decode cJ3_compress_4 7 = .ok (.iconst 0, 1) := dk_3 (dk_at dksJ3_compress_4_0 7 rfl rfl)
theorem dJ3_compress_4_8 : decode cJ3_compress_4 8 = .ok (.iload_n 2, 1) := dk_28 (dk_at dksJ3_compress_4_0 8 rfl rfl)
theorem dJ3_compress_4_9 : decode cJ3_compress_4 9 = .ok (.invokestatic 123, 3) := dk_184 0 123 (dk_at dksJ3_compress_4_0 9 rfl rfl)
theorem dJ3_compress_4_12 : decode cJ3_compress_4 12 = .ok (.istore 4, 2) := dk_54 4 (dk_at dksJ3_compress_4_0 12 rfl rfl)
theorem dJ3_compress_4_14 : decode cJ3_compress_4 14 = .ok (.iload 4, 2) := dk_21 4 (dk_at dksJ3_compress_4_0 14 rfl rfl)
theorem dJ3_compress_4_16 : decode cJ3_compress_4 16 = .ok (.iload_n 2, 1) := dk_28 (dk_at dksJ3_compress_4_0 16 rfl rfl)
theorem dJ3_compress_4_17 : decode cJ3_compress_4 17 = .ok (.if_icmp .eq 47, 3) := dk_159 0 47 (dk_at dksJ3_compress_4_0 17 rfl rfl)
theorem dJ3_compress_4_20 : decode cJ3_compress_4 20 = .ok (.aload_n 0, 1) := dk_42 (dk_at dksJ3_compress_4_0 20 rfl rfl)
theorem dJ3_compress_4_21 : decode cJ3_compress_4 21 = .ok (.iload_n 1, 1) := dk_27 (dk_at dksJ3_compress_4_0 21 rfl rfl)
theorem dJ3_compress_4_22 : decode cJ3_compress_4 22 = .ok (.iconst 1, 1) := dk_4 (dk_at dksJ3_compress_4_0 22 rfl rfl)
theorem dJ3_compress_4_23 : decode cJ3_compress_4 23 = .ok (.ishl, 1) := dk_120 (dk_at dksJ3_compress_4_0 23 rfl rfl)
theorem dJ3_compress_4_24 : decode cJ3_compress_4 24 = .ok (.iload_n 1, 1) := dk_27 (dk_at dksJ3_compress_4_1 0 rfl rfl)
theorem dJ3_compress_4_25 : decode cJ3_compress_4 25 = .ok (.iload_n 2, 1) := dk_28 (dk_at dksJ3_compress_4_1 1 rfl rfl)
theorem dJ3_compress_4_26 : decode cJ3_compress_4 26 = .ok (.iadd, 1) := dk_96 (dk_at dksJ3_compress_4_1 2 rfl rfl)
theorem dJ3_compress_4_27 : decode cJ3_compress_4 27 = .ok (.invokestatic 11, 3) := dk_184 0 11 (dk_at dksJ3_compress_4_1 3 rfl rfl)
theorem dJ3_compress_4_30 : decode cJ3_compress_4 30 = .ok (.invokestatic 126, 3) := dk_184 0 126 (dk_at dksJ3_compress_4_1 6 rfl rfl)
theorem dJ3_compress_4_33 : decode cJ3_compress_4 33 = .ok (.astore 5, 2) := dk_58 5 (dk_at dksJ3_compress_4_1 9 rfl rfl)
theorem dJ3_compress_4_35 : decode cJ3_compress_4 35 = .ok (.aload 5, 2) := dk_25 5 (dk_at dksJ3_compress_4_1 11 rfl rfl)
theorem dJ3_compress_4_37 : decode cJ3_compress_4 37 = .ok (.iload 4, 2) := dk_21 4 (dk_at dksJ3_compress_4_1 13 rfl rfl)
theorem dJ3_compress_4_39 : decode cJ3_compress_4 39 = .ok (.invokestatic 71, 3) := dk_184 0 71 (dk_at dksJ3_compress_4_1 15 rfl rfl)
theorem dJ3_compress_4_42 : decode cJ3_compress_4 42 = .ok (.sipush 255, 3) := dk_17 0 255 (dk_at dksJ3_compress_4_1 18 rfl rfl)
theorem dJ3_compress_4_45 : decode cJ3_compress_4 45 = .ok (.if_icmp .gt 16, 3) := dk_163 0 16 (dk_at dksJ3_compress_4_1 21 rfl rfl)
theorem dJ3_compress_4_48 : decode cJ3_compress_4 48 = .ok (.aload 5, 2) := dk_25 5 (dk_at dksJ3_compress_4_2 0 rfl rfl)
theorem dJ3_compress_4_50 : decode cJ3_compress_4 50 = .ok (.iconst 0, 1) := dk_3 (dk_at dksJ3_compress_4_2 2 rfl rfl)
theorem dJ3_compress_4_51 : decode cJ3_compress_4 51 = .ok (.aload_n 3, 1) := dk_45 (dk_at dksJ3_compress_4_2 3 rfl rfl)
theorem dJ3_compress_4_52 : decode cJ3_compress_4 52 = .ok (.iconst 0, 1) := dk_3 (dk_at dksJ3_compress_4_2 4 rfl rfl)
theorem dJ3_compress_4_53 : decode cJ3_compress_4 53 = .ok (.iload_n 2, 1) := dk_28 (dk_at dksJ3_compress_4_2 5 rfl rfl)
theorem dJ3_compress_4_54 : decode cJ3_compress_4 54 = .ok (.invokestatic 123, 3) := dk_184 0 123 (dk_at dksJ3_compress_4_2 6 rfl rfl)
theorem dJ3_compress_4_57 : decode cJ3_compress_4 57 = .ok (.iload_n 2, 1) := dk_28 (dk_at dksJ3_compress_4_2 9 rfl rfl)
theorem dJ3_compress_4_58 : decode cJ3_compress_4 58 = .ok (.if_icmp .eq 6, 3) := dk_159 0 6 (dk_at dksJ3_compress_4_2 10 rfl rfl)
theorem dJ3_compress_4_61 : decode cJ3_compress_4 61 = .ok (.aload 5, 2) := dk_25 5 (dk_at dksJ3_compress_4_2 13 rfl rfl)
theorem dJ3_compress_4_63 : decode cJ3_compress_4 63 = .ok (.areturn, 1) := dk_176 (dk_at dksJ3_compress_4_2 15 rfl rfl)
theorem dJ3_compress_4_64 : decode cJ3_compress_4 64 = .ok (.aload_n 3, 1) := dk_45 (dk_at dksJ3_compress_4_2 16 rfl rfl)
theorem dJ3_compress_4_65 : decode cJ3_compress_4 65 = .ok (.areturn, 1) := dk_176 (dk_at dksJ3_compress_4_2 17 rfl rfl)
theorem q6 : (Jvm.Cond.initialized "java/lang/StringUTF16") ∈ lw_all := lw_g (lw_at lw_m1 5 rfl) rfl
theorem q80 : (Jvm.Cond.static ({ cls := "java/lang/StringUTF16", name := "charAt", desc := "([BI)C" } : Jvm.MethodName)) ∈ lw_all := lw_g (lw_at lw_m1 79 rfl) rfl
theorem q81 : (Jvm.Cond.code ({ cls := "java/lang/StringUTF16", name := "charAt", desc := "([BI)C" } : Jvm.MethodName) prog_15_method_83_code (2 : Nat) (Option.some Jvm.ClassFile.FieldType.char)) ∈ lw_all := lw_g (lw_at lw_m1 80 rfl) rfl
theorem q82 : (Jvm.Cond.methodLink "java/lang/StringUTF16" (67 : Nat) ({ cls := "java/lang/StringUTF16", name := "checkIndex", desc := "(I[B)V" } : Jvm.MethodName)) ∈ lw_all := lw_g (lw_at lw_m1 81 rfl) rfl
theorem q83 : (Jvm.Cond.static ({ cls := "java/lang/StringUTF16", name := "checkIndex", desc := "(I[B)V" } : Jvm.MethodName)) ∈ lw_all := lw_g (lw_at lw_m1 82 rfl) rfl
theorem q84 : (Jvm.Cond.code ({ cls := "java/lang/StringUTF16", name := "checkIndex", desc := "(I[B)V" } : Jvm.MethodName) prog_15_method_91_code (2 : Nat) (Option.none : Option Jvm.ClassFile.FieldType)) ∈ lw_all := lw_g (lw_at lw_m1 83 rfl) rfl
theorem q85 : (Jvm.Cond.methodLink "java/lang/StringUTF16" (48 : Nat) ({ cls := "java/lang/StringUTF16", name := "length", desc := "([B)I" } : Jvm.MethodName)) ∈ lw_all := lw_g (lw_at lw_m1 84 rfl) rfl
theorem q86 : (Jvm.Cond.static ({ cls := "java/lang/StringUTF16", name := "length", desc := "([B)I" } : Jvm.MethodName)) ∈ lw_all := lw_g (lw_at lw_m1 85 rfl) rfl
theorem q87 : (Jvm.Cond.code ({ cls := "java/lang/StringUTF16", name := "length", desc := "([B)I" } : Jvm.MethodName) prog_15_method_6_code (1 : Nat) (Option.some Jvm.ClassFile.FieldType.int)) ∈ lw_all := lw_g (lw_at lw_m1 86 rfl) rfl
theorem q88 : (Jvm.Cond.methodLink "java/lang/StringUTF16" (414 : Nat) ({ cls := "java/lang/String", name := "checkIndex", desc := "(II)V" } : Jvm.MethodName)) ∈ lw_all := lw_g (lw_at lw_m1 87 rfl) rfl
theorem q89 : (Jvm.Cond.methodLink "java/lang/StringUTF16" (71 : Nat) ({ cls := "java/lang/StringUTF16", name := "getChar", desc := "([BI)C" } : Jvm.MethodName)) ∈ lw_all := lw_g (lw_at lw_m1 88 rfl) rfl
theorem q90 : (Jvm.Cond.static ({ cls := "java/lang/StringUTF16", name := "getChar", desc := "([BI)C" } : Jvm.MethodName)) ∈ lw_all := lw_g (lw_at lw_m1 89 rfl) rfl
theorem q91 : (Jvm.Cond.code ({ cls := "java/lang/StringUTF16", name := "getChar", desc := "([BI)C" } : Jvm.MethodName) prog_15_method_5_code (2 : Nat) (Option.some Jvm.ClassFile.FieldType.char)) ∈ lw_all := lw_g (lw_at lw_m1 90 rfl) rfl
theorem q92 : (Jvm.Cond.fieldLink "java/lang/StringUTF16" (44 : Nat) "java/lang/StringUTF16" "$assertionsDisabled" "Z") ∈ lw_all := lw_g (lw_at lw_m1 91 rfl) rfl
theorem q93 : (Jvm.Cond.laysStatic "java/lang/StringUTF16" "$assertionsDisabled" "Z") ∈ lw_tbl := lw_at lw_m1 92 rfl
theorem q94 : (Jvm.Cond.fieldLink "java/lang/StringUTF16" (59 : Nat) "java/lang/StringUTF16" "HI_BYTE_SHIFT" "I") ∈ lw_all := lw_g (lw_at lw_m1 93 rfl) rfl
theorem q95 : (Jvm.Cond.laysStatic "java/lang/StringUTF16" "HI_BYTE_SHIFT" "I") ∈ lw_tbl := lw_at lw_m1 94 rfl
theorem q96 : (Jvm.Cond.fieldLink "java/lang/StringUTF16" (63 : Nat) "java/lang/StringUTF16" "LO_BYTE_SHIFT" "I") ∈ lw_all := lw_g (lw_at lw_m1 95 rfl) rfl
theorem q97 : (Jvm.Cond.laysStatic "java/lang/StringUTF16" "LO_BYTE_SHIFT" "I") ∈ lw_tbl := lw_at lw_m1 96 rfl
theorem q138 : (Jvm.Cond.static ({ cls := "java/lang/StringUTF16", name := "compress", desc := "([CII)[B" } : Jvm.MethodName)) ∈ lw_all := lw_g (lw_at lw_m1 137 rfl) rfl
theorem q139 : (Jvm.Cond.code ({ cls := "java/lang/StringUTF16", name := "compress", desc := "([CII)[B" } : Jvm.MethodName) prog_15_method_16_code (6 : Nat) (Option.some (Jvm.ClassFile.FieldType.array Jvm.ClassFile.FieldType.byte))) ∈ lw_all := lw_g (lw_at lw_m1 138 rfl) rfl
theorem q140 : (Jvm.Cond.methodLink "java/lang/StringUTF16" (115 : Nat) ({ cls := "java/lang/StringUTF16", name := "compress", desc := "([CI[BII)I" } : Jvm.MethodName)) ∈ lw_all := lw_g (lw_at lw_m1 139 rfl) rfl
theorem q141 : (Jvm.Cond.static ({ cls := "java/lang/StringUTF16", name := "compress", desc := "([CI[BII)I" } : Jvm.MethodName)) ∈ lw_all := lw_g (lw_at lw_m1 140 rfl) rfl
theorem q142 : (Jvm.Cond.code ({ cls := "java/lang/StringUTF16", name := "compress", desc := "([CI[BII)I" } : Jvm.MethodName) prog_15_method_21_code (7 : Nat) (Option.some Jvm.ClassFile.FieldType.int)) ∈ lw_all := lw_g (lw_at lw_m1 141 rfl) rfl
theorem q143 : (Jvm.Cond.methodLink "java/lang/StringUTF16" (119 : Nat) ({ cls := "java/lang/StringUTF16", name := "toBytes", desc := "([CII)[B" } : Jvm.MethodName)) ∈ lw_all := lw_g (lw_at lw_m1 142 rfl) rfl
theorem q144 : (Jvm.Cond.static ({ cls := "java/lang/StringUTF16", name := "toBytes", desc := "([CII)[B" } : Jvm.MethodName)) ∈ lw_all := lw_g (lw_at lw_m1 143 rfl) rfl
theorem q145 : (Jvm.Cond.code ({ cls := "java/lang/StringUTF16", name := "toBytes", desc := "([CII)[B" } : Jvm.MethodName) prog_15_method_14_code (5 : Nat) (Option.some (Jvm.ClassFile.FieldType.array Jvm.ClassFile.FieldType.byte))) ∈ lw_all := lw_g (lw_at lw_m1 144 rfl) rfl
theorem q146 : (Jvm.Cond.methodLink "java/lang/StringUTF16" (107 : Nat) ({ cls := "java/lang/StringUTF16", name := "newBytesFor", desc := "(I)[B" } : Jvm.MethodName)) ∈ lw_all := lw_g (lw_at lw_m1 145 rfl) rfl
theorem q147 : (Jvm.Cond.static ({ cls := "java/lang/StringUTF16", name := "newBytesFor", desc := "(I)[B" } : Jvm.MethodName)) ∈ lw_all := lw_g (lw_at lw_m1 146 rfl) rfl
theorem q148 : (Jvm.Cond.code ({ cls := "java/lang/StringUTF16", name := "newBytesFor", desc := "(I)[B" } : Jvm.MethodName) prog_15_method_2_code (1 : Nat) (Option.some (Jvm.ClassFile.FieldType.array Jvm.ClassFile.FieldType.byte))) ∈ lw_all := lw_g (lw_at lw_m1 147 rfl) rfl
theorem q149 : (Jvm.Cond.methodLink "java/lang/StringUTF16" (11 : Nat) ({ cls := "java/lang/StringUTF16", name := "newBytesLength", desc := "(I)I" } : Jvm.MethodName)) ∈ lw_all := lw_g (lw_at lw_m1 148 rfl) rfl
theorem q150 : (Jvm.Cond.static ({ cls := "java/lang/StringUTF16", name := "newBytesLength", desc := "(I)I" } : Jvm.MethodName)) ∈ lw_all := lw_g (lw_at lw_m1 149 rfl) rfl
theorem q151 : (Jvm.Cond.code ({ cls := "java/lang/StringUTF16", name := "newBytesLength", desc := "(I)I" } : Jvm.MethodName) prog_15_method_3_code (1 : Nat) (Option.some Jvm.ClassFile.FieldType.int)) ∈ lw_all := lw_g (lw_at lw_m1 150 rfl) rfl
theorem q152 : (Jvm.Cond.constant "java/lang/StringUTF16" (20 : Nat) (1073741823 : Int32)) ∈ lw_all := lw_g (lw_at lw_m1 151 rfl) rfl
theorem q153 : (Jvm.Cond.methodLink "java/lang/StringUTF16" (111 : Nat) ({ cls := "java/lang/StringUTF16", name := "putChar", desc := "([BII)V" } : Jvm.MethodName)) ∈ lw_all := lw_g (lw_at lw_m1 152 rfl) rfl
theorem q154 : (Jvm.Cond.static ({ cls := "java/lang/StringUTF16", name := "putChar", desc := "([BII)V" } : Jvm.MethodName)) ∈ lw_all := lw_g (lw_at lw_m1 153 rfl) rfl
theorem q155 : (Jvm.Cond.code ({ cls := "java/lang/StringUTF16", name := "putChar", desc := "([BII)V" } : Jvm.MethodName) prog_15_method_4_code (3 : Nat) (Option.none : Option Jvm.ClassFile.FieldType)) ∈ lw_all := lw_g (lw_at lw_m1 154 rfl) rfl
theorem q156 : (Jvm.Cond.methodLink "java/lang/StringUTF16" (123 : Nat) ({ cls := "java/lang/StringUTF16", name := "compress", desc := "([BI[BII)I" } : Jvm.MethodName)) ∈ lw_all := lw_g (lw_at lw_m1 155 rfl) rfl
theorem q157 : (Jvm.Cond.static ({ cls := "java/lang/StringUTF16", name := "compress", desc := "([BI[BII)I" } : Jvm.MethodName)) ∈ lw_all := lw_g (lw_at lw_m1 156 rfl) rfl
theorem q158 : (Jvm.Cond.code ({ cls := "java/lang/StringUTF16", name := "compress", desc := "([BI[BII)I" } : Jvm.MethodName) prog_15_method_22_code (7 : Nat) (Option.some Jvm.ClassFile.FieldType.int)) ∈ lw_all := lw_g (lw_at lw_m1 157 rfl) rfl
theorem q159 : (Jvm.Cond.methodLink "java/lang/StringUTF16" (173 : Nat) ({ cls := "java/lang/StringUTF16", name := "checkBoundsOffCount", desc := "(II[B)V" } : Jvm.MethodName)) ∈ lw_all := lw_g (lw_at lw_m1 158 rfl) rfl
theorem q160 : (Jvm.Cond.static ({ cls := "java/lang/StringUTF16", name := "checkBoundsOffCount", desc := "(II[B)V" } : Jvm.MethodName)) ∈ lw_all := lw_g (lw_at lw_m1 159 rfl) rfl
theorem q161 : (Jvm.Cond.code ({ cls := "java/lang/StringUTF16", name := "checkBoundsOffCount", desc := "(II[B)V" } : Jvm.MethodName) prog_15_method_94_code (3 : Nat) (Option.none : Option Jvm.ClassFile.FieldType)) ∈ lw_all := lw_g (lw_at lw_m1 160 rfl) rfl
theorem q162 : (Jvm.Cond.methodLink "java/lang/StringUTF16" (419 : Nat) ({ cls := "java/lang/String", name := "checkBoundsOffCount", desc := "(III)I" } : Jvm.MethodName)) ∈ lw_all := lw_g (lw_at lw_m1 161 rfl) rfl
theorem q164 : (Jvm.Cond.static ({ cls := "java/lang/StringUTF16", name := "coderFromArrayLen", desc := "([BI)B" } : Jvm.MethodName)) ∈ lw_all := lw_g (lw_at lw_m1 163 rfl) rfl
theorem q165 : (Jvm.Cond.code ({ cls := "java/lang/StringUTF16", name := "coderFromArrayLen", desc := "([BI)B" } : Jvm.MethodName) prog_15_method_15_code (2 : Nat) (Option.some Jvm.ClassFile.FieldType.byte)) ∈ lw_all := lw_g (lw_at lw_m1 164 rfl) rfl
theorem q368 : (Jvm.Cond.static ({ cls := "java/lang/StringUTF16", name := "putCharsAt", desc := "([BICCCC)I" } : Jvm.MethodName)) ∈ lw_all := lw_g (lw_at lw_m2 127 rfl) rfl
theorem q369 : (Jvm.Cond.code ({ cls := "java/lang/StringUTF16", name := "putCharsAt", desc := "([BICCCC)I" } : Jvm.MethodName) prog_15_method_81_code (7 : Nat) (Option.some Jvm.ClassFile.FieldType.int)) ∈ lw_all := lw_g (lw_at lw_m2 128 rfl) rfl
theorem q370 : (Jvm.Cond.methodLink "java/lang/StringUTF16" (96 : Nat) ({ cls := "java/lang/StringUTF16", name := "checkBoundsBeginEnd", desc := "(II[B)V" } : Jvm.MethodName)) ∈ lw_all := lw_g (lw_at lw_m2 129 rfl) rfl
theorem q371 : (Jvm.Cond.static ({ cls := "java/lang/StringUTF16", name := "checkBoundsBeginEnd", desc := "(II[B)V" } : Jvm.MethodName)) ∈ lw_all := lw_g (lw_at lw_m2 130 rfl) rfl
theorem q372 : (Jvm.Cond.code ({ cls := "java/lang/StringUTF16", name := "checkBoundsBeginEnd", desc := "(II[B)V" } : Jvm.MethodName) prog_15_method_93_code (3 : Nat) (Option.none : Option Jvm.ClassFile.FieldType)) ∈ lw_all := lw_g (lw_at lw_m2 131 rfl) rfl
theorem q373 : (Jvm.Cond.methodLink "java/lang/StringUTF16" (241 : Nat) ({ cls := "java/lang/String", name := "checkBoundsBeginEnd", desc := "(III)V" } : Jvm.MethodName)) ∈ lw_all := lw_g (lw_at lw_m2 132 rfl) rfl
theorem q397 : (Jvm.Cond.static ({ cls := "java/lang/StringUTF16", name := "inflate", desc := "([BI[BII)V" } : Jvm.MethodName)) ∈ lw_all := lw_g (lw_at lw_m2 156 rfl) rfl
theorem q398 : (Jvm.Cond.code ({ cls := "java/lang/StringUTF16", name := "inflate", desc := "([BI[BII)V" } : Jvm.MethodName) prog_15_method_86_code (6 : Nat) (Option.none : Option Jvm.ClassFile.FieldType)) ∈ lw_all := lw_g (lw_at lw_m2 157 rfl) rfl
theorem q487 : (Jvm.Cond.static ({ cls := "java/lang/StringUTF16", name := "fillNull", desc := "([BII)V" } : Jvm.MethodName)) ∈ lw_all := lw_g (lw_at lw_m3 6 rfl) rfl
theorem q488 : (Jvm.Cond.code ({ cls := "java/lang/StringUTF16", name := "fillNull", desc := "([BII)V" } : Jvm.MethodName) prog_15_method_70_code (3 : Nat) (Option.none : Option Jvm.ClassFile.FieldType)) ∈ lw_all := lw_g (lw_at lw_m3 7 rfl) rfl
theorem q489 : (Jvm.Cond.methodLink "java/lang/StringUTF16" (380 : Nat) ({ cls := "java/util/Arrays", name := "fill", desc := "([BIIB)V" } : Jvm.MethodName)) ∈ lw_all := lw_g (lw_at lw_m3 8 rfl) rfl
theorem q510 : (Jvm.Cond.static ({ cls := "java/lang/StringUTF16", name := "putCharSB", desc := "([BII)V" } : Jvm.MethodName)) ∈ lw_all := lw_g (lw_at lw_m3 29 rfl) rfl
theorem q511 : (Jvm.Cond.code ({ cls := "java/lang/StringUTF16", name := "putCharSB", desc := "([BII)V" } : Jvm.MethodName) prog_15_method_71_code (3 : Nat) (Option.none : Option Jvm.ClassFile.FieldType)) ∈ lw_all := lw_g (lw_at lw_m3 30 rfl) rfl
theorem q540 : (Jvm.Cond.static ({ cls := "java/lang/StringUTF16", name := "compress", desc := "([BII)[B" } : Jvm.MethodName)) ∈ lw_all := lw_g (lw_at lw_m3 59 rfl) rfl
theorem q541 : (Jvm.Cond.code ({ cls := "java/lang/StringUTF16", name := "compress", desc := "([BII)[B" } : Jvm.MethodName) prog_15_method_17_code (6 : Nat) (Option.some (Jvm.ClassFile.FieldType.array Jvm.ClassFile.FieldType.byte))) ∈ lw_all := lw_g (lw_at lw_m3 60 rfl) rfl
theorem q542 : (Jvm.Cond.methodLink "java/lang/StringUTF16" (126 : Nat) ({ cls := "java/util/Arrays", name := "copyOfRange", desc := "([BII)[B" } : Jvm.MethodName)) ∈ lw_all := lw_g (lw_at lw_m3 61 rfl) rfl
/-! java/util/Arrays -/
set_option maxRecDepth 100000
def RJ12 : String := "java/util/Arrays"
abbrev cJ12_copyOf : ByteArray := prog_18_method_121_code
def yJ12_copyOf : MethodName := ⟨RJ12, "copyOf", "([BI)[B"⟩
def dkwJ12_copyOf_1 : List UInt8 := [27, 184, 1, 48, 184, 0, 150, 44, 176]
abbrev dktJ12_copyOf_1 : List UInt8 := dkwJ12_copyOf_1 ++ []
def dkwJ12_copyOf_0 : List UInt8 := [27, 42, 190, 160, 0, 11, 42, 182, 1, 54, 192, 1, 55, 176, 27, 188, 8, 77, 42, 3, 44, 3, 42, 190]
abbrev dktJ12_copyOf_0 : List UInt8 := dkwJ12_copyOf_0 ++ dktJ12_copyOf_1
theorem dksJ12_copyOf_0 : cJ12_copyOf.data.toList.drop 0 = dktJ12_copyOf_0 := by decide +kernel
theorem dksJ12_copyOf_1 : cJ12_copyOf.data.toList.drop 24 = dktJ12_copyOf_1 := dk_seg dksJ12_copyOf_0 24 rfl rfl
theorem dJ12_copyOf_0 : decode cJ12_copyOf 0 = .ok (.iload_n 1, 1) := dk_27 (dk_at dksJ12_copyOf_0 0 rfl rfl)
theorem dJ12_copyOf_1 : decode cJ12_copyOf 1 = .ok (.aload_n 0, 1) := dk_42 (dk_at dksJ12_copyOf_0 1 rfl rfl)
theorem dJ12_copyOf_2 : decode cJ12_copyOf 2 = .ok (.arraylength, 1) := dk_190 (dk_at dksJ12_copyOf_0 2 rfl rfl)
theorem dJ12_copyOf_3 : decode cJ12_copyOf 3 = .ok (.if_icmp .ne 11, 3) := dk_160 0 11 (dk_at dksJ12_copyOf_0 3 rfl rfl)
theorem dJ12_copyOf_6 : decode cJ12_copyOf 6 = .ok (.aload_n 0, 1) := dk_42 (dk_at dksJ12_copyOf_0 6 rfl rfl)
theorem dJ12_copyOf_7 : decode cJ12_copyOf 7 = .ok (.invokevirtual 310, 3) := dk_182 1 54 (dk_at dksJ12_copyOf_0 7 rfl rfl)
theorem dJ12_copyOf_10 : decode cJ12_copyOf 10 = .ok (.checkcast 311, 3) := dk_192 1 55 (dk_at dksJ12_copyOf_0 10 rfl rfl)
theorem dJ12_copyOf_13 : decode cJ12_copyOf 13 = .ok (.areturn, 1) := dk_176 (dk_at dksJ12_copyOf_0 13 rfl rfl)
theorem dJ12_copyOf_14 : decode cJ12_copyOf 14 = .ok (.iload_n 1, 1) := dk_27 (dk_at dksJ12_copyOf_0 14 rfl rfl)
theorem dJ12_copyOf_15 : decode cJ12_copyOf 15 = .ok (.newarray .byte, 2) := dk_188_8 (dk_at dksJ12_copyOf_0 15 rfl rfl)
theorem dJ12_copyOf_17 : decode cJ12_copyOf 17 = .ok (.astore_n 2, 1) := dk_77 (dk_at dksJ12_copyOf_0 17 rfl rfl)
theorem dJ12_copyOf_18 : decode cJ12_copyOf 18 = .ok (.aload_n 0, 1) := dk_42 (dk_at dksJ12_copyOf_0 18 rfl rfl)
theorem dJ12_copyOf_19 : decode cJ12_copyOf 19 = .ok (.iconst 0, 1) := dk_3 (dk_at dksJ12_copyOf_0 19 rfl rfl)
theorem dJ12_copyOf_20 : decode cJ12_copyOf 20 = .ok (.aload_n 2, 1) := dk_44 (dk_at dksJ12_copyOf_0 20 rfl rfl)
theorem dJ12_copyOf_21 : decode cJ12_copyOf 21 = .ok (.iconst 0, 1) := dk_3 (dk_at dksJ12_copyOf_0 21 rfl rfl)
theorem dJ12_copyOf_22 : decode cJ12_copyOf 22 = .ok (.aload_n 0, 1) := dk_42 (dk_at dksJ12_copyOf_0 22 rfl rfl)
theorem dJ12_copyOf_23 : decode cJ12_copyOf 23 = .ok (.arraylength, 1) := dk_190 (dk_at dksJ12_copyOf_0 23 rfl rfl)
theorem dJ12_copyOf_24 : decode cJ12_copyOf 24 = .ok (.iload_n 1, 1) := dk_27 (dk_at dksJ12_copyOf_1 0 rfl rfl)
theorem dJ12_copyOf_25 : decode cJ12_copyOf 25 = .ok (.invokestatic 304, 3) := dk_184 1 48 (dk_at dksJ12_copyOf_1 1 rfl rfl)
theorem dJ12_copyOf_28 : decode cJ12_copyOf 28 = .ok (.invokestatic 150, 3) := dk_184 0 150 (dk_at dksJ12_copyOf_1 4 rfl rfl)
theorem dJ12_copyOf_31 : decode cJ12_copyOf 31 = .ok (.aload_n 2, 1) := dk_44 (dk_at dksJ12_copyOf_1 7 rfl rfl)
theorem dJ12_copyOf_32 : decode cJ12_copyOf 32 = .ok (.areturn, 1) := dk_176 (dk_at dksJ12_copyOf_1 8 rfl rfl)
abbrev cJ12_fill : ByteArray := prog_18_method_110_code
def yJ12_fill : MethodName := ⟨RJ12, "fill", "([BIIB)V"⟩
def dkwJ12_fill_1 : List UInt8 := [167, 255, 242, 177]
abbrev dktJ12_fill_1 : List UInt8 := dkwJ12_fill_1 ++ []
def dkwJ12_fill_0 : List UInt8 := [42, 190, 27, 28, 184, 0, 13, 27, 54, 4, 21, 4, 28, 162, 0, 14, 42, 21, 4, 29, 84, 132, 4, 1]
abbrev dktJ12_fill_0 : List UInt8 := dkwJ12_fill_0 ++ dktJ12_fill_1
theorem dksJ12_fill_0 : cJ12_fill.data.toList.drop 0 = dktJ12_fill_0 := by decide +kernel
theorem dksJ12_fill_1 : cJ12_fill.data.toList.drop 24 = dktJ12_fill_1 := dk_seg dksJ12_fill_0 24 rfl rfl
theorem dJ12_fill_0 : decode cJ12_fill 0 = .ok (.aload_n 0, 1) := dk_42 (dk_at dksJ12_fill_0 0 rfl rfl)
theorem dJ12_fill_1 : decode cJ12_fill 1 = .ok (.arraylength, 1) := dk_190 (dk_at dksJ12_fill_0 1 rfl rfl)
theorem dJ12_fill_2 : decode cJ12_fill 2 = .ok (.iload_n 1, 1) := dk_27 (dk_at dksJ12_fill_0 2 rfl rfl)
theorem dJ12_fill_3 : decode cJ12_fill 3 = .ok (.iload_n 2, 1) := dk_28 (dk_at dksJ12_fill_0 3 rfl rfl)
theorem dJ12_fill_4 : decode cJ12_fill 4 = .ok (.invokestatic 13, 3) := dk_184 0 13 (dk_at dksJ12_fill_0 4 rfl rfl)
theorem dJ12_fill_7 : decode cJ12_fill 7 = .ok (.iload_n 1, 1) := dk_27 (dk_at dksJ12_fill_0 7 rfl rfl)
theorem dJ12_fill_8 : decode cJ12_fill 8 = .ok (.istore 4, 2) := dk_54 4 (dk_at dksJ12_fill_0 8 rfl rfl)
theorem dJ12_fill_10 : decode cJ12_fill 10 = .ok (.iload 4, 2) := dk_21 4 (dk_at dksJ12_fill_0 10 rfl rfl)
theorem dJ12_fill_12 : decode cJ12_fill 12 = .ok (.iload_n 2, 1) := dk_28 (dk_at dksJ12_fill_0 12 rfl rfl)
theorem dJ12_fill_13 : decode cJ12_fill 13 = .ok (.if_icmp .ge 14, 3) := dk_162 0 14 (dk_at dksJ12_fill_0 13 rfl rfl)
theorem dJ12_fill_16 : decode cJ12_fill 16 = .ok (.aload_n 0, 1) := dk_42 (dk_at dksJ12_fill_0 16 rfl rfl)
theorem dJ12_fill_17 : decode cJ12_fill 17 = .ok (.iload 4, 2) := dk_21 4 (dk_at dksJ12_fill_0 17 rfl rfl)
theorem dJ12_fill_19 : decode cJ12_fill 19 = .ok (.iload_n 3, 1) := dk_29 (dk_at dksJ12_fill_0 19 rfl rfl)
theorem dJ12_fill_20 : decode cJ12_fill 20 = .ok (.bastore, 1) := dk_84 (dk_at dksJ12_fill_0 20 rfl rfl)
theorem dJ12_fill_21 : decode cJ12_fill 21 = .ok (.iinc 4 1, 3) := dk_132 4 1 (dk_at dksJ12_fill_0 21 rfl rfl)
theorem dJ12_fill_24 : decode cJ12_fill 24 = .ok (.goto (-14), 3) := dk_167 255 242 (dk_at dksJ12_fill_1 0 rfl rfl)
theorem dJ12_fill_27 : decode cJ12_fill 27 = .ok (.return_, 1) := dk_177 (dk_at dksJ12_fill_1 3 rfl rfl)
abbrev cJ12_rangeCheck : ByteArray := prog_18_method_30_code
def yJ12_rangeCheck : MethodName := ⟨RJ12, "rangeCheck", "(III)V"⟩
def dkwJ12_rangeCheck_3 : List UInt8 := [183, 0, 70, 191, 177]
abbrev dktJ12_rangeCheck_3 : List UInt8 := dkwJ12_rangeCheck_3 ++ []
def dkwJ12_rangeCheck_2 : List UInt8 := [27, 156, 0, 12, 187, 0, 68, 89, 27, 183, 0, 70, 191, 28, 26, 164, 0, 12, 187, 0, 68, 89, 28]
abbrev dktJ12_rangeCheck_2 : List UInt8 := dkwJ12_rangeCheck_2 ++ dktJ12_rangeCheck_3
def dkwJ12_rangeCheck_1 : List UInt8 := [182, 0, 54, 18, 57, 182, 0, 50, 28, 182, 0, 54, 18, 59, 182, 0, 50, 182, 0, 61, 183, 0, 65, 191]
abbrev dktJ12_rangeCheck_1 : List UInt8 := dkwJ12_rangeCheck_1 ++ dktJ12_rangeCheck_2
def dkwJ12_rangeCheck_0 : List UInt8 := [27, 28, 164, 0, 44, 187, 0, 43, 89, 187, 0, 45, 89, 183, 0, 47, 18, 48, 182, 0, 50, 27]
abbrev dktJ12_rangeCheck_0 : List UInt8 := dkwJ12_rangeCheck_0 ++ dktJ12_rangeCheck_1
theorem dksJ12_rangeCheck_0 : cJ12_rangeCheck.data.toList.drop 0 = dktJ12_rangeCheck_0 := by decide +kernel
theorem dksJ12_rangeCheck_1 : cJ12_rangeCheck.data.toList.drop 22 = dktJ12_rangeCheck_1 := dk_seg dksJ12_rangeCheck_0 22 rfl rfl
theorem dksJ12_rangeCheck_2 : cJ12_rangeCheck.data.toList.drop 46 = dktJ12_rangeCheck_2 := dk_seg dksJ12_rangeCheck_1 24 rfl rfl
theorem dksJ12_rangeCheck_3 : cJ12_rangeCheck.data.toList.drop 69 = dktJ12_rangeCheck_3 := dk_seg dksJ12_rangeCheck_2 23 rfl rfl
theorem dJ12_rangeCheck_0 : decode cJ12_rangeCheck 0 = .ok (.iload_n 1, 1) := dk_27 (dk_at dksJ12_rangeCheck_0 0 rfl rfl)
theorem dJ12_rangeCheck_1 : decode cJ12_rangeCheck 1 = .ok (.iload_n 2, 1) := dk_28 (dk_at dksJ12_rangeCheck_0 1 rfl rfl)
theorem dJ12_rangeCheck_2 : decode cJ12_rangeCheck 2 = .ok (.if_icmp .le 44, 3) := dk_164 0 44 (dk_at dksJ12_rangeCheck_0 2 rfl rfl)
theorem dJ12_rangeCheck_5 : decode cJ12_rangeCheck 5 = .ok (.new 43, 3) := dk_187 0 43 (dk_at dksJ12_rangeCheck_0 5 rfl rfl)
theorem dJ12_rangeCheck_8 : decode cJ12_rangeCheck 8 = .ok (.dup, 1) := dk_89 (dk_at dksJ12_rangeCheck_0 8 rfl rfl)
theorem dJ12_rangeCheck_9 : decode cJ12_rangeCheck 9 = .ok (.new 45, 3) := dk_187 0 45 (dk_at dksJ12_rangeCheck_0 9 rfl rfl)
theorem dJ12_rangeCheck_12 : decode cJ12_rangeCheck 12 = .ok (.dup, 1) := dk_89 (dk_at dksJ12_rangeCheck_0 12 rfl rfl)
theorem dJ12_rangeCheck_13 : decode cJ12_rangeCheck 13 = .ok (.invokespecial 47, 3) := dk_183 0 47 (dk_at dksJ12_rangeCheck_0 13 rfl rfl)
theorem dJ12_rangeCheck_16 : decode cJ12_rangeCheck 16 = .ok (.ldc 48, 2) := dk_18 48 (dk_at dksJ12_rangeCheck_0 16 rfl rfl)
theorem dJ12_rangeCheck_18 : decode cJ12_rangeCheck 18 = .ok (.invokevirtual 50, 3) := dk_182 0 50 (dk_at dksJ12_rangeCheck_0 18 rfl rfl)
theorem dJ12_rangeCheck_21 : decode cJ12_rangeCheck 21 = .ok (.iload_n 1, 1) := dk_27 (dk_at dksJ12_rangeCheck_0 21 rfl rfl)
theorem dJ12_rangeCheck_22 : decode cJ12_rangeCheck 22 = .ok (.invokevirtual 54, 3) := dk_182 0 54 (dk_at dksJ12_rangeCheck_1 0 rfl rfl)
theorem dJ12_rangeCheck_25 : decode cJ12_rangeCheck 25 = .ok (.ldc 57, 2) := dk_18 57 (dk_at dksJ12_rangeCheck_1 3 rfl rfl)
theorem dJ12_rangeCheck_27 : decode cJ12_rangeCheck 27 = .ok (.invokevirtual 50, 3) := dk_182 0 50 (dk_at dksJ12_rangeCheck_1 5 rfl rfl)
theorem dJ12_rangeCheck_30 : decode cJ12_rangeCheck 30 = .ok (.iload_n 2, 1) := dk_28 (dk_at dksJ12_rangeCheck_1 8 rfl rfl)
theorem dJ12_rangeCheck_31 : decode cJ12_rangeCheck 31 = .ok (.invokevirtual 54, 3) := dk_182 0 54 (dk_at dksJ12_rangeCheck_1 9 rfl rfl)
theorem dJ12_rangeCheck_34 : decode cJ12_rangeCheck 34 = .ok (.ldc 59, 2) := dk_18 59 (dk_at dksJ12_rangeCheck_1 12 rfl rfl)
theorem dJ12_rangeCheck_36 : decode cJ12_rangeCheck 36 = .ok (.invokevirtual 50, 3) := dk_182 0 50 (dk_at dksJ12_rangeCheck_1 14 rfl rfl)
theorem dJ12_rangeCheck_39 : decode cJ12_rangeCheck 39 = .ok (.invokevirtual 61, 3) := dk_182 0 61 (dk_at dksJ12_rangeCheck_1 17 rfl rfl)
theorem dJ12_rangeCheck_42 : decode cJ12_rangeCheck 42 = .ok (.invokespecial 65, 3) := dk_183 0 65 (dk_at dksJ12_rangeCheck_1 20 rfl rfl)
theorem dJ12_rangeCheck_45 : decode cJ12_rangeCheck 45 = .ok (.athrow, 1) := dk_191 (dk_at dksJ12_rangeCheck_1 23 rfl rfl)
theorem dJ12_rangeCheck_46 : decode cJ12_rangeCheck 46 = .ok (.iload_n 1, 1) := dk_27 (dk_at dksJ12_rangeCheck_2 0 rfl rfl)
theorem dJ12_rangeCheck_47 : decode cJ12_rangeCheck 47 = .ok (.ifCond .ge 12, 3) := dk_156 0 12 (dk_at dksJ12_rangeCheck_2 1 rfl rfl)
theorem dJ12_rangeCheck_50 : decode cJ12_rangeCheck 50 = .ok (.new 68, 3) := dk_187 0 68 (dk_at dksJ12_rangeCheck_2 4 rfl rfl)
theorem dJ12_rangeCheck_53 : decode cJ12_rangeCheck 53 = .ok (.dup, 1) := dk_89 (dk_at dksJ12_rangeCheck_2 7 rfl rfl)
theorem dJ12_rangeCheck_54 : decode cJ12_rangeCheck 54 = .ok (.iload_n 1, 1) := dk_27 (dk_at dksJ12_rangeCheck_2 8 rfl rfl)
theorem dJ12_rangeCheck_55 : decode cJ12_rangeCheck 55 = .ok (.invokespecial 70, 3) := dk_183 0 70 (dk_at dksJ12_rangeCheck_2 9 rfl rfl)
theorem dJ12_rangeCheck_58 : decode cJ12_rangeCheck 58 = .ok (.athrow, 1) := dk_191 (dk_at dksJ12_rangeCheck_2 12 rfl rfl)
theorem dJ12_rangeCheck_59 : decode cJ12_rangeCheck 59 = .ok (.iload_n 2, 1) := dk_28 (dk_at dksJ12_rangeCheck_2 13 rfl rfl)
theorem dJ12_rangeCheck_60 : decode cJ12_rangeCheck 60 = .ok (.iload_n 0, 1) := dk_26 (dk_at dksJ12_rangeCheck_2 14 rfl rfl)
theorem dJ12_rangeCheck_61 : decode cJ12_rangeCheck 61 = .ok (.if_icmp .le 12, 3) := dk_164 0 12 (dk_at dksJ12_rangeCheck_2 15 rfl rfl)
theorem dJ12_rangeCheck_64 : decode cJ12_rangeCheck 64 = .ok (.new 68, 3) := dk_187 0 68 (dk_at dksJ12_rangeCheck_2 18 rfl rfl)
theorem dJ12_rangeCheck_67 : decode cJ12_rangeCheck 67 = .ok (.dup, 1) := dk_89 (dk_at dksJ12_rangeCheck_2 21 rfl rfl)
theorem dJ12_rangeCheck_68 : decode cJ12_rangeCheck 68 = .ok (.iload_n 2, 1) := dk_28 (dk_at dksJ12_rangeCheck_2 22 rfl rfl)
theorem dJ12_rangeCheck_69 : decode cJ12_rangeCheck 69 = .ok (.invokespecial 70, 3) := dk_183 0 70 (dk_at dksJ12_rangeCheck_3 0 rfl rfl)
theorem dJ12_rangeCheck_72 : decode cJ12_rangeCheck 72 = .ok (.athrow, 1) := dk_191 (dk_at dksJ12_rangeCheck_3 3 rfl rfl)
theorem dJ12_rangeCheck_73 : decode cJ12_rangeCheck 73 = .ok (.return_, 1) := dk_177 (dk_at dksJ12_rangeCheck_3 4 rfl rfl)
abbrev cJ12_copyOfRange : ByteArray := prog_18_method_132_code
def yJ12_copyOfRange : MethodName := ⟨RJ12, "copyOfRange", "([BII)[B"⟩
def dkwJ12_copyOfRange_1 : List UInt8 := [176]
abbrev dktJ12_copyOfRange_1 : List UInt8 := dkwJ12_copyOfRange_1 ++ []
def dkwJ12_copyOfRange_0 : List UInt8 := [27, 154, 0, 9, 28, 42, 190, 159, 0, 10, 42, 27, 28, 184, 1, 83, 176, 42, 182, 1, 54, 192, 1, 55]
abbrev dktJ12_copyOfRange_0 : List UInt8 := dkwJ12_copyOfRange_0 ++ dktJ12_copyOfRange_1
theorem dksJ12_copyOfRange_0 : cJ12_copyOfRange.data.toList.drop 0 = dktJ12_copyOfRange_0 := by decide +kernel
theorem dksJ12_copyOfRange_1 : cJ12_copyOfRange.data.toList.drop 24 = dktJ12_copyOfRange_1 := dk_seg dksJ12_copyOfRange_0 24 rfl rfl
theorem dJ12_copyOfRange_0 : decode cJ12_copyOfRange 0 = .ok (.iload_n 1, 1) := dk_27 (dk_at dksJ12_copyOfRange_0 0 rfl rfl)
theorem dJ12_copyOfRange_1 : decode cJ12_copyOfRange 1 = .ok (.ifCond .ne 9, 3) := dk_154 0 9 (dk_at dksJ12_copyOfRange_0 1 rfl rfl)
theorem dJ12_copyOfRange_4 : decode cJ12_copyOfRange 4 = .ok (.iload_n 2, 1) := dk_28 (dk_at dksJ12_copyOfRange_0 4 rfl rfl)
theorem dJ12_copyOfRange_5 : decode cJ12_copyOfRange 5 = .ok (.aload_n 0, 1) := dk_42 (dk_at dksJ12_copyOfRange_0 5 rfl rfl)
theorem dJ12_copyOfRange_6 : decode cJ12_copyOfRange 6 = .ok (.arraylength, 1) := dk_190 (dk_at dksJ12_copyOfRange_0 6 rfl rfl)
theorem dJ12_copyOfRange_7 : decode cJ12_copyOfRange 7 = .ok (.if_icmp .eq 10, 3) := dk_159 0 10 (dk_at dksJ12_copyOfRange_0 7 rfl rfl)
theorem dJ12_copyOfRange_10 : decode cJ12_copyOfRange 10 = .ok (.aload_n 0, 1) := dk_42 (dk_at dksJ12_copyOfRange_0 10 rfl rfl)
theorem dJ12_copyOfRange_11 : decode cJ12_copyOfRange 11 = .ok (.iload_n 1, 1) := dk_27 (dk_at dksJ12_copyOfRange_0 11 rfl rfl)
theorem dJ12_copyOfRange_12 : decode cJ12_copyOfRange 12 = .ok (.iload_n 2, 1) := dk_28 (dk_at dksJ12_copyOfRange_0 12 rfl rfl)
theorem dJ12_copyOfRange_13 : decode cJ12_copyOfRange 13 = .ok (.invokestatic 339, 3) := dk_184 1 83 (dk_at dksJ12_copyOfRange_0 13 rfl rfl)
theorem dJ12_copyOfRange_16 : decode cJ12_copyOfRange 16 = .ok (.areturn, 1) := dk_176 (dk_at dksJ12_copyOfRange_0 16 rfl rfl)
theorem dJ12_copyOfRange_17 : decode cJ12_copyOfRange 17 = .ok (.aload_n 0, 1) := dk_42 (dk_at dksJ12_copyOfRange_0 17 rfl rfl)
theorem dJ12_copyOfRange_18 : decode cJ12_copyOfRange 18 = .ok (.invokevirtual 310, 3) := dk_182 1 54 (dk_at dksJ12_copyOfRange_0 18 rfl rfl)
theorem dJ12_copyOfRange_21 : decode cJ12_copyOfRange 21 = .ok (.checkcast 311, 3) := dk_192 1 55 (dk_at dksJ12_copyOfRange_0 21 rfl rfl)
theorem dJ12_copyOfRange_24 : decode cJ12_copyOfRange 24 = .ok (.areturn, 1) := dk_176 (dk_at dksJ12_copyOfRange_1 0 rfl rfl)
abbrev cJ12_copyOfRangeByte : ByteArray := prog_18_method_133_code
def yJ12_copyOfRangeByte : MethodName := ⟨RJ12, "copyOfRangeByte", "([BII)[B"⟩
def dkwJ12_copyOfRangeByte_1 : List UInt8 := [184, 1, 48, 184, 0, 150, 25, 4, 176]
abbrev dktJ12_copyOfRangeByte_1 : List UInt8 := dkwJ12_copyOfRangeByte_1 ++ []
def dkwJ12_copyOfRangeByte_0 : List UInt8 := [27, 28, 184, 1, 87, 28, 27, 100, 62, 29, 188, 8, 58, 4, 42, 27, 25, 4, 3, 42, 190, 27, 100, 29]
abbrev dktJ12_copyOfRangeByte_0 : List UInt8 := dkwJ12_copyOfRangeByte_0 ++ dktJ12_copyOfRangeByte_1
theorem dksJ12_copyOfRangeByte_0 : cJ12_copyOfRangeByte.data.toList.drop 0 = dktJ12_copyOfRangeByte_0 := by decide +kernel
theorem dksJ12_copyOfRangeByte_1 : cJ12_copyOfRangeByte.data.toList.drop 24 = dktJ12_copyOfRangeByte_1 := dk_seg dksJ12_copyOfRangeByte_0 24 rfl rfl
theorem dJ12_copyOfRangeByte_0 : decode cJ12_copyOfRangeByte 0 = .ok (.iload_n 1, 1) := dk_27 (dk_at dksJ12_copyOfRangeByte_0 0 rfl rfl)
theorem dJ12_copyOfRangeByte_1 : decode cJ12_copyOfRangeByte 1 = .ok (.iload_n 2, 1) := dk_28 (dk_at dksJ12_copyOfRangeByte_0 1 rfl rfl)
theorem dJ12_copyOfRangeByte_2 : decode cJ12_copyOfRangeByte 2 = .ok (.invokestatic 343, 3) := dk_184 1 87 (dk_at dksJ12_copyOfRangeByte_0 2 rfl rfl)
theorem dJ12_copyOfRangeByte_5 : decode cJ12_copyOfRangeByte 5 = .ok (.iload_n 2, 1) := dk_28 (dk_at dksJ12_copyOfRangeByte_0 5 rfl rfl)
theorem dJ12_copyOfRangeByte_6 : decode cJ12_copyOfRangeByte 6 = .ok (.iload_n 1, 1) := dk_27 (dk_at dksJ12_copyOfRangeByte_0 6 rfl rfl)
theorem dJ12_copyOfRangeByte_7 : decode cJ12_copyOfRangeByte 7 = .ok (.isub, 1) := dk_100 (dk_at dksJ12_copyOfRangeByte_0 7 rfl rfl)
theorem dJ12_copyOfRangeByte_8 : decode cJ12_copyOfRangeByte 8 = .ok (.istore_n 3, 1) := dk_62 (dk_at dksJ12_copyOfRangeByte_0 8 rfl rfl)
theorem dJ12_copyOfRangeByte_9 : decode cJ12_copyOfRangeByte 9 = .ok (.iload_n 3, 1) := dk_29 (dk_at dksJ12_copyOfRangeByte_0 9 rfl rfl)
theorem dJ12_copyOfRangeByte_10 : decode cJ12_copyOfRangeByte 10 = .ok (.newarray .byte, 2) := dk_188_8 (dk_at dksJ12_copyOfRangeByte_0 10 rfl rfl)
theorem dJ12_copyOfRangeByte_12 : decode cJ12_copyOfRangeByte 12 = .ok (.astore 4, 2) := dk_58 4 (dk_at dksJ12_copyOfRangeByte_0 12 rfl rfl)
theorem dJ12_copyOfRangeByte_14 : decode cJ12_copyOfRangeByte 14 = .ok (.aload_n 0, 1) := dk_42 (dk_at dksJ12_copyOfRangeByte_0 14 rfl rfl)
theorem dJ12_copyOfRangeByte_15 : decode cJ12_copyOfRangeByte 15 = .ok (.iload_n 1, 1) := dk_27 (dk_at dksJ12_copyOfRangeByte_0 15 rfl rfl)
theorem dJ12_copyOfRangeByte_16 : decode cJ12_copyOfRangeByte 16 = .ok (.aload 4, 2) := dk_25 4 (dk_at dksJ12_copyOfRangeByte_0 16 rfl rfl)
theorem dJ12_copyOfRangeByte_18 : decode cJ12_copyOfRangeByte 18 = .ok (.iconst 0, 1) := dk_3 (dk_at dksJ12_copyOfRangeByte_0 18 rfl rfl)
theorem dJ12_copyOfRangeByte_19 : decode cJ12_copyOfRangeByte 19 = .ok (.aload_n 0, 1) := dk_42 (dk_at dksJ12_copyOfRangeByte_0 19 rfl rfl)
theorem dJ12_copyOfRangeByte_20 : decode cJ12_copyOfRangeByte 20 = .ok (.arraylength, 1) := dk_190 (dk_at dksJ12_copyOfRangeByte_0 20 rfl rfl)
theorem dJ12_copyOfRangeByte_21 : decode cJ12_copyOfRangeByte 21 = .ok (.iload_n 1, 1) := dk_27 (dk_at dksJ12_copyOfRangeByte_0 21 rfl rfl)
theorem dJ12_copyOfRangeByte_22 : decode cJ12_copyOfRangeByte 22 = .ok (.isub, 1) := dk_100 (dk_at dksJ12_copyOfRangeByte_0 22 rfl rfl)
theorem dJ12_copyOfRangeByte_23 : decode cJ12_copyOfRangeByte 23 = .ok (.iload_n 3, 1) := dk_29 (dk_at dksJ12_copyOfRangeByte_0 23 rfl rfl)
theorem dJ12_copyOfRangeByte_24 : decode cJ12_copyOfRangeByte 24 = .ok (.invokestatic 304, 3) := dk_184 1 48 (dk_at dksJ12_copyOfRangeByte_1 0 rfl rfl)
theorem dJ12_copyOfRangeByte_27 : decode cJ12_copyOfRangeByte 27 = .ok (.invokestatic 150, 3) := dk_184 0 150 (dk_at dksJ12_copyOfRangeByte_1 3 rfl rfl)
theorem dJ12_copyOfRangeByte_30 : decode cJ12_copyOfRangeByte 30 = .ok (.aload 4, 2) := dk_25 4 (dk_at dksJ12_copyOfRangeByte_1 6 rfl rfl)
theorem dJ12_copyOfRangeByte_32 : decode cJ12_copyOfRangeByte 32 = .ok (.areturn, 1) := dk_176 (dk_at dksJ12_copyOfRangeByte_1 8 rfl rfl)
abbrev cJ12_checkLength : ByteArray := prog_18_method_131_code
def yJ12_checkLength : MethodName := ⟨RJ12, "checkLength", "(II)V"⟩
def dkwJ12_checkLength_1 : List UInt8 := [182, 0, 50, 27, 182, 0, 54, 182, 0, 61, 183, 0, 65, 191, 177]
abbrev dktJ12_checkLength_1 : List UInt8 := dkwJ12_checkLength_1 ++ []
def dkwJ12_checkLength_0 : List UInt8 := [27, 26, 162, 0, 35, 187, 0, 43, 89, 187, 0, 45, 89, 183, 0, 47, 26, 182, 0, 54, 19, 1, 81]
abbrev dktJ12_checkLength_0 : List UInt8 := dkwJ12_checkLength_0 ++ dktJ12_checkLength_1
theorem dksJ12_checkLength_0 : cJ12_checkLength.data.toList.drop 0 = dktJ12_checkLength_0 := by decide +kernel
theorem dksJ12_checkLength_1 : cJ12_checkLength.data.toList.drop 23 = dktJ12_checkLength_1 := dk_seg dksJ12_checkLength_0 23 rfl rfl
theorem dJ12_checkLength_0 : decode cJ12_checkLength 0 = .ok (.iload_n 1, 1) := dk_27 (dk_at dksJ12_checkLength_0 0 rfl rfl)
theorem dJ12_checkLength_1 : decode cJ12_checkLength 1 = .ok (.iload_n 0, 1) := dk_26 (dk_at dksJ12_checkLength_0 1 rfl rfl)
theorem dJ12_checkLength_2 : decode cJ12_checkLength 2 = .ok (.if_icmp .ge 35, 3) := dk_162 0 35 (dk_at dksJ12_checkLength_0 2 rfl rfl)
theorem dJ12_checkLength_5 : decode cJ12_checkLength 5 = .ok (.new 43, 3) := dk_187 0 43 (dk_at dksJ12_checkLength_0 5 rfl rfl)
theorem dJ12_checkLength_8 : decode cJ12_checkLength 8 = .ok (.dup, 1) := dk_89 (dk_at dksJ12_checkLength_0 8 rfl rfl)
theorem dJ12_checkLength_9 : decode cJ12_checkLength 9 = .ok (.new 45, 3) := dk_187 0 45 (dk_at dksJ12_checkLength_0 9 rfl rfl)
theorem dJ12_checkLength_12 : decode cJ12_checkLength 12 = .ok (.dup, 1) := dk_89 (dk_at dksJ12_checkLength_0 12 rfl rfl)
theorem dJ12_checkLength_13 : decode cJ12_checkLength 13 = .ok (.invokespecial 47, 3) := dk_183 0 47 (dk_at dksJ12_checkLength_0 13 rfl rfl)
theorem dJ12_checkLength_16 : decode cJ12_checkLength 16 = .ok (.iload_n 0, 1) := dk_26 (dk_at dksJ12_checkLength_0 16 rfl rfl)
theorem dJ12_checkLength_17 : decode cJ12_checkLength 17 = .ok (.invokevirtual 54, 3) := dk_182 0 54 (dk_at dksJ12_checkLength_0 17 rfl rfl)
theorem dJ12_checkLength_20 : decode cJ12_checkLength 20 = .ok (.ldc_w 337, 3) := dk_19 1 81 (dk_at dksJ12_checkLength_0 20 rfl rfl)
theorem dJ12_checkLength_23 : decode cJ12_checkLength 23 = .ok (.invokevirtual 50, 3) := dk_182 0 50 (dk_at dksJ12_checkLength_1 0 rfl rfl)
theorem dJ12_checkLength_26 : decode cJ12_checkLength 26 = .ok (.iload_n 1, 1) := dk_27 (dk_at dksJ12_checkLength_1 3 rfl rfl)
theorem dJ12_checkLength_27 : decode cJ12_checkLength 27 = .ok (.invokevirtual 54, 3) := dk_182 0 54 (dk_at dksJ12_checkLength_1 4 rfl rfl)
theorem dJ12_checkLength_30 : decode cJ12_checkLength 30 = .ok (.invokevirtual 61, 3) := dk_182 0 61 (dk_at dksJ12_checkLength_1 7 rfl rfl)
theorem dJ12_checkLength_33 : decode cJ12_checkLength 33 = .ok (.invokespecial 65, 3) := dk_183 0 65 (dk_at dksJ12_checkLength_1 10 rfl rfl)
theorem dJ12_checkLength_36 : decode cJ12_checkLength 36 = .ok (.athrow, 1) := dk_191 (dk_at dksJ12_checkLength_1 13 rfl rfl)
theorem dJ12_checkLength_37 : decode cJ12_checkLength 37 = .ok (.return_, 1) := dk_177 (dk_at dksJ12_checkLength_1 14 rfl rfl)
theorem q17 : (Jvm.Cond.initialized "java/util/Arrays") ∈ lw_all := lw_g (lw_at lw_m1 16 rfl) rfl
theorem q347 : (Jvm.Cond.static ({ cls := "java/util/Arrays", name := "copyOf", desc := "([BI)[B" } : Jvm.MethodName)) ∈ lw_all := lw_g (lw_at lw_m2 106 rfl) rfl
theorem q348 : (Jvm.Cond.code ({ cls := "java/util/Arrays", name := "copyOf", desc := "([BI)[B" } : Jvm.MethodName) prog_18_method_121_code (3 : Nat) (Option.some (Jvm.ClassFile.FieldType.array Jvm.ClassFile.FieldType.byte))) ∈ lw_all := lw_g (lw_at lw_m2 107 rfl) rfl
theorem q349 : (Jvm.Cond.methodLink "java/util/Arrays" (310 : Nat) ({ cls := "[B", name := "clone", desc := "()Ljava/lang/Object;" } : Jvm.MethodName)) ∈ lw_all := lw_g (lw_at lw_m2 108 rfl) rfl
theorem q355 : (Jvm.Cond.classLink "java/util/Arrays" (311 : Nat) "[B") ∈ lw_all := lw_g (lw_at lw_m2 114 rfl) rfl
theorem q356 : (Jvm.Cond.methodLink "java/util/Arrays" (304 : Nat) ({ cls := "java/lang/Math", name := "min", desc := "(II)I" } : Jvm.MethodName)) ∈ lw_all := lw_g (lw_at lw_m2 115 rfl) rfl
theorem q359 : (Jvm.Cond.methodLink "java/util/Arrays" (150 : Nat) ({ cls := "java/lang/System", name := "arraycopy", desc := "(Ljava/lang/Object;ILjava/lang/Object;II)V" } : Jvm.MethodName)) ∈ lw_all := lw_g (lw_at lw_m2 118 rfl) rfl
theorem q481 : (Jvm.Cond.static ({ cls := "java/util/Arrays", name := "fill", desc := "([BIIB)V" } : Jvm.MethodName)) ∈ lw_all := lw_g (lw_at lw_m3 0 rfl) rfl
theorem q482 : (Jvm.Cond.code ({ cls := "java/util/Arrays", name := "fill", desc := "([BIIB)V" } : Jvm.MethodName) prog_18_method_110_code (5 : Nat) (Option.none : Option Jvm.ClassFile.FieldType)) ∈ lw_all := lw_g (lw_at lw_m3 1 rfl) rfl
theorem q483 : (Jvm.Cond.methodLink "java/util/Arrays" (13 : Nat) ({ cls := "java/util/Arrays", name := "rangeCheck", desc := "(III)V" } : Jvm.MethodName)) ∈ lw_all := lw_g (lw_at lw_m3 2 rfl) rfl
theorem q484 : (Jvm.Cond.static ({ cls := "java/util/Arrays", name := "rangeCheck", desc := "(III)V" } : Jvm.MethodName)) ∈ lw_all := lw_g (lw_at lw_m3 3 rfl) rfl
theorem q485 : (Jvm.Cond.code ({ cls := "java/util/Arrays", name := "rangeCheck", desc := "(III)V" } : Jvm.MethodName) prog_18_method_30_code (3 : Nat) (Option.none : Option Jvm.ClassFile.FieldType)) ∈ lw_all := lw_g (lw_at lw_m3 4 rfl) rfl
theorem q531 : (Jvm.Cond.static ({ cls := "java/util/Arrays", name := "copyOfRange", desc := "([BII)[B" } : Jvm.MethodName)) ∈ lw_all := lw_g (lw_at lw_m3 50 rfl) rfl
theorem q532 : (Jvm.Cond.code ({ cls := "java/util/Arrays", name := "copyOfRange", desc := "([BII)[B" } : Jvm.MethodName) prog_18_method_132_code (3 : Nat) (Option.some (Jvm.ClassFile.FieldType.array Jvm.ClassFile.FieldType.byte))) ∈ lw_all := lw_g (lw_at lw_m3 51 rfl) rfl
theorem q533 : (Jvm.Cond.methodLink "java/util/Arrays" (339 : Nat) ({ cls := "java/util/Arrays", name := "copyOfRangeByte", desc := "([BII)[B" } : Jvm.MethodName)) ∈ lw_all := lw_g (lw_at lw_m3 52 rfl) rfl
theorem q534 : (Jvm.Cond.static ({ cls := "java/util/Arrays", name := "copyOfRangeByte", desc := "([BII)[B" } : Jvm.MethodName)) ∈ lw_all := lw_g (lw_at lw_m3 53 rfl) rfl
theorem q535 : (Jvm.Cond.code ({ cls := "java/util/Arrays", name := "copyOfRangeByte", desc := "([BII)[B" } : Jvm.MethodName) prog_18_method_133_code (5 : Nat) (Option.some (Jvm.ClassFile.FieldType.array Jvm.ClassFile.FieldType.byte))) ∈ lw_all := lw_g (lw_at lw_m3 54 rfl) rfl
theorem q536 : (Jvm.Cond.methodLink "java/util/Arrays" (343 : Nat) ({ cls := "java/util/Arrays", name := "checkLength", desc := "(II)V" } : Jvm.MethodName)) ∈ lw_all := lw_g (lw_at lw_m3 55 rfl) rfl
theorem q537 : (Jvm.Cond.static ({ cls := "java/util/Arrays", name := "checkLength", desc := "(II)V" } : Jvm.MethodName)) ∈ lw_all := lw_g (lw_at lw_m3 56 rfl) rfl
theorem q538 : (Jvm.Cond.code ({ cls := "java/util/Arrays", name := "checkLength", desc := "(II)V" } : Jvm.MethodName) prog_18_method_131_code (2 : Nat) (Option.none : Option Jvm.ClassFile.FieldType)) ∈ lw_all := lw_g (lw_at lw_m3 57 rfl) rfl
end
section
/-! java/lang/String -/
set_option maxRecDepth 100000
def RJ0 : String := "java/lang/String"
def TJ0 : u_T := fun k => match k with
  | 0 => ("java/lang/String", "value", "[B", true)
  | 1 => ("java/lang/String", "coder", "B", true)
  | 2 => ("java/lang/String", "hash", "I", false)
  | _ => ("java/lang/String", "hashIsZero", "Z", false)
def tyJ0 : Nat → FieldType := fun k => match k with
  | 0 => .array .byte
  | 1 => .byte
  | 2 => .int
  | _ => .boolean
abbrev wsJ00 : List Cond := u_ws RJ0 TJ0 4
theorem nmJ0 : ∀ a, a < 4 → ∀ b, b < 4 → a ≠ b → (TJ0 a).2.1 ≠ (TJ0 b).2.1 := by decide +kernel
theorem tyJ0_ok : ∀ k, k < 4 → parseFieldDescriptor (TJ0 k).2.2.1 = some (tyJ0 k) := by decide +kernel
abbrev cJ0_length : ByteArray := prog_12_method_54_code
def yJ0_length : MethodName := ⟨RJ0, "length", "()I"⟩
def dkwJ0_length_0 : List UInt8 := [42, 180, 0, 9, 190, 42, 182, 1, 79, 122, 172]
abbrev dktJ0_length_0 : List UInt8 := dkwJ0_length_0 ++ []
theorem dksJ0_length_0 : cJ0_length.data.toList.drop 0 = dktJ0_length_0 := by decide +kernel
theorem dJ0_length_0 : decode cJ0_length 0 = .ok (.aload_n 0, 1) := dk_42 (dk_at dksJ0_length_0 0 rfl rfl)
theorem dJ0_length_1 : decode cJ0_length 1 = .ok (.getfield 9, 3) := dk_180 0 9 (dk_at dksJ0_length_0 1 rfl rfl)
theorem dJ0_length_4 : decode cJ0_length 4 = .ok (.arraylength, 1) := dk_190 (dk_at dksJ0_length_0 4 rfl rfl)
theorem dJ0_length_5 : decode cJ0_length 5 = .ok (.aload_n 0, 1) := dk_42 (dk_at dksJ0_length_0 5 rfl rfl)
theorem dJ0_length_6 : decode cJ0_length 6 = .ok (.invokevirtual 335, 3) := dk_182 1 79 (dk_at dksJ0_length_0 6 rfl rfl)
theorem dJ0_length_9 : decode cJ0_length 9 = .ok (.ishr, 1) := dk_122 (dk_at dksJ0_length_0 9 rfl rfl)
theorem dJ0_length_10 : decode cJ0_length 10 = .ok (.ireturn, 1) := dk_172 (dk_at dksJ0_length_0 10 rfl rfl)
abbrev cJ0_coder : ByteArray := prog_12_method_152_code
def yJ0_coder : MethodName := ⟨RJ0, "coder", "()B"⟩
def dkwJ0_coder_0 : List UInt8 := [178, 0, 38, 153, 0, 10, 42, 180, 0, 15, 167, 0, 4, 4, 172]
abbrev dktJ0_coder_0 : List UInt8 := dkwJ0_coder_0 ++ []
theorem dksJ0_coder_0 : cJ0_coder.data.toList.drop 0 = dktJ0_coder_0 := by decide +kernel
theorem dJ0_coder_0 : decode cJ0_coder 0 = .ok (.getstatic 38, 3) := dk_178 0 38 (dk_at dksJ0_coder_0 0 rfl rfl)
theorem dJ0_coder_3 : decode cJ0_coder 3 = .ok (.ifCond .eq 10, 3) := dk_153 0 10 (dk_at dksJ0_coder_0 3 rfl rfl)
theorem dJ0_coder_6 : decode cJ0_coder 6 = .ok (.aload_n 0, 1) := dk_42 (dk_at dksJ0_coder_0 6 rfl rfl)
theorem dJ0_coder_7 : decode cJ0_coder 7 = .ok (.getfield 15, 3) := dk_180 0 15 (dk_at dksJ0_coder_0 7 rfl rfl)
theorem dJ0_coder_10 : decode cJ0_coder 10 = .ok (.goto 4, 3) := dk_167 0 4 (dk_at dksJ0_coder_0 10 rfl rfl)
theorem dJ0_coder_13 : decode cJ0_coder 13 = .ok (.iconst 1, 1) := dk_4 (dk_at dksJ0_coder_0 13 rfl rfl)
theorem dJ0_coder_14 : decode cJ0_coder 14 = .ok (.ireturn, 1) := dk_172 (dk_at dksJ0_coder_0 14 rfl rfl)
abbrev cJ0_charAt : ByteArray := prog_12_method_56_code
def yJ0_charAt : MethodName := ⟨RJ0, "charAt", "(I)C"⟩
def dkwJ0_charAt_1 : List UInt8 := [172]
abbrev dktJ0_charAt_1 : List UInt8 := dkwJ0_charAt_1 ++ []
def dkwJ0_charAt_0 : List UInt8 := [42, 182, 1, 236, 153, 0, 12, 42, 180, 0, 9, 27, 184, 1, 239, 172, 42, 180, 0, 9, 27, 184, 1, 242]
abbrev dktJ0_charAt_0 : List UInt8 := dkwJ0_charAt_0 ++ dktJ0_charAt_1
theorem dksJ0_charAt_0 : cJ0_charAt.data.toList.drop 0 = dktJ0_charAt_0 := by decide +kernel
theorem dksJ0_charAt_1 : cJ0_charAt.data.toList.drop 24 = dktJ0_charAt_1 := dk_seg dksJ0_charAt_0 24 rfl rfl
theorem dJ0_charAt_0 : decode cJ0_charAt 0 = .ok (.aload_n 0, 1) := dk_42 (dk_at dksJ0_charAt_0 0 rfl rfl)
theorem dJ0_charAt_1 : decode cJ0_charAt 1 = .ok (.invokevirtual 492, 3) := dk_182 1 236 (dk_at dksJ0_charAt_0 1 rfl rfl)
theorem dJ0_charAt_4 : decode cJ0_charAt 4 = .ok (.ifCond .eq 12, 3) := dk_153 0 12 (dk_at dksJ0_charAt_0 4 rfl rfl)
theorem dJ0_charAt_7 : decode cJ0_charAt 7 = .ok (.aload_n 0, 1) := dk_42 (dk_at dksJ0_charAt_0 7 rfl rfl)
theorem dJ0_charAt_8 : decode cJ0_charAt 8 = .ok (.getfield 9, 3) := dk_180 0 9 (dk_at dksJ0_charAt_0 8 rfl rfl)
theorem dJ0_charAt_11 : decode cJ0_charAt 11 = .ok (.iload_n 1, 1) := dk_27 (dk_at dksJ0_charAt_0 11 rfl rfl)
theorem dJ0_charAt_12 : decode cJ0_charAt 12 = .ok (.invokestatic 495, 3) := dk_184 1 239 (dk_at dksJ0_charAt_0 12 rfl rfl)
theorem dJ0_charAt_15 : decode cJ0_charAt 15 = .ok (.ireturn, 1) := dk_172 (dk_at dksJ0_charAt_0 15 rfl rfl)
theorem dJ0_charAt_16 : decode cJ0_charAt 16 = .ok (.aload_n 0, 1) := dk_42 (dk_at dksJ0_charAt_0 16 rfl rfl)
theorem dJ0_charAt_17 : decode cJ0_charAt 17 = .ok (.getfield 9, 3) := dk_180 0 9 (dk_at dksJ0_charAt_0 17 rfl rfl)
theorem dJ0_charAt_20 : decode cJ0_charAt 20 = .ok (.iload_n 1, 1) := dk_27 (dk_at dksJ0_charAt_0 20 rfl rfl)
theorem dJ0_charAt_21 : decode cJ0_charAt 21 = .ok (.invokestatic 498, 3) := dk_184 1 242 (dk_at dksJ0_charAt_0 21 rfl rfl)
theorem dJ0_charAt_24 : decode cJ0_charAt 24 = .ok (.ireturn, 1) := dk_172 (dk_at dksJ0_charAt_1 0 rfl rfl)
abbrev cJ0_isLatin1 : ByteArray := prog_12_method_154_code
def yJ0_isLatin1 : MethodName := ⟨RJ0, "isLatin1", "()Z"⟩
def dkwJ0_isLatin1_0 : List UInt8 := [178, 0, 38, 153, 0, 14, 42, 180, 0, 15, 154, 0, 7, 4, 167, 0, 4, 3, 172]
abbrev dktJ0_isLatin1_0 : List UInt8 := dkwJ0_isLatin1_0 ++ []
theorem dksJ0_isLatin1_0 : cJ0_isLatin1.data.toList.drop 0 = dktJ0_isLatin1_0 := by decide +kernel
theorem dJ0_isLatin1_0 : decode cJ0_isLatin1 0 = .ok (.getstatic 38, 3) := dk_178 0 38 (dk_at dksJ0_isLatin1_0 0 rfl rfl)
theorem dJ0_isLatin1_3 : decode cJ0_isLatin1 3 = .ok (.ifCond .eq 14, 3) := dk_153 0 14 (dk_at dksJ0_isLatin1_0 3 rfl rfl)
theorem dJ0_isLatin1_6 : decode cJ0_isLatin1 6 = .ok (.aload_n 0, 1) := dk_42 (dk_at dksJ0_isLatin1_0 6 rfl rfl)
theorem dJ0_isLatin1_7 : decode cJ0_isLatin1 7 = .ok (.getfield 15, 3) := dk_180 0 15 (dk_at dksJ0_isLatin1_0 7 rfl rfl)
theorem dJ0_isLatin1_10 : decode cJ0_isLatin1 10 = .ok (.ifCond .ne 7, 3) := dk_154 0 7 (dk_at dksJ0_isLatin1_0 10 rfl rfl)
theorem dJ0_isLatin1_13 : decode cJ0_isLatin1 13 = .ok (.iconst 1, 1) := dk_4 (dk_at dksJ0_isLatin1_0 13 rfl rfl)
theorem dJ0_isLatin1_14 : decode cJ0_isLatin1 14 = .ok (.goto 4, 3) := dk_167 0 4 (dk_at dksJ0_isLatin1_0 14 rfl rfl)
theorem dJ0_isLatin1_17 : decode cJ0_isLatin1 17 = .ok (.iconst 0, 1) := dk_3 (dk_at dksJ0_isLatin1_0 17 rfl rfl)
theorem dJ0_isLatin1_18 : decode cJ0_isLatin1 18 = .ok (.ireturn, 1) := dk_172 (dk_at dksJ0_isLatin1_0 18 rfl rfl)
abbrev cJ0_checkIndex : ByteArray := prog_12_method_155_code
def yJ0_checkIndex : MethodName := ⟨RJ0, "checkIndex", "(II)V"⟩
def dkwJ0_checkIndex_0 : List UInt8 := [26, 27, 178, 4, 29, 184, 4, 35, 87, 177]
abbrev dktJ0_checkIndex_0 : List UInt8 := dkwJ0_checkIndex_0 ++ []
theorem dksJ0_checkIndex_0 : cJ0_checkIndex.data.toList.drop 0 = dktJ0_checkIndex_0 := by decide +kernel
theorem dJ0_checkIndex_0 : decode cJ0_checkIndex 0 = .ok (.iload_n 0, 1) := dk_26 (dk_at dksJ0_checkIndex_0 0 rfl rfl)
theorem dJ0_checkIndex_1 : decode cJ0_checkIndex 1 = .ok (.iload_n 1, 1) := dk_27 (dk_at dksJ0_checkIndex_0 1 rfl rfl)
theorem dJ0_checkIndex_2 : decode cJ0_checkIndex 2 = .ok (.getstatic 1053, 3) := dk_178 4 29 (dk_at dksJ0_checkIndex_0 2 rfl rfl)
theorem dJ0_checkIndex_5 : decode cJ0_checkIndex 5 = .ok (.invokestatic 1059, 3) := dk_184 4 35 (dk_at dksJ0_checkIndex_0 5 rfl rfl)
theorem dJ0_checkIndex_8 : decode cJ0_checkIndex 8 = .ok (.pop, 1) := dk_87 (dk_at dksJ0_checkIndex_0 8 rfl rfl)
theorem dJ0_checkIndex_9 : decode cJ0_checkIndex 9 = .ok (.return_, 1) := dk_177 (dk_at dksJ0_checkIndex_0 9 rfl rfl)
abbrev cJ0_init : ByteArray := prog_12_method_4_code
def yJ0_init : MethodName := ⟨RJ0, "<init>", "([CII)V"⟩
def dkwJ0_init_0 : List UInt8 := [42, 43, 28, 29, 43, 28, 29, 184, 0, 30, 183, 0, 27, 177]
abbrev dktJ0_init_0 : List UInt8 := dkwJ0_init_0 ++ []
theorem dksJ0_init_0 : cJ0_init.data.toList.drop 0 = dktJ0_init_0 := by decide +kernel
theorem dJ0_init_0 : decode cJ0_init 0 = .ok (.aload_n 0, 1) := dk_42 (dk_at dksJ0_init_0 0 rfl rfl)
theorem dJ0_init_1 : decode cJ0_init 1 = .ok (.aload_n 1, 1) := dk_43 (dk_at dksJ0_init_0 1 rfl rfl)
theorem dJ0_init_2 : decode cJ0_init 2 = .ok (.iload_n 2, 1) := dk_28 (dk_at dksJ0_init_0 2 rfl rfl)
theorem dJ0_init_3 : decode cJ0_init 3 = .ok (.iload_n 3, 1) := dk_29 (dk_at dksJ0_init_0 3 rfl rfl)
theorem dJ0_init_4 : decode cJ0_init 4 = .ok (.aload_n 1, 1) := dk_43 (dk_at dksJ0_init_0 4 rfl rfl)
theorem dJ0_init_5 : decode cJ0_init 5 = .ok (.iload_n 2, 1) := dk_28 (dk_at dksJ0_init_0 5 rfl rfl)
theorem dJ0_init_6 : decode cJ0_init 6 = .ok (.iload_n 3, 1) := dk_29 (dk_at dksJ0_init_0 6 rfl rfl)
theorem dJ0_init_7 : decode cJ0_init 7 = .ok (.invokestatic 30, 3) := dk_184 0 30 (dk_at dksJ0_init_0 7 rfl rfl)
theorem dJ0_init_10 : decode cJ0_init 10 = .ok (.invokespecial 27, 3) := dk_183 0 27 (dk_at dksJ0_init_0 10 rfl rfl)
theorem dJ0_init_13 : decode cJ0_init 13 = .ok (.return_, 1) := dk_177 (dk_at dksJ0_init_0 13 rfl rfl)
abbrev cJ0_rangeCheck : ByteArray := prog_12_method_5_code
def yJ0_rangeCheck : MethodName := ⟨RJ0, "rangeCheck", "([CII)Ljava/lang/Void;"⟩
def dkwJ0_rangeCheck_0 : List UInt8 := [27, 28, 42, 190, 184, 0, 34, 87, 1, 176]
abbrev dktJ0_rangeCheck_0 : List UInt8 := dkwJ0_rangeCheck_0 ++ []
theorem dksJ0_rangeCheck_0 : cJ0_rangeCheck.data.toList.drop 0 = dktJ0_rangeCheck_0 := by decide +kernel
theorem dJ0_rangeCheck_0 : decode cJ0_rangeCheck 0 = .ok (.iload_n 1, 1) := dk_27 (dk_at dksJ0_rangeCheck_0 0 rfl rfl)
theorem dJ0_rangeCheck_1 : decode cJ0_rangeCheck 1 = .ok (.iload_n 2, 1) := dk_28 (dk_at dksJ0_rangeCheck_0 1 rfl rfl)
theorem dJ0_rangeCheck_2 : decode cJ0_rangeCheck 2 = .ok (.aload_n 0, 1) := dk_42 (dk_at dksJ0_rangeCheck_0 2 rfl rfl)
theorem dJ0_rangeCheck_3 : decode cJ0_rangeCheck 3 = .ok (.arraylength, 1) := dk_190 (dk_at dksJ0_rangeCheck_0 3 rfl rfl)
theorem dJ0_rangeCheck_4 : decode cJ0_rangeCheck 4 = .ok (.invokestatic 34, 3) := dk_184 0 34 (dk_at dksJ0_rangeCheck_0 4 rfl rfl)
theorem dJ0_rangeCheck_7 : decode cJ0_rangeCheck 7 = .ok (.pop, 1) := dk_87 (dk_at dksJ0_rangeCheck_0 7 rfl rfl)
theorem dJ0_rangeCheck_8 : decode cJ0_rangeCheck 8 = .ok (.aconst_null, 1) := dk_1 (dk_at dksJ0_rangeCheck_0 8 rfl rfl)
theorem dJ0_rangeCheck_9 : decode cJ0_rangeCheck 9 = .ok (.areturn, 1) := dk_176 (dk_at dksJ0_rangeCheck_0 9 rfl rfl)
abbrev cJ0_checkBoundsOffCount : ByteArray := prog_12_method_157_code
def yJ0_checkBoundsOffCount : MethodName := ⟨RJ0, "checkBoundsOffCount", "(III)I"⟩
def dkwJ0_checkBoundsOffCount_0 : List UInt8 := [26, 27, 28, 178, 4, 29, 184, 4, 41, 172]
abbrev dktJ0_checkBoundsOffCount_0 : List UInt8 := dkwJ0_checkBoundsOffCount_0 ++ []
theorem dksJ0_checkBoundsOffCount_0 : cJ0_checkBoundsOffCount.data.toList.drop 0 = dktJ0_checkBoundsOffCount_0 := by decide +kernel
theorem dJ0_checkBoundsOffCount_0 : decode cJ0_checkBoundsOffCount 0 = .ok (.iload_n 0, 1) := dk_26 (dk_at dksJ0_checkBoundsOffCount_0 0 rfl rfl)
theorem dJ0_checkBoundsOffCount_1 : decode cJ0_checkBoundsOffCount 1 = .ok (.iload_n 1, 1) := dk_27 (dk_at dksJ0_checkBoundsOffCount_0 1 rfl rfl)
theorem dJ0_checkBoundsOffCount_2 : decode cJ0_checkBoundsOffCount 2 = .ok (.iload_n 2, 1) := dk_28 (dk_at dksJ0_checkBoundsOffCount_0 2 rfl rfl)
theorem dJ0_checkBoundsOffCount_3 : decode cJ0_checkBoundsOffCount 3 = .ok (.getstatic 1053, 3) := dk_178 4 29 (dk_at dksJ0_checkBoundsOffCount_0 3 rfl rfl)
theorem dJ0_checkBoundsOffCount_6 : decode cJ0_checkBoundsOffCount 6 = .ok (.invokestatic 1065, 3) := dk_184 4 41 (dk_at dksJ0_checkBoundsOffCount_0 6 rfl rfl)
theorem dJ0_checkBoundsOffCount_9 : decode cJ0_checkBoundsOffCount 9 = .ok (.ireturn, 1) := dk_172 (dk_at dksJ0_checkBoundsOffCount_0 9 rfl rfl)
abbrev cJ0_init_2 : ByteArray := prog_12_method_149_code
def yJ0_init_2 : MethodName := ⟨RJ0, "<init>", "([CIILjava/lang/Void;)V"⟩
def dkwJ0_init_2_3 : List UInt8 := [184, 0, 180, 181, 0, 9, 177]
abbrev dktJ0_init_2_3 : List UInt8 := dkwJ0_init_2_3 ++ []
def dkwJ0_init_2_2 : List UInt8 := [184, 0, 47, 181, 0, 15, 42, 25, 5, 181, 0, 9, 177, 42, 4, 181, 0, 15, 42, 43, 28, 29]
abbrev dktJ0_init_2_2 : List UInt8 := dkwJ0_init_2_2 ++ dktJ0_init_2_3
def dkwJ0_init_2_1 : List UInt8 := [181, 0, 15, 177, 178, 0, 38, 153, 0, 28, 43, 28, 29, 184, 0, 177, 58, 5, 42, 25, 5, 29]
abbrev dktJ0_init_2_1 : List UInt8 := dkwJ0_init_2_1 ++ dktJ0_init_2_2
def dkwJ0_init_2_0 : List UInt8 := [42, 183, 0, 1, 29, 154, 0, 22, 42, 18, 7, 180, 0, 9, 181, 0, 9, 42, 18, 7, 180, 0, 15]
abbrev dktJ0_init_2_0 : List UInt8 := dkwJ0_init_2_0 ++ dktJ0_init_2_1
theorem dksJ0_init_2_0 : cJ0_init_2.data.toList.drop 0 = dktJ0_init_2_0 := by decide +kernel
theorem dksJ0_init_2_1 : cJ0_init_2.data.toList.drop 23 = dktJ0_init_2_1 := dk_seg dksJ0_init_2_0 23 rfl rfl
theorem dksJ0_init_2_2 : cJ0_init_2.data.toList.drop 45 = dktJ0_init_2_2 := dk_seg dksJ0_init_2_1 22 rfl rfl
theorem dksJ0_init_2_3 : cJ0_init_2.data.toList.drop 67 = dktJ0_init_2_3 := dk_seg dksJ0_init_2_2 22 rfl rfl
theorem dJ0_init_2_0 : decode cJ0_init_2 0 = .ok (.aload_n 0, 1) := dk_42 (dk_at dksJ0_init_2_0 0 rfl rfl)
theorem dJ0_init_2_1 : decode cJ0_init_2 1 = .ok (.invokespecial 1, 3) := dk_183 0 1 (dk_at dksJ0_init_2_0 1 rfl rfl)
theorem dJ0_init_2_4 : decode cJ0_init_2 4 = .ok (.iload_n 3, 1) := dk_29 (dk_at dksJ0_init_2_0 4 rfl rfl)
theorem dJ0_init_2_5 : decode cJ0_init_2 5 = .ok (.ifCond .ne 22, 3) := dk_154 0 22 (dk_at dksJ0_init_2_0 5 rfl rfl)
theorem dJ0_init_2_8 : decode cJ0_init_2 8 = .ok (.aload_n 0, 1) := dk_42 (dk_at dksJ0_init_2_0 8 rfl rfl)
theorem dJ0_init_2_9 : decode cJ0_init_2 9 = .ok (.ldc 7, 2) := dk_18 7 (dk_at dksJ0_init_2_0 9 rfl rfl)
theorem dJ0_init_2_11 : decode cJ0_init_2 11 = .ok (.getfield 9, 3) := dk_180 0 9 (dk_at dksJ0_init_2_0 11 rfl rfl)
theorem dJ0_init_2_14 : decode cJ0_init_2 14 = .ok (.putfield 9, 3) := dk_181 0 9 (dk_at dksJ0_init_2_0 14 rfl rfl)
theorem dJ0_init_2_17 : decode cJ0_init_2 17 = .ok (.aload_n 0, 1) := dk_42 (dk_at dksJ0_init_2_0 17 rfl rfl)
theorem dJ0_init_2_18 : decode cJ0_init_2 18 = .ok (.ldc 7, 2) := dk_18 7 (dk_at dksJ0_init_2_0 18 rfl rfl)
theorem dJ0_init_2_20 : decode cJ0_init_2 20 = .ok (.getfield 15, 3) := dk_180 0 15 (dk_at dksJ0_init_2_0 20 rfl rfl)
theorem dJ0_init_2_23 : decode cJ0_init_2 23 = .ok (.putfield 15, 3) := dk_181 0 15 (dk_at dksJ0_init_2_1 0 rfl rfl)
theorem dJ0_init_2_26 : decode cJ0_init_2 26 = .ok (.return_, 1) := dk_177 (dk_at dksJ0_init_2_1 3 rfl rfl)
theorem dJ0_init_2_27 : decode cJ0_init_2 27 = .ok (.getstatic 38, 3) := dk_178 0 38 (dk_at dksJ0_init_2_1 4 rfl rfl)
theorem dJ0_init_2_30 : decode cJ0_init_2 30 = .ok (.ifCond .eq 28, 3) := dk_153 0 28 (dk_at dksJ0_init_2_1 7 rfl rfl)
theorem dJ0_init_2_33 : decode cJ0_init_2 33 = .ok (.aload_n 1, 1) := dk_43 (dk_at dksJ0_init_2_1 10 rfl rfl)
theorem dJ0_init_2_34 : decode cJ0_init_2 34 = .ok (.iload_n 2, 1) := dk_28 (dk_at dksJ0_init_2_1 11 rfl rfl)
theorem dJ0_init_2_35 : decode cJ0_init_2 35 = .ok (.iload_n 3, 1) := dk_29 (dk_at dksJ0_init_2_1 12 rfl rfl)
theorem dJ0_init_2_36 : decode cJ0_init_2 36 = .ok (.invokestatic 177, 3) := dk_184 0 177 (dk_at dksJ0_init_2_1 13 rfl rfl)
theorem dJ0_init_2_39 : decode cJ0_init_2 39 = .ok (.astore 5, 2) := dk_58 5 (dk_at dksJ0_init_2_1 16 rfl rfl)
theorem dJ0_init_2_41 : decode cJ0_init_2 41 = .ok (.aload_n 0, 1) := dk_42 (dk_at dksJ0_init_2_1 18 rfl rfl)
theorem dJ0_init_2_42 : decode cJ0_init_2 42 = .ok (.aload 5, 2) := dk_25 5 (dk_at dksJ0_init_2_1 19 rfl rfl)
theorem dJ0_init_2_44 : decode cJ0_init_2 44 = .ok (.iload_n 3, 1) := dk_29 (dk_at dksJ0_init_2_1 21 rfl rfl)
theorem dJ0_init_2_45 : decode cJ0_init_2 45 = .ok (.invokestatic 47, 3) := dk_184 0 47 (dk_at dksJ0_init_2_2 0 rfl rfl)
theorem dJ0_init_2_48 : decode cJ0_init_2 48 = .ok (.putfield 15, 3) := dk_181 0 15 (dk_at dksJ0_init_2_2 3 rfl rfl)
theorem dJ0_init_2_51 : decode cJ0_init_2 51 = .ok (.aload_n 0, 1) := dk_42 (dk_at dksJ0_init_2_2 6 rfl rfl)
theorem dJ0_init_2_52 : decode cJ0_init_2 52 = .ok (.aload 5, 2) := dk_25 5 (dk_at dksJ0_init_2_2 7 rfl rfl)
theorem dJ0_init_2_54 : decode cJ0_init_2 54 = .ok (.putfield 9, 3) := dk_181 0 9 (dk_at dksJ0_init_2_2 9 rfl rfl)
theorem dJ0_init_2_57 : decode cJ0_init_2 57 = .ok (.return_, 1) := dk_177 (dk_at dksJ0_init_2_2 12 rfl rfl)
theorem dJ0_init_2_58 : decode cJ0_init_2 58 = .ok (.aload_n 0, 1) := dk_42 (dk_at dksJ0_init_2_2 13 rfl rfl)
theorem dJ0_init_2_59 : decode cJ0_init_2 59 = .ok (.iconst 1, 1) := dk_4 (dk_at dksJ0_init_2_2 14 rfl rfl)
theorem dJ0_init_2_60 : decode cJ0_init_2 60 = .ok (.putfield 15, 3) := dk_181 0 15 (dk_at dksJ0_init_2_2 15 rfl rfl)
theorem dJ0_init_2_63 : decode cJ0_init_2 63 = .ok (.aload_n 0, 1) := dk_42 (dk_at dksJ0_init_2_2 18 rfl rfl)
theorem dJ0_init_2_64 : decode cJ0_init_2 64 = .ok (.aload_n 1, 1) := dk_43 (dk_at dksJ0_init_2_2 19 rfl rfl)
theorem dJ0_init_2_65 : decode cJ0_init_2 65 = .ok (.iload_n 2, 1) := dk_28 (dk_at dksJ0_init_2_2 20 rfl rfl)
theorem dJ0_init_2_66 : decode cJ0_init_2 66 = .ok (.iload_n 3, 1) := dk_29 (dk_at dksJ0_init_2_2 21 rfl rfl)
theorem dJ0_init_2_67 : decode cJ0_init_2 67 = .ok (.invokestatic 180, 3) := dk_184 0 180 (dk_at dksJ0_init_2_3 0 rfl rfl)
theorem dJ0_init_2_70 : decode cJ0_init_2 70 = .ok (.putfield 9, 3) := dk_181 0 9 (dk_at dksJ0_init_2_3 3 rfl rfl)
theorem dJ0_init_2_73 : decode cJ0_init_2 73 = .ok (.return_, 1) := dk_177 (dk_at dksJ0_init_2_3 6 rfl rfl)
abbrev cJ0_checkBoundsBeginEnd : ByteArray := prog_12_method_158_code
def yJ0_checkBoundsBeginEnd : MethodName := ⟨RJ0, "checkBoundsBeginEnd", "(III)V"⟩
def dkwJ0_checkBoundsBeginEnd_0 : List UInt8 := [26, 27, 28, 178, 4, 29, 184, 4, 38, 87, 177]
abbrev dktJ0_checkBoundsBeginEnd_0 : List UInt8 := dkwJ0_checkBoundsBeginEnd_0 ++ []
theorem dksJ0_checkBoundsBeginEnd_0 : cJ0_checkBoundsBeginEnd.data.toList.drop 0 = dktJ0_checkBoundsBeginEnd_0 := by decide +kernel
theorem dJ0_checkBoundsBeginEnd_0 : decode cJ0_checkBoundsBeginEnd 0 = .ok (.iload_n 0, 1) := dk_26 (dk_at dksJ0_checkBoundsBeginEnd_0 0 rfl rfl)
theorem dJ0_checkBoundsBeginEnd_1 : decode cJ0_checkBoundsBeginEnd 1 = .ok (.iload_n 1, 1) := dk_27 (dk_at dksJ0_checkBoundsBeginEnd_0 1 rfl rfl)
theorem dJ0_checkBoundsBeginEnd_2 : decode cJ0_checkBoundsBeginEnd 2 = .ok (.iload_n 2, 1) := dk_28 (dk_at dksJ0_checkBoundsBeginEnd_0 2 rfl rfl)
theorem dJ0_checkBoundsBeginEnd_3 : decode cJ0_checkBoundsBeginEnd 3 = .ok (.getstatic 1053, 3) := dk_178 4 29 (dk_at dksJ0_checkBoundsBeginEnd_0 3 rfl rfl)
theorem dJ0_checkBoundsBeginEnd_6 : decode cJ0_checkBoundsBeginEnd 6 = .ok (.invokestatic 1062, 3) := dk_184 4 38 (dk_at dksJ0_checkBoundsBeginEnd_0 6 rfl rfl)
theorem dJ0_checkBoundsBeginEnd_9 : decode cJ0_checkBoundsBeginEnd 9 = .ok (.pop, 1) := dk_87 (dk_at dksJ0_checkBoundsBeginEnd_0 9 rfl rfl)
theorem dJ0_checkBoundsBeginEnd_10 : decode cJ0_checkBoundsBeginEnd 10 = .ok (.return_, 1) := dk_177 (dk_at dksJ0_checkBoundsBeginEnd_0 10 rfl rfl)
abbrev cJ0_getBytes : ByteArray := prog_12_method_147_code
def yJ0_getBytes : MethodName := ⟨RJ0, "getBytes", "([BIB)V"⟩
def dkwJ0_getBytes_1 : List UInt8 := [184, 0, 212, 167, 0, 18, 42, 180, 0, 9, 3, 43, 28, 42, 180, 0, 9, 190, 184, 0, 106, 177]
abbrev dktJ0_getBytes_1 : List UInt8 := dkwJ0_getBytes_1 ++ []
def dkwJ0_getBytes_0 : List UInt8 := [42, 182, 1, 79, 29, 160, 0, 23, 42, 180, 0, 9, 3, 43, 28, 29, 120, 42, 180, 0, 9, 190]
abbrev dktJ0_getBytes_0 : List UInt8 := dkwJ0_getBytes_0 ++ dktJ0_getBytes_1
theorem dksJ0_getBytes_0 : cJ0_getBytes.data.toList.drop 0 = dktJ0_getBytes_0 := by decide +kernel
theorem dksJ0_getBytes_1 : cJ0_getBytes.data.toList.drop 22 = dktJ0_getBytes_1 := dk_seg dksJ0_getBytes_0 22 rfl rfl
theorem dJ0_getBytes_0 : decode cJ0_getBytes 0 = .ok (.aload_n 0, 1) := dk_42 (dk_at dksJ0_getBytes_0 0 rfl rfl)
theorem dJ0_getBytes_1 : decode cJ0_getBytes 1 = .ok (.invokevirtual 335, 3) := dk_182 1 79 (dk_at dksJ0_getBytes_0 1 rfl rfl)
theorem dJ0_getBytes_4 : decode cJ0_getBytes 4 = .ok (.iload_n 3, 1) := dk_29 (dk_at dksJ0_getBytes_0 4 rfl rfl)
theorem dJ0_getBytes_5 : decode cJ0_getBytes 5 = .ok (.if_icmp .ne 23, 3) := dk_160 0 23 (dk_at dksJ0_getBytes_0 5 rfl rfl)
theorem dJ0_getBytes_8 : decode cJ0_getBytes 8 = .ok (.aload_n 0, 1) := dk_42 (dk_at dksJ0_getBytes_0 8 rfl rfl)
theorem dJ0_getBytes_9 : decode cJ0_getBytes 9 = .ok (.getfield 9, 3) := dk_180 0 9 (dk_at dksJ0_getBytes_0 9 rfl rfl)
theorem dJ0_getBytes_12 : decode cJ0_getBytes 12 = .ok (.iconst 0, 1) := dk_3 (dk_at dksJ0_getBytes_0 12 rfl rfl)
theorem dJ0_getBytes_13 : decode cJ0_getBytes 13 = .ok (.aload_n 1, 1) := dk_43 (dk_at dksJ0_getBytes_0 13 rfl rfl)
theorem dJ0_getBytes_14 : decode cJ0_getBytes 14 = .ok (.iload_n 2, 1) := dk_28 (dk_at dksJ0_getBytes_0 14 rfl rfl)
theorem dJ0_getBytes_15 : decode cJ0_getBytes 15 = .ok (.iload_n 3, 1) := dk_29 (dk_at dksJ0_getBytes_0 15 rfl rfl)
theorem dJ0_getBytes_16 : decode cJ0_getBytes 16 = .ok (.ishl, 1) := dk_120 (dk_at dksJ0_getBytes_0 16 rfl rfl)
theorem dJ0_getBytes_17 : decode cJ0_getBytes 17 = .ok (.aload_n 0, 1) := dk_42 (dk_at dksJ0_getBytes_0 17 rfl rfl)
theorem dJ0_getBytes_18 : decode cJ0_getBytes 18 = .ok (.getfield 9, 3) := dk_180 0 9 (dk_at dksJ0_getBytes_0 18 rfl rfl)
theorem dJ0_getBytes_21 : decode cJ0_getBytes 21 = .ok (.arraylength, 1) := dk_190 (dk_at dksJ0_getBytes_0 21 rfl rfl)
theorem dJ0_getBytes_22 : decode cJ0_getBytes 22 = .ok (.invokestatic 212, 3) := dk_184 0 212 (dk_at dksJ0_getBytes_1 0 rfl rfl)
theorem dJ0_getBytes_25 : decode cJ0_getBytes 25 = .ok (.goto 18, 3) := dk_167 0 18 (dk_at dksJ0_getBytes_1 3 rfl rfl)
theorem dJ0_getBytes_28 : decode cJ0_getBytes 28 = .ok (.aload_n 0, 1) := dk_42 (dk_at dksJ0_getBytes_1 6 rfl rfl)
theorem dJ0_getBytes_29 : decode cJ0_getBytes 29 = .ok (.getfield 9, 3) := dk_180 0 9 (dk_at dksJ0_getBytes_1 7 rfl rfl)
theorem dJ0_getBytes_32 : decode cJ0_getBytes 32 = .ok (.iconst 0, 1) := dk_3 (dk_at dksJ0_getBytes_1 10 rfl rfl)
theorem dJ0_getBytes_33 : decode cJ0_getBytes 33 = .ok (.aload_n 1, 1) := dk_43 (dk_at dksJ0_getBytes_1 11 rfl rfl)
theorem dJ0_getBytes_34 : decode cJ0_getBytes 34 = .ok (.iload_n 2, 1) := dk_28 (dk_at dksJ0_getBytes_1 12 rfl rfl)
theorem dJ0_getBytes_35 : decode cJ0_getBytes 35 = .ok (.aload_n 0, 1) := dk_42 (dk_at dksJ0_getBytes_1 13 rfl rfl)
theorem dJ0_getBytes_36 : decode cJ0_getBytes 36 = .ok (.getfield 9, 3) := dk_180 0 9 (dk_at dksJ0_getBytes_1 14 rfl rfl)
theorem dJ0_getBytes_39 : decode cJ0_getBytes 39 = .ok (.arraylength, 1) := dk_190 (dk_at dksJ0_getBytes_1 17 rfl rfl)
theorem dJ0_getBytes_40 : decode cJ0_getBytes 40 = .ok (.invokestatic 106, 3) := dk_184 0 106 (dk_at dksJ0_getBytes_1 18 rfl rfl)
theorem dJ0_getBytes_43 : decode cJ0_getBytes 43 = .ok (.return_, 1) := dk_177 (dk_at dksJ0_getBytes_1 21 rfl rfl)
abbrev cJ0_valueOf : ByteArray := prog_12_method_134_code
def yJ0_valueOf : MethodName := ⟨RJ0, "valueOf", "([C)Ljava/lang/String;"⟩
def dkwJ0_valueOf_0 : List UInt8 := [187, 0, 10, 89, 42, 183, 3, 240, 176]
abbrev dktJ0_valueOf_0 : List UInt8 := dkwJ0_valueOf_0 ++ []
theorem dksJ0_valueOf_0 : cJ0_valueOf.data.toList.drop 0 = dktJ0_valueOf_0 := by decide +kernel
theorem dJ0_valueOf_0 : decode cJ0_valueOf 0 = .ok (.new 10, 3) := dk_187 0 10 (dk_at dksJ0_valueOf_0 0 rfl rfl)
theorem dJ0_valueOf_3 : decode cJ0_valueOf 3 = .ok (.dup, 1) := dk_89 (dk_at dksJ0_valueOf_0 3 rfl rfl)
theorem dJ0_valueOf_4 : decode cJ0_valueOf 4 = .ok (.aload_n 0, 1) := dk_42 (dk_at dksJ0_valueOf_0 4 rfl rfl)
theorem dJ0_valueOf_5 : decode cJ0_valueOf 5 = .ok (.invokespecial 1008, 3) := dk_183 3 240 (dk_at dksJ0_valueOf_0 5 rfl rfl)
theorem dJ0_valueOf_8 : decode cJ0_valueOf 8 = .ok (.areturn, 1) := dk_176 (dk_at dksJ0_valueOf_0 8 rfl rfl)
abbrev cJ0_init_3 : ByteArray := prog_12_method_3_code
def yJ0_init_3 : MethodName := ⟨RJ0, "<init>", "([C)V"⟩
def dkwJ0_init_3_0 : List UInt8 := [42, 43, 3, 43, 190, 1, 183, 0, 27, 177]
abbrev dktJ0_init_3_0 : List UInt8 := dkwJ0_init_3_0 ++ []
theorem dksJ0_init_3_0 : cJ0_init_3.data.toList.drop 0 = dktJ0_init_3_0 := by decide +kernel
theorem dJ0_init_3_0 : decode cJ0_init_3 0 = .ok (.aload_n 0, 1) := dk_42 (dk_at dksJ0_init_3_0 0 rfl rfl)
theorem dJ0_init_3_1 : decode cJ0_init_3 1 = .ok (.aload_n 1, 1) := dk_43 (dk_at dksJ0_init_3_0 1 rfl rfl)
theorem dJ0_init_3_2 : decode cJ0_init_3 2 = .ok (.iconst 0, 1) := dk_3 (dk_at dksJ0_init_3_0 2 rfl rfl)
theorem dJ0_init_3_3 : decode cJ0_init_3 3 = .ok (.aload_n 1, 1) := dk_43 (dk_at dksJ0_init_3_0 3 rfl rfl)
theorem dJ0_init_3_4 : decode cJ0_init_3 4 = .ok (.arraylength, 1) := dk_190 (dk_at dksJ0_init_3_0 4 rfl rfl)
theorem dJ0_init_3_5 : decode cJ0_init_3 5 = .ok (.aconst_null, 1) := dk_1 (dk_at dksJ0_init_3_0 5 rfl rfl)
theorem dJ0_init_3_6 : decode cJ0_init_3 6 = .ok (.invokespecial 27, 3) := dk_183 0 27 (dk_at dksJ0_init_3_0 6 rfl rfl)
theorem dJ0_init_3_9 : decode cJ0_init_3 9 = .ok (.return_, 1) := dk_177 (dk_at dksJ0_init_3_0 9 rfl rfl)
abbrev cJ0_init_4 : ByteArray := prog_12_method_53_code
def yJ0_init_4 : MethodName := ⟨RJ0, "<init>", "(Ljava/lang/StringBuilder;)V"⟩
def dkwJ0_init_4_0 : List UInt8 := [42, 43, 1, 183, 1, 233, 177]
abbrev dktJ0_init_4_0 : List UInt8 := dkwJ0_init_4_0 ++ []
theorem dksJ0_init_4_0 : cJ0_init_4.data.toList.drop 0 = dktJ0_init_4_0 := by decide +kernel
theorem dJ0_init_4_0 : decode cJ0_init_4 0 = .ok (.aload_n 0, 1) := dk_42 (dk_at dksJ0_init_4_0 0 rfl rfl)
theorem dJ0_init_4_1 : decode cJ0_init_4 1 = .ok (.aload_n 1, 1) := dk_43 (dk_at dksJ0_init_4_0 1 rfl rfl)
theorem dJ0_init_4_2 : decode cJ0_init_4 2 = .ok (.aconst_null, 1) := dk_1 (dk_at dksJ0_init_4_0 2 rfl rfl)
theorem dJ0_init_4_3 : decode cJ0_init_4 3 = .ok (.invokespecial 489, 3) := dk_183 1 233 (dk_at dksJ0_init_4_0 3 rfl rfl)
theorem dJ0_init_4_6 : decode cJ0_init_4 6 = .ok (.return_, 1) := dk_177 (dk_at dksJ0_init_4_0 6 rfl rfl)
abbrev cJ0_init_5 : ByteArray := prog_12_method_150_code
def yJ0_init_5 : MethodName := ⟨RJ0, "<init>", "(Ljava/lang/AbstractStringBuilder;Ljava/lang/Void;)V"⟩
def dkwJ0_init_5_4 : List UInt8 := [181, 0, 9, 177]
abbrev dktJ0_init_5_4 : List UInt8 := dkwJ0_init_5_4 ++ []
def dkwJ0_init_5_3 : List UInt8 := [184, 0, 47, 181, 0, 15, 177, 42, 4, 181, 0, 15, 42, 45, 3, 21, 4, 4, 120, 184, 0, 54]
abbrev dktJ0_init_5_3 : List UInt8 := dkwJ0_init_5_3 ++ dktJ0_init_5_4
def dkwJ0_init_5_2 : List UInt8 := [180, 4, 24, 153, 0, 28, 42, 45, 3, 21, 4, 184, 4, 27, 181, 0, 9, 42, 42, 180, 0, 9, 21, 4]
abbrev dktJ0_init_5_2 : List UInt8 := dkwJ0_init_5_2 ++ dktJ0_init_5_3
def dkwJ0_init_5_1 : List UInt8 := [181, 0, 15, 42, 45, 3, 21, 4, 184, 0, 54, 181, 0, 9, 167, 0, 59, 178, 0, 38, 153, 0, 35, 43]
abbrev dktJ0_init_5_1 : List UInt8 := dkwJ0_init_5_1 ++ dktJ0_init_5_2
def dkwJ0_init_5_0 : List UInt8 := [42, 183, 0, 1, 43, 182, 2, 40, 78, 43, 182, 2, 37, 54, 4, 43, 182, 4, 23, 153, 0, 22, 42, 3]
abbrev dktJ0_init_5_0 : List UInt8 := dkwJ0_init_5_0 ++ dktJ0_init_5_1
theorem dksJ0_init_5_0 : cJ0_init_5.data.toList.drop 0 = dktJ0_init_5_0 := by decide +kernel
theorem dksJ0_init_5_1 : cJ0_init_5.data.toList.drop 24 = dktJ0_init_5_1 := dk_seg dksJ0_init_5_0 24 rfl rfl
theorem dksJ0_init_5_2 : cJ0_init_5.data.toList.drop 48 = dktJ0_init_5_2 := dk_seg dksJ0_init_5_1 24 rfl rfl
theorem dksJ0_init_5_3 : cJ0_init_5.data.toList.drop 72 = dktJ0_init_5_3 := dk_seg dksJ0_init_5_2 24 rfl rfl
theorem dksJ0_init_5_4 : cJ0_init_5.data.toList.drop 94 = dktJ0_init_5_4 := dk_seg dksJ0_init_5_3 22 rfl rfl
theorem dJ0_init_5_0 : decode cJ0_init_5 0 = .ok (.aload_n 0, 1) := dk_42 (dk_at dksJ0_init_5_0 0 rfl rfl)
theorem dJ0_init_5_1 : decode cJ0_init_5 1 = .ok (.invokespecial 1, 3) := dk_183 0 1 (dk_at dksJ0_init_5_0 1 rfl rfl)
theorem dJ0_init_5_4 : decode cJ0_init_5 4 = .ok (.aload_n 1, 1) := dk_43 (dk_at dksJ0_init_5_0 4 rfl rfl)
theorem dJ0_init_5_5 : decode cJ0_init_5 5 = .ok (.invokevirtual 552, 3) := dk_182 2 40 (dk_at dksJ0_init_5_0 5 rfl rfl)
theorem dJ0_init_5_8 : decode cJ0_init_5 8 = .ok (.astore_n 3, 1) := dk_78 (dk_at dksJ0_init_5_0 8 rfl rfl)
theorem dJ0_init_5_9 : decode cJ0_init_5 9 = .ok (.aload_n 1, 1) := dk_43 (dk_at dksJ0_init_5_0 9 rfl rfl)
theorem dJ0_init_5_10 : decode cJ0_init_5 10 = .ok (.invokevirtual 549, 3) := dk_182 2 37 (dk_at dksJ0_init_5_0 10 rfl rfl)
theorem dJ0_init_5_13 : decode cJ0_init_5 13 = .ok (.istore 4, 2) := dk_54 4 (dk_at dksJ0_init_5_0 13 rfl rfl)
theorem dJ0_init_5_15 : decode cJ0_init_5 15 = .ok (.aload_n 1, 1) := dk_43 (dk_at dksJ0_init_5_0 15 rfl rfl)
theorem dJ0_init_5_16 : decode cJ0_init_5 16 = .ok (.invokevirtual 1047, 3) := dk_182 4 23 (dk_at dksJ0_init_5_0 16 rfl rfl)
theorem dJ0_init_5_19 : decode cJ0_init_5 19 = .ok (.ifCond .eq 22, 3) := dk_153 0 22 (dk_at dksJ0_init_5_0 19 rfl rfl)
theorem dJ0_init_5_22 : decode cJ0_init_5 22 = .ok (.aload_n 0, 1) := dk_42 (dk_at dksJ0_init_5_0 22 rfl rfl)
theorem dJ0_init_5_23 : decode cJ0_init_5 23 = .ok (.iconst 0, 1) := dk_3 (dk_at dksJ0_init_5_0 23 rfl rfl)
theorem dJ0_init_5_24 : decode cJ0_init_5 24 = .ok (.putfield 15, 3) := dk_181 0 15 (dk_at dksJ0_init_5_1 0 rfl rfl)
theorem dJ0_init_5_27 : decode cJ0_init_5 27 = .ok (.aload_n 0, 1) := dk_42 (dk_at dksJ0_init_5_1 3 rfl rfl)
theorem dJ0_init_5_28 : decode cJ0_init_5 28 = .ok (.aload_n 3, 1) := dk_45 (dk_at dksJ0_init_5_1 4 rfl rfl)
theorem dJ0_init_5_29 : decode cJ0_init_5 29 = .ok (.iconst 0, 1) := dk_3 (dk_at dksJ0_init_5_1 5 rfl rfl)
theorem dJ0_init_5_30 : decode cJ0_init_5 30 = .ok (.iload 4, 2) := dk_21 4 (dk_at dksJ0_init_5_1 6 rfl rfl)
theorem dJ0_init_5_32 : decode cJ0_init_5 32 = .ok (.invokestatic 54, 3) := dk_184 0 54 (dk_at dksJ0_init_5_1 8 rfl rfl)
theorem dJ0_init_5_35 : decode cJ0_init_5 35 = .ok (.putfield 9, 3) := dk_181 0 9 (dk_at dksJ0_init_5_1 11 rfl rfl)
theorem dJ0_init_5_38 : decode cJ0_init_5 38 = .ok (.goto 59, 3) := dk_167 0 59 (dk_at dksJ0_init_5_1 14 rfl rfl)
theorem dJ0_init_5_41 : decode cJ0_init_5 41 = .ok (.getstatic 38, 3) := dk_178 0 38 (dk_at dksJ0_init_5_1 17 rfl rfl)
theorem dJ0_init_5_44 : decode cJ0_init_5 44 = .ok (.ifCond .eq 35, 3) := dk_153 0 35 (dk_at dksJ0_init_5_1 20 rfl rfl)
theorem dJ0_init_5_47 : decode cJ0_init_5 47 = .ok (.aload_n 1, 1) := dk_43 (dk_at dksJ0_init_5_1 23 rfl rfl)
theorem dJ0_init_5_48 : decode cJ0_init_5 48 = .ok (.getfield 1048, 3) := dk_180 4 24 (dk_at dksJ0_init_5_2 0 rfl rfl)
theorem dJ0_init_5_51 : decode cJ0_init_5 51 = .ok (.ifCond .eq 28, 3) := dk_153 0 28 (dk_at dksJ0_init_5_2 3 rfl rfl)
theorem dJ0_init_5_54 : decode cJ0_init_5 54 = .ok (.aload_n 0, 1) := dk_42 (dk_at dksJ0_init_5_2 6 rfl rfl)
theorem dJ0_init_5_55 : decode cJ0_init_5 55 = .ok (.aload_n 3, 1) := dk_45 (dk_at dksJ0_init_5_2 7 rfl rfl)
theorem dJ0_init_5_56 : decode cJ0_init_5 56 = .ok (.iconst 0, 1) := dk_3 (dk_at dksJ0_init_5_2 8 rfl rfl)
theorem dJ0_init_5_57 : decode cJ0_init_5 57 = .ok (.iload 4, 2) := dk_21 4 (dk_at dksJ0_init_5_2 9 rfl rfl)
theorem dJ0_init_5_59 : decode cJ0_init_5 59 = .ok (.invokestatic 1051, 3) := dk_184 4 27 (dk_at dksJ0_init_5_2 11 rfl rfl)
theorem dJ0_init_5_62 : decode cJ0_init_5 62 = .ok (.putfield 9, 3) := dk_181 0 9 (dk_at dksJ0_init_5_2 14 rfl rfl)
theorem dJ0_init_5_65 : decode cJ0_init_5 65 = .ok (.aload_n 0, 1) := dk_42 (dk_at dksJ0_init_5_2 17 rfl rfl)
theorem dJ0_init_5_66 : decode cJ0_init_5 66 = .ok (.aload_n 0, 1) := dk_42 (dk_at dksJ0_init_5_2 18 rfl rfl)
theorem dJ0_init_5_67 : decode cJ0_init_5 67 = .ok (.getfield 9, 3) := dk_180 0 9 (dk_at dksJ0_init_5_2 19 rfl rfl)
theorem dJ0_init_5_70 : decode cJ0_init_5 70 = .ok (.iload 4, 2) := dk_21 4 (dk_at dksJ0_init_5_2 22 rfl rfl)
theorem dJ0_init_5_72 : decode cJ0_init_5 72 = .ok (.invokestatic 47, 3) := dk_184 0 47 (dk_at dksJ0_init_5_3 0 rfl rfl)
theorem dJ0_init_5_75 : decode cJ0_init_5 75 = .ok (.putfield 15, 3) := dk_181 0 15 (dk_at dksJ0_init_5_3 3 rfl rfl)
theorem dJ0_init_5_78 : decode cJ0_init_5 78 = .ok (.return_, 1) := dk_177 (dk_at dksJ0_init_5_3 6 rfl rfl)
theorem dJ0_init_5_79 : decode cJ0_init_5 79 = .ok (.aload_n 0, 1) := dk_42 (dk_at dksJ0_init_5_3 7 rfl rfl)
theorem dJ0_init_5_80 : decode cJ0_init_5 80 = .ok (.iconst 1, 1) := dk_4 (dk_at dksJ0_init_5_3 8 rfl rfl)
theorem dJ0_init_5_81 : decode cJ0_init_5 81 = .ok (.putfield 15, 3) := dk_181 0 15 (dk_at dksJ0_init_5_3 9 rfl rfl)
theorem dJ0_init_5_84 : decode cJ0_init_5 84 = .ok (.aload_n 0, 1) := dk_42 (dk_at dksJ0_init_5_3 12 rfl rfl)
theorem dJ0_init_5_85 : decode cJ0_init_5 85 = .ok (.aload_n 3, 1) := dk_45 (dk_at dksJ0_init_5_3 13 rfl rfl)
theorem dJ0_init_5_86 : decode cJ0_init_5 86 = .ok (.iconst 0, 1) := dk_3 (dk_at dksJ0_init_5_3 14 rfl rfl)
theorem dJ0_init_5_87 : decode cJ0_init_5 87 = .ok (.iload 4, 2) := dk_21 4 (dk_at dksJ0_init_5_3 15 rfl rfl)
theorem dJ0_init_5_89 : decode cJ0_init_5 89 = .ok (.iconst 1, 1) := dk_4 (dk_at dksJ0_init_5_3 17 rfl rfl)
theorem dJ0_init_5_90 : decode cJ0_init_5 90 = .ok (.ishl, 1) := dk_120 (dk_at dksJ0_init_5_3 18 rfl rfl)
theorem dJ0_init_5_91 : decode cJ0_init_5 91 = .ok (.invokestatic 54, 3) := dk_184 0 54 (dk_at dksJ0_init_5_3 19 rfl rfl)
theorem dJ0_init_5_94 : decode cJ0_init_5 94 = .ok (.putfield 9, 3) := dk_181 0 9 (dk_at dksJ0_init_5_4 0 rfl rfl)
theorem dJ0_init_5_97 : decode cJ0_init_5 97 = .ok (.return_, 1) := dk_177 (dk_at dksJ0_init_5_4 3 rfl rfl)
theorem q3 : (Jvm.Cond.initialized "java/lang/String") ∈ lw_all := lw_g (lw_at lw_m1 2 rfl) rfl
theorem q51 : (Jvm.Cond.instanceMethod ({ cls := "java/lang/String", name := "length", desc := "()I" } : Jvm.MethodName)) ∈ lw_all := lw_g (lw_at lw_m1 50 rfl) rfl
theorem q52 : (Jvm.Cond.selects "java/lang/String" ({ cls := "java/lang/String", name := "length", desc := "()I" } : Jvm.MethodName) ({ cls := "java/lang/String", name := "length", desc := "()I" } : Jvm.MethodName)) ∈ lw_all := lw_g (lw_at lw_m1 51 rfl) rfl
theorem q53 : (Jvm.Cond.code ({ cls := "java/lang/String", name := "length", desc := "()I" } : Jvm.MethodName) prog_12_method_54_code (1 : Nat) (Option.some Jvm.ClassFile.FieldType.int)) ∈ lw_all := lw_g (lw_at lw_m1 52 rfl) rfl
theorem q54 : (Jvm.Cond.methodLink "java/lang/String" (335 : Nat) ({ cls := "java/lang/String", name := "coder", desc := "()B" } : Jvm.MethodName)) ∈ lw_all := lw_g (lw_at lw_m1 53 rfl) rfl
theorem q55 : (Jvm.Cond.instanceMethod ({ cls := "java/lang/String", name := "coder", desc := "()B" } : Jvm.MethodName)) ∈ lw_all := lw_g (lw_at lw_m1 54 rfl) rfl
theorem q56 : (Jvm.Cond.selects "java/lang/String" ({ cls := "java/lang/String", name := "coder", desc := "()B" } : Jvm.MethodName) ({ cls := "java/lang/String", name := "coder", desc := "()B" } : Jvm.MethodName)) ∈ lw_all := lw_g (lw_at lw_m1 55 rfl) rfl
theorem q57 : (Jvm.Cond.code ({ cls := "java/lang/String", name := "coder", desc := "()B" } : Jvm.MethodName) prog_12_method_152_code (1 : Nat) (Option.some Jvm.ClassFile.FieldType.byte)) ∈ lw_all := lw_g (lw_at lw_m1 56 rfl) rfl
theorem q58 : (Jvm.Cond.fieldLink "java/lang/String" (38 : Nat) "java/lang/String" "COMPACT_STRINGS" "Z") ∈ lw_all := lw_g (lw_at lw_m1 57 rfl) rfl
theorem q59 : (Jvm.Cond.laysStatic "java/lang/String" "COMPACT_STRINGS" "Z") ∈ lw_tbl := lw_at lw_m1 58 rfl
theorem q61 : (Jvm.Cond.instanceMethod ({ cls := "java/lang/String", name := "charAt", desc := "(I)C" } : Jvm.MethodName)) ∈ lw_all := lw_g (lw_at lw_m1 60 rfl) rfl
theorem q62 : (Jvm.Cond.selects "java/lang/String" ({ cls := "java/lang/String", name := "charAt", desc := "(I)C" } : Jvm.MethodName) ({ cls := "java/lang/String", name := "charAt", desc := "(I)C" } : Jvm.MethodName)) ∈ lw_all := lw_g (lw_at lw_m1 61 rfl) rfl
theorem q63 : (Jvm.Cond.code ({ cls := "java/lang/String", name := "charAt", desc := "(I)C" } : Jvm.MethodName) prog_12_method_56_code (2 : Nat) (Option.some Jvm.ClassFile.FieldType.char)) ∈ lw_all := lw_g (lw_at lw_m1 62 rfl) rfl
theorem q64 : (Jvm.Cond.methodLink "java/lang/String" (492 : Nat) ({ cls := "java/lang/String", name := "isLatin1", desc := "()Z" } : Jvm.MethodName)) ∈ lw_all := lw_g (lw_at lw_m1 63 rfl) rfl
theorem q65 : (Jvm.Cond.instanceMethod ({ cls := "java/lang/String", name := "isLatin1", desc := "()Z" } : Jvm.MethodName)) ∈ lw_all := lw_g (lw_at lw_m1 64 rfl) rfl
theorem q66 : (Jvm.Cond.selects "java/lang/String" ({ cls := "java/lang/String", name := "isLatin1", desc := "()Z" } : Jvm.MethodName) ({ cls := "java/lang/String", name := "isLatin1", desc := "()Z" } : Jvm.MethodName)) ∈ lw_all := lw_g (lw_at lw_m1 65 rfl) rfl
theorem q67 : (Jvm.Cond.code ({ cls := "java/lang/String", name := "isLatin1", desc := "()Z" } : Jvm.MethodName) prog_12_method_154_code (1 : Nat) (Option.some Jvm.ClassFile.FieldType.boolean)) ∈ lw_all := lw_g (lw_at lw_m1 66 rfl) rfl
theorem q68 : (Jvm.Cond.methodLink "java/lang/String" (495 : Nat) ({ cls := "java/lang/StringLatin1", name := "charAt", desc := "([BI)C" } : Jvm.MethodName)) ∈ lw_all := lw_g (lw_at lw_m1 67 rfl) rfl
theorem q72 : (Jvm.Cond.static ({ cls := "java/lang/String", name := "checkIndex", desc := "(II)V" } : Jvm.MethodName)) ∈ lw_all := lw_g (lw_at lw_m1 71 rfl) rfl
theorem q73 : (Jvm.Cond.code ({ cls := "java/lang/String", name := "checkIndex", desc := "(II)V" } : Jvm.MethodName) prog_12_method_155_code (2 : Nat) (Option.none : Option Jvm.ClassFile.FieldType)) ∈ lw_all := lw_g (lw_at lw_m1 72 rfl) rfl
theorem q74 : (Jvm.Cond.fieldLink "java/lang/String" (1053 : Nat) "jdk/internal/util/Preconditions" "SIOOBE_FORMATTER" "Ljava/util/function/BiFunction;") ∈ lw_all := lw_g (lw_at lw_m1 73 rfl) rfl
theorem q76 : (Jvm.Cond.methodLink "java/lang/String" (1059 : Nat) ({ cls := "jdk/internal/util/Preconditions", name := "checkIndex", desc := "(IILjava/util/function/BiFunction;)I" } : Jvm.MethodName)) ∈ lw_all := lw_g (lw_at lw_m1 75 rfl) rfl
theorem q79 : (Jvm.Cond.methodLink "java/lang/String" (498 : Nat) ({ cls := "java/lang/StringUTF16", name := "charAt", desc := "([BI)C" } : Jvm.MethodName)) ∈ lw_all := lw_g (lw_at lw_m1 78 rfl) rfl
theorem q117 : (Jvm.Cond.instantiable "java/lang/String" (4 : Nat)) ∈ lw_all := lw_g (lw_at lw_m1 116 rfl) rfl
theorem q121 : (Jvm.Cond.instanceMethod ({ cls := "java/lang/String", name := "<init>", desc := "([CII)V" } : Jvm.MethodName)) ∈ lw_all := lw_g (lw_at lw_m1 120 rfl) rfl
theorem q122 : (Jvm.Cond.code ({ cls := "java/lang/String", name := "<init>", desc := "([CII)V" } : Jvm.MethodName) prog_12_method_4_code (4 : Nat) (Option.none : Option Jvm.ClassFile.FieldType)) ∈ lw_all := lw_g (lw_at lw_m1 121 rfl) rfl
theorem q123 : (Jvm.Cond.methodLink "java/lang/String" (30 : Nat) ({ cls := "java/lang/String", name := "rangeCheck", desc := "([CII)Ljava/lang/Void;" } : Jvm.MethodName)) ∈ lw_all := lw_g (lw_at lw_m1 122 rfl) rfl
theorem q124 : (Jvm.Cond.static ({ cls := "java/lang/String", name := "rangeCheck", desc := "([CII)Ljava/lang/Void;" } : Jvm.MethodName)) ∈ lw_all := lw_g (lw_at lw_m1 123 rfl) rfl
theorem q125 : (Jvm.Cond.code ({ cls := "java/lang/String", name := "rangeCheck", desc := "([CII)Ljava/lang/Void;" } : Jvm.MethodName) prog_12_method_5_code (3 : Nat) (Option.some (Jvm.ClassFile.FieldType.object "java/lang/Void"))) ∈ lw_all := lw_g (lw_at lw_m1 124 rfl) rfl
theorem q126 : (Jvm.Cond.methodLink "java/lang/String" (34 : Nat) ({ cls := "java/lang/String", name := "checkBoundsOffCount", desc := "(III)I" } : Jvm.MethodName)) ∈ lw_all := lw_g (lw_at lw_m1 125 rfl) rfl
theorem q127 : (Jvm.Cond.static ({ cls := "java/lang/String", name := "checkBoundsOffCount", desc := "(III)I" } : Jvm.MethodName)) ∈ lw_all := lw_g (lw_at lw_m1 126 rfl) rfl
theorem q128 : (Jvm.Cond.code ({ cls := "java/lang/String", name := "checkBoundsOffCount", desc := "(III)I" } : Jvm.MethodName) prog_12_method_157_code (3 : Nat) (Option.some Jvm.ClassFile.FieldType.int)) ∈ lw_all := lw_g (lw_at lw_m1 127 rfl) rfl
theorem q129 : (Jvm.Cond.methodLink "java/lang/String" (1065 : Nat) ({ cls := "jdk/internal/util/Preconditions", name := "checkFromIndexSize", desc := "(IIILjava/util/function/BiFunction;)I" } : Jvm.MethodName)) ∈ lw_all := lw_g (lw_at lw_m1 128 rfl) rfl
theorem q132 : (Jvm.Cond.methodLink "java/lang/String" (27 : Nat) ({ cls := "java/lang/String", name := "<init>", desc := "([CIILjava/lang/Void;)V" } : Jvm.MethodName)) ∈ lw_all := lw_g (lw_at lw_m1 131 rfl) rfl
theorem q133 : (Jvm.Cond.instanceMethod ({ cls := "java/lang/String", name := "<init>", desc := "([CIILjava/lang/Void;)V" } : Jvm.MethodName)) ∈ lw_all := lw_g (lw_at lw_m1 132 rfl) rfl
theorem q134 : (Jvm.Cond.code ({ cls := "java/lang/String", name := "<init>", desc := "([CIILjava/lang/Void;)V" } : Jvm.MethodName) prog_12_method_149_code (6 : Nat) (Option.none : Option Jvm.ClassFile.FieldType)) ∈ lw_all := lw_g (lw_at lw_m1 133 rfl) rfl
theorem q135 : (Jvm.Cond.methodLink "java/lang/String" (1 : Nat) ({ cls := "java/lang/Object", name := "<init>", desc := "()V" } : Jvm.MethodName)) ∈ lw_all := lw_g (lw_at lw_m1 134 rfl) rfl
theorem q136 : (Jvm.Cond.stringRef "java/lang/String" (7 : Nat) "") ∈ lw_tbl := lw_at lw_m1 135 rfl
theorem q137 : (Jvm.Cond.methodLink "java/lang/String" (177 : Nat) ({ cls := "java/lang/StringUTF16", name := "compress", desc := "([CII)[B" } : Jvm.MethodName)) ∈ lw_all := lw_g (lw_at lw_m1 136 rfl) rfl
theorem q163 : (Jvm.Cond.methodLink "java/lang/String" (47 : Nat) ({ cls := "java/lang/StringUTF16", name := "coderFromArrayLen", desc := "([BI)B" } : Jvm.MethodName)) ∈ lw_all := lw_g (lw_at lw_m1 162 rfl) rfl
theorem q166 : (Jvm.Cond.methodLink "java/lang/String" (180 : Nat) ({ cls := "java/lang/StringUTF16", name := "toBytes", desc := "([CII)[B" } : Jvm.MethodName)) ∈ lw_all := lw_g (lw_at lw_m1 165 rfl) rfl
theorem q167 : (Jvm.Cond.fieldLink "java/lang/String" (9 : Nat) "java/lang/String" "value" "[B") ∈ lw_all := lw_g (lw_at lw_m1 166 rfl) rfl
theorem q168 : (Jvm.Cond.fieldLink "java/lang/String" (15 : Nat) "java/lang/String" "coder" "B") ∈ lw_all := lw_g (lw_at lw_m1 167 rfl) rfl
theorem q169 : (Jvm.Cond.laysFinal "java/lang/String" "java/lang/String" "value" "[B") ∈ lw_all := lw_g (lw_at lw_m1 168 rfl) rfl
theorem q170 : (Jvm.Cond.soleField "java/lang/String" "value") ∈ lw_all := lw_g (lw_at lw_m1 169 rfl) rfl
theorem q171 : (Jvm.Cond.laysFinal "java/lang/String" "java/lang/String" "coder" "B") ∈ lw_all := lw_g (lw_at lw_m1 170 rfl) rfl
theorem q172 : (Jvm.Cond.soleField "java/lang/String" "coder") ∈ lw_all := lw_g (lw_at lw_m1 171 rfl) rfl
theorem q173 : (Jvm.Cond.lays "java/lang/String" "java/lang/String" "hash" "I") ∈ lw_all := lw_g (lw_at lw_m1 172 rfl) rfl
theorem q174 : (Jvm.Cond.soleField "java/lang/String" "hash") ∈ lw_all := lw_g (lw_at lw_m1 173 rfl) rfl
theorem q175 : (Jvm.Cond.lays "java/lang/String" "java/lang/String" "hashIsZero" "Z") ∈ lw_all := lw_g (lw_at lw_m1 174 rfl) rfl
theorem q176 : (Jvm.Cond.soleField "java/lang/String" "hashIsZero") ∈ lw_all := lw_g (lw_at lw_m1 175 rfl) rfl
theorem q177 : (Jvm.Cond.superclass "java/lang/String" "java/lang/Object") ∈ lw_all := lw_g (lw_at lw_m1 176 rfl) rfl
theorem q305 : (Jvm.Cond.fieldLink "java/lang/String" (1048 : Nat) "java/lang/AbstractStringBuilder" "maybeLatin1" "Z") ∈ lw_all := lw_g (lw_at lw_m2 64 rfl) rfl
theorem q374 : (Jvm.Cond.static ({ cls := "java/lang/String", name := "checkBoundsBeginEnd", desc := "(III)V" } : Jvm.MethodName)) ∈ lw_all := lw_g (lw_at lw_m2 133 rfl) rfl
theorem q375 : (Jvm.Cond.code ({ cls := "java/lang/String", name := "checkBoundsBeginEnd", desc := "(III)V" } : Jvm.MethodName) prog_12_method_158_code (3 : Nat) (Option.none : Option Jvm.ClassFile.FieldType)) ∈ lw_all := lw_g (lw_at lw_m2 134 rfl) rfl
theorem q376 : (Jvm.Cond.methodLink "java/lang/String" (1062 : Nat) ({ cls := "jdk/internal/util/Preconditions", name := "checkFromToIndex", desc := "(IIILjava/util/function/BiFunction;)I" } : Jvm.MethodName)) ∈ lw_all := lw_g (lw_at lw_m2 135 rfl) rfl
theorem q400 : (Jvm.Cond.instanceMethod ({ cls := "java/lang/String", name := "getBytes", desc := "([BIB)V" } : Jvm.MethodName)) ∈ lw_all := lw_g (lw_at lw_m2 159 rfl) rfl
theorem q401 : (Jvm.Cond.selects "java/lang/String" ({ cls := "java/lang/String", name := "getBytes", desc := "([BIB)V" } : Jvm.MethodName) ({ cls := "java/lang/String", name := "getBytes", desc := "([BIB)V" } : Jvm.MethodName)) ∈ lw_all := lw_g (lw_at lw_m2 160 rfl) rfl
theorem q402 : (Jvm.Cond.code ({ cls := "java/lang/String", name := "getBytes", desc := "([BIB)V" } : Jvm.MethodName) prog_12_method_147_code (4 : Nat) (Option.none : Option Jvm.ClassFile.FieldType)) ∈ lw_all := lw_g (lw_at lw_m2 161 rfl) rfl
theorem q403 : (Jvm.Cond.methodLink "java/lang/String" (212 : Nat) ({ cls := "java/lang/System", name := "arraycopy", desc := "(Ljava/lang/Object;ILjava/lang/Object;II)V" } : Jvm.MethodName)) ∈ lw_all := lw_g (lw_at lw_m2 162 rfl) rfl
theorem q404 : (Jvm.Cond.methodLink "java/lang/String" (106 : Nat) ({ cls := "java/lang/StringLatin1", name := "inflate", desc := "([BI[BII)V" } : Jvm.MethodName)) ∈ lw_all := lw_g (lw_at lw_m2 163 rfl) rfl
theorem q421 : (Jvm.Cond.castable "java/lang/String" "java/lang/CharSequence") ∈ lw_tbl := lw_at lw_m2 180 rfl
theorem q422 : (Jvm.Cond.selects "java/lang/String" ({ cls := "java/lang/CharSequence", name := "length", desc := "()I" } : Jvm.MethodName) ({ cls := "java/lang/String", name := "length", desc := "()I" } : Jvm.MethodName)) ∈ lw_all := lw_g (lw_at lw_m2 181 rfl) rfl
theorem q423 : (Jvm.Cond.unhidden "java/lang/String" "length" "()I") ∈ lw_tbl := lw_at lw_m2 182 rfl
theorem q424 : (Jvm.Cond.publicMethod ({ cls := "java/lang/String", name := "length", desc := "()I" } : Jvm.MethodName)) ∈ lw_tbl := lw_at lw_m2 183 rfl
theorem q438 : (Jvm.Cond.selects "java/lang/String" ({ cls := "java/lang/CharSequence", name := "charAt", desc := "(I)C" } : Jvm.MethodName) ({ cls := "java/lang/String", name := "charAt", desc := "(I)C" } : Jvm.MethodName)) ∈ lw_all := lw_g (lw_at lw_m2 197 rfl) rfl
theorem q439 : (Jvm.Cond.unhidden "java/lang/String" "charAt" "(I)C") ∈ lw_tbl := lw_at lw_m2 198 rfl
theorem q440 : (Jvm.Cond.publicMethod ({ cls := "java/lang/String", name := "charAt", desc := "(I)C" } : Jvm.MethodName)) ∈ lw_tbl := lw_at lw_m2 199 rfl
theorem q457 : (Jvm.Cond.static ({ cls := "java/lang/String", name := "valueOf", desc := "([C)Ljava/lang/String;" } : Jvm.MethodName)) ∈ lw_all := lw_g (lw_at lw_m2 216 rfl) rfl
theorem q458 : (Jvm.Cond.code ({ cls := "java/lang/String", name := "valueOf", desc := "([C)Ljava/lang/String;" } : Jvm.MethodName) prog_12_method_134_code (1 : Nat) (Option.some (Jvm.ClassFile.FieldType.object "java/lang/String"))) ∈ lw_all := lw_g (lw_at lw_m2 217 rfl) rfl
theorem q459 : (Jvm.Cond.classLink "java/lang/String" (10 : Nat) "java/lang/String") ∈ lw_all := lw_g (lw_at lw_m2 218 rfl) rfl
theorem q460 : (Jvm.Cond.methodLink "java/lang/String" (1008 : Nat) ({ cls := "java/lang/String", name := "<init>", desc := "([C)V" } : Jvm.MethodName)) ∈ lw_all := lw_g (lw_at lw_m2 219 rfl) rfl
theorem q461 : (Jvm.Cond.instanceMethod ({ cls := "java/lang/String", name := "<init>", desc := "([C)V" } : Jvm.MethodName)) ∈ lw_all := lw_g (lw_at lw_m2 220 rfl) rfl
theorem q462 : (Jvm.Cond.code ({ cls := "java/lang/String", name := "<init>", desc := "([C)V" } : Jvm.MethodName) prog_12_method_3_code (2 : Nat) (Option.none : Option Jvm.ClassFile.FieldType)) ∈ lw_all := lw_g (lw_at lw_m2 221 rfl) rfl
theorem q518 : (Jvm.Cond.instanceMethod ({ cls := "java/lang/String", name := "<init>", desc := "(Ljava/lang/StringBuilder;)V" } : Jvm.MethodName)) ∈ lw_all := lw_g (lw_at lw_m3 37 rfl) rfl
theorem q519 : (Jvm.Cond.code ({ cls := "java/lang/String", name := "<init>", desc := "(Ljava/lang/StringBuilder;)V" } : Jvm.MethodName) prog_12_method_53_code (2 : Nat) (Option.none : Option Jvm.ClassFile.FieldType)) ∈ lw_all := lw_g (lw_at lw_m3 38 rfl) rfl
theorem q520 : (Jvm.Cond.methodLink "java/lang/String" (489 : Nat) ({ cls := "java/lang/String", name := "<init>", desc := "(Ljava/lang/AbstractStringBuilder;Ljava/lang/Void;)V" } : Jvm.MethodName)) ∈ lw_all := lw_g (lw_at lw_m3 39 rfl) rfl
theorem q521 : (Jvm.Cond.instanceMethod ({ cls := "java/lang/String", name := "<init>", desc := "(Ljava/lang/AbstractStringBuilder;Ljava/lang/Void;)V" } : Jvm.MethodName)) ∈ lw_all := lw_g (lw_at lw_m3 40 rfl) rfl
theorem q522 : (Jvm.Cond.code ({ cls := "java/lang/String", name := "<init>", desc := "(Ljava/lang/AbstractStringBuilder;Ljava/lang/Void;)V" } : Jvm.MethodName) prog_12_method_150_code (5 : Nat) (Option.none : Option Jvm.ClassFile.FieldType)) ∈ lw_all := lw_g (lw_at lw_m3 41 rfl) rfl
theorem q523 : (Jvm.Cond.methodLink "java/lang/String" (552 : Nat) ({ cls := "java/lang/AbstractStringBuilder", name := "getValue", desc := "()[B" } : Jvm.MethodName)) ∈ lw_all := lw_g (lw_at lw_m3 42 rfl) rfl
theorem q528 : (Jvm.Cond.methodLink "java/lang/String" (549 : Nat) ({ cls := "java/lang/AbstractStringBuilder", name := "length", desc := "()I" } : Jvm.MethodName)) ∈ lw_all := lw_g (lw_at lw_m3 47 rfl) rfl
theorem q529 : (Jvm.Cond.methodLink "java/lang/String" (1047 : Nat) ({ cls := "java/lang/AbstractStringBuilder", name := "isLatin1", desc := "()Z" } : Jvm.MethodName)) ∈ lw_all := lw_g (lw_at lw_m3 48 rfl) rfl
theorem q530 : (Jvm.Cond.methodLink "java/lang/String" (54 : Nat) ({ cls := "java/util/Arrays", name := "copyOfRange", desc := "([BII)[B" } : Jvm.MethodName)) ∈ lw_all := lw_g (lw_at lw_m3 49 rfl) rfl
theorem q539 : (Jvm.Cond.methodLink "java/lang/String" (1051 : Nat) ({ cls := "java/lang/StringUTF16", name := "compress", desc := "([BII)[B" } : Jvm.MethodName)) ∈ lw_all := lw_g (lw_at lw_m3 58 rfl) rfl
theorem in_J0 : ∀ w ∈ wsJ00, w ∈ lw_all := lw_in wsJ00 [169, 171, 173, 175] (by decide +kernel) (by decide +kernel)
theorem q350 : (Jvm.Cond.sameMethod "[B" "java/lang/Object" "clone" "()Ljava/lang/Object;") ∈ lw_all := lw_g (lw_at lw_m2 109 rfl) rfl
set_option maxRecDepth 100000
theorem q353 : (Jvm.Cond.selects "[B" ({ cls := "[B", name := "clone", desc := "()Ljava/lang/Object;" } : Jvm.MethodName) ({ cls := "java/lang/Object", name := "clone", desc := "()Ljava/lang/Object;" } : Jvm.MethodName)) ∈ lw_all := lw_g (lw_at lw_m2 112 rfl) rfl
theorem q354 : (Jvm.Cond.castable "[B" "java/lang/Cloneable") ∈ lw_tbl := lw_at lw_m2 113 rfl
theorem q419 : (Jvm.Cond.interfaceMethod "java/lang/CharSequence" "java/lang/CharSequence" "length" "()I") ∈ lw_tbl := lw_at lw_m2 178 rfl
set_option maxRecDepth 100000
theorem q420 : (Jvm.Cond.declares ({ cls := "java/lang/CharSequence", name := "length", desc := "()I" } : Jvm.MethodName)) ∈ lw_tbl := lw_at lw_m2 179 rfl
theorem q436 : (Jvm.Cond.interfaceMethod "java/lang/CharSequence" "java/lang/CharSequence" "charAt" "(I)C") ∈ lw_tbl := lw_at lw_m2 195 rfl
theorem q437 : (Jvm.Cond.declares ({ cls := "java/lang/CharSequence", name := "charAt", desc := "(I)C" } : Jvm.MethodName)) ∈ lw_tbl := lw_at lw_m2 196 rfl
theorem q18 : (Jvm.Cond.initialized "java/lang/System") ∈ lw_all := lw_g (lw_at lw_m1 17 rfl) rfl
set_option maxRecDepth 100000
theorem q360 : (Jvm.Cond.static ({ cls := "java/lang/System", name := "arraycopy", desc := "(Ljava/lang/Object;ILjava/lang/Object;II)V" } : Jvm.MethodName)) ∈ lw_all := lw_g (lw_at lw_m2 119 rfl) rfl
theorem q361 : (Jvm.Cond.native ({ cls := "java/lang/System", name := "arraycopy", desc := "(Ljava/lang/Object;ILjava/lang/Object;II)V" } : Jvm.MethodName)) ∈ lw_all := lw_g (lw_at lw_m2 120 rfl) rfl
end
section
/-! java/lang/AbstractStringBuilder -/
set_option maxRecDepth 100000
def RJ8 : String := "java/lang/AbstractStringBuilder"
abbrev cJ8_init : ByteArray := prog_5_method_2_code
def yJ8_init : MethodName := ⟨RJ8, "<init>", "(I)V"⟩
def dkwJ8_init_1 : List UInt8 := [167, 0, 16, 42, 27, 184, 0, 26, 181, 0, 15, 42, 4, 181, 0, 22, 177]
abbrev dktJ8_init_1 : List UInt8 := dkwJ8_init_1 ++ []
def dkwJ8_init_0 : List UInt8 := [42, 183, 0, 3, 178, 0, 18, 153, 0, 18, 42, 27, 188, 8, 181, 0, 15, 42, 3, 181, 0, 22]
abbrev dktJ8_init_0 : List UInt8 := dkwJ8_init_0 ++ dktJ8_init_1
theorem dksJ8_init_0 : cJ8_init.data.toList.drop 0 = dktJ8_init_0 := by decide +kernel
theorem dksJ8_init_1 : cJ8_init.data.toList.drop 22 = dktJ8_init_1 := dk_seg dksJ8_init_0 22 rfl rfl
theorem dJ8_init_0 : decode cJ8_init 0 = .ok (.aload_n 0, 1) := dk_42 (dk_at dksJ8_init_0 0 rfl rfl)
theorem dJ8_init_1 : decode cJ8_init 1 = .ok (.invokespecial 3, 3) := dk_183 0 3 (dk_at dksJ8_init_0 1 rfl rfl)
theorem dJ8_init_4 : decode cJ8_init 4 = .ok (.getstatic 18, 3) := dk_178 0 18 (dk_at dksJ8_init_0 4 rfl rfl)
theorem dJ8_init_7 : decode cJ8_init 7 = .ok (.ifCond .eq 18, 3) := dk_153 0 18 (dk_at dksJ8_init_0 7 rfl rfl)
theorem dJ8_init_10 : decode cJ8_init 10 = .ok (.aload_n 0, 1) := dk_42 (dk_at dksJ8_init_0 10 rfl rfl)
theorem dJ8_init_11 : decode cJ8_init 11 = .ok (.iload_n 1, 1) := dk_27 (dk_at dksJ8_init_0 11 rfl rfl)
theorem dJ8_init_12 : decode cJ8_init 12 = .ok (.newarray .byte, 2) := dk_188_8 (dk_at dksJ8_init_0 12 rfl rfl)
theorem dJ8_init_14 : decode cJ8_init 14 = .ok (.putfield 15, 3) := dk_181 0 15 (dk_at dksJ8_init_0 14 rfl rfl)
theorem dJ8_init_17 : decode cJ8_init 17 = .ok (.aload_n 0, 1) := dk_42 (dk_at dksJ8_init_0 17 rfl rfl)
theorem dJ8_init_18 : decode cJ8_init 18 = .ok (.iconst 0, 1) := dk_3 (dk_at dksJ8_init_0 18 rfl rfl)
theorem dJ8_init_19 : decode cJ8_init 19 = .ok (.putfield 22, 3) := dk_181 0 22 (dk_at dksJ8_init_0 19 rfl rfl)
theorem dJ8_init_22 : decode cJ8_init 22 = .ok (.goto 16, 3) := dk_167 0 16 (dk_at dksJ8_init_1 0 rfl rfl)
theorem dJ8_init_25 : decode cJ8_init 25 = .ok (.aload_n 0, 1) := dk_42 (dk_at dksJ8_init_1 3 rfl rfl)
theorem dJ8_init_26 : decode cJ8_init 26 = .ok (.iload_n 1, 1) := dk_27 (dk_at dksJ8_init_1 4 rfl rfl)
theorem dJ8_init_27 : decode cJ8_init 27 = .ok (.invokestatic 26, 3) := dk_184 0 26 (dk_at dksJ8_init_1 5 rfl rfl)
theorem dJ8_init_30 : decode cJ8_init 30 = .ok (.putfield 15, 3) := dk_181 0 15 (dk_at dksJ8_init_1 8 rfl rfl)
theorem dJ8_init_33 : decode cJ8_init 33 = .ok (.aload_n 0, 1) := dk_42 (dk_at dksJ8_init_1 11 rfl rfl)
theorem dJ8_init_34 : decode cJ8_init 34 = .ok (.iconst 1, 1) := dk_4 (dk_at dksJ8_init_1 12 rfl rfl)
theorem dJ8_init_35 : decode cJ8_init 35 = .ok (.putfield 22, 3) := dk_181 0 22 (dk_at dksJ8_init_1 13 rfl rfl)
theorem dJ8_init_38 : decode cJ8_init 38 = .ok (.return_, 1) := dk_177 (dk_at dksJ8_init_1 16 rfl rfl)
abbrev cJ8_append : ByteArray := prog_5_method_22_code
def yJ8_append : MethodName := ⟨RJ8, "append", "(Ljava/lang/String;)Ljava/lang/AbstractStringBuilder;"⟩
def dkwJ8_append_1 : List UInt8 := [42, 42, 180, 0, 79, 43, 182, 0, 208, 42, 89, 180, 0, 79, 28, 96, 181, 0, 79, 42, 176]
abbrev dktJ8_append_1 : List UInt8 := dkwJ8_append_1 ++ []
def dkwJ8_append_0 : List UInt8 := [43, 199, 0, 8, 42, 182, 0, 204, 176, 43, 182, 0, 32, 61, 42, 42, 180, 0, 79, 28, 96, 182, 0, 100]
abbrev dktJ8_append_0 : List UInt8 := dkwJ8_append_0 ++ dktJ8_append_1
theorem dksJ8_append_0 : cJ8_append.data.toList.drop 0 = dktJ8_append_0 := by decide +kernel
theorem dksJ8_append_1 : cJ8_append.data.toList.drop 24 = dktJ8_append_1 := dk_seg dksJ8_append_0 24 rfl rfl
theorem dJ8_append_0 : decode cJ8_append 0 = .ok (.aload_n 1, 1) := dk_43 (dk_at dksJ8_append_0 0 rfl rfl)
theorem dJ8_append_1 : decode cJ8_append 1 = .ok (.ifnonnull 8, 3) := dk_199 0 8 (dk_at dksJ8_append_0 1 rfl rfl)
theorem dJ8_append_4 : decode cJ8_append 4 = .ok (.aload_n 0, 1) := dk_42 (dk_at dksJ8_append_0 4 rfl rfl)
theorem dJ8_append_5 : decode cJ8_append 5 = .ok (.invokevirtual 204, 3) := dk_182 0 204 (dk_at dksJ8_append_0 5 rfl rfl)
theorem dJ8_append_8 : decode cJ8_append 8 = .ok (.areturn, 1) := dk_176 (dk_at dksJ8_append_0 8 rfl rfl)
theorem dJ8_append_9 : decode cJ8_append 9 = .ok (.aload_n 1, 1) := dk_43 (dk_at dksJ8_append_0 9 rfl rfl)
theorem dJ8_append_10 : decode cJ8_append 10 = .ok (.invokevirtual 32, 3) := dk_182 0 32 (dk_at dksJ8_append_0 10 rfl rfl)
theorem dJ8_append_13 : decode cJ8_append 13 = .ok (.istore_n 2, 1) := dk_61 (dk_at dksJ8_append_0 13 rfl rfl)
theorem dJ8_append_14 : decode cJ8_append 14 = .ok (.aload_n 0, 1) := dk_42 (dk_at dksJ8_append_0 14 rfl rfl)
theorem dJ8_append_15 : decode cJ8_append 15 = .ok (.aload_n 0, 1) := dk_42 (dk_at dksJ8_append_0 15 rfl rfl)
theorem dJ8_append_16 : decode cJ8_append 16 = .ok (.getfield 79, 3) := dk_180 0 79 (dk_at dksJ8_append_0 16 rfl rfl)
theorem dJ8_append_19 : decode cJ8_append 19 = .ok (.iload_n 2, 1) := dk_28 (dk_at dksJ8_append_0 19 rfl rfl)
theorem dJ8_append_20 : decode cJ8_append 20 = .ok (.iadd, 1) := dk_96 (dk_at dksJ8_append_0 20 rfl rfl)
theorem dJ8_append_21 : decode cJ8_append 21 = .ok (.invokevirtual 100, 3) := dk_182 0 100 (dk_at dksJ8_append_0 21 rfl rfl)
theorem dJ8_append_24 : decode cJ8_append 24 = .ok (.aload_n 0, 1) := dk_42 (dk_at dksJ8_append_1 0 rfl rfl)
theorem dJ8_append_25 : decode cJ8_append 25 = .ok (.aload_n 0, 1) := dk_42 (dk_at dksJ8_append_1 1 rfl rfl)
theorem dJ8_append_26 : decode cJ8_append 26 = .ok (.getfield 79, 3) := dk_180 0 79 (dk_at dksJ8_append_1 2 rfl rfl)
theorem dJ8_append_29 : decode cJ8_append 29 = .ok (.aload_n 1, 1) := dk_43 (dk_at dksJ8_append_1 5 rfl rfl)
theorem dJ8_append_30 : decode cJ8_append 30 = .ok (.invokevirtual 208, 3) := dk_182 0 208 (dk_at dksJ8_append_1 6 rfl rfl)
theorem dJ8_append_33 : decode cJ8_append 33 = .ok (.aload_n 0, 1) := dk_42 (dk_at dksJ8_append_1 9 rfl rfl)
theorem dJ8_append_34 : decode cJ8_append 34 = .ok (.dup, 1) := dk_89 (dk_at dksJ8_append_1 10 rfl rfl)
theorem dJ8_append_35 : decode cJ8_append 35 = .ok (.getfield 79, 3) := dk_180 0 79 (dk_at dksJ8_append_1 11 rfl rfl)
theorem dJ8_append_38 : decode cJ8_append 38 = .ok (.iload_n 2, 1) := dk_28 (dk_at dksJ8_append_1 14 rfl rfl)
theorem dJ8_append_39 : decode cJ8_append 39 = .ok (.iadd, 1) := dk_96 (dk_at dksJ8_append_1 15 rfl rfl)
theorem dJ8_append_40 : decode cJ8_append 40 = .ok (.putfield 79, 3) := dk_181 0 79 (dk_at dksJ8_append_1 16 rfl rfl)
theorem dJ8_append_43 : decode cJ8_append 43 = .ok (.aload_n 0, 1) := dk_42 (dk_at dksJ8_append_1 19 rfl rfl)
theorem dJ8_append_44 : decode cJ8_append 44 = .ok (.areturn, 1) := dk_176 (dk_at dksJ8_append_1 20 rfl rfl)
abbrev cJ8_appendNull : ByteArray := prog_5_method_26_code
def yJ8_appendNull : MethodName := ⟨RJ8, "appendNull", "()Ljava/lang/AbstractStringBuilder;"⟩
def dkwJ8_appendNull_3 : List UInt8 := [184, 0, 226, 60, 42, 27, 181, 0, 79, 42, 176]
abbrev dktJ8_appendNull_3 : List UInt8 := dkwJ8_appendNull_3 ++ []
def dkwJ8_appendNull_2 : List UInt8 := [16, 108, 84, 44, 27, 132, 1, 1, 16, 108, 84, 167, 0, 17, 44, 27, 16, 110, 16, 117, 16, 108, 16, 108]
abbrev dktJ8_appendNull_2 : List UInt8 := dkwJ8_appendNull_2 ++ dktJ8_appendNull_3
def dkwJ8_appendNull_1 : List UInt8 := [153, 0, 38, 44, 27, 132, 1, 1, 16, 110, 84, 44, 27, 132, 1, 1, 16, 117, 84, 44, 27, 132, 1, 1]
abbrev dktJ8_appendNull_1 : List UInt8 := dkwJ8_appendNull_1 ++ dktJ8_appendNull_2
def dkwJ8_appendNull_0 : List UInt8 := [42, 42, 180, 0, 79, 7, 96, 182, 0, 100, 42, 180, 0, 79, 60, 42, 180, 0, 15, 77, 42, 182, 0, 83]
abbrev dktJ8_appendNull_0 : List UInt8 := dkwJ8_appendNull_0 ++ dktJ8_appendNull_1
theorem dksJ8_appendNull_0 : cJ8_appendNull.data.toList.drop 0 = dktJ8_appendNull_0 := by decide +kernel
theorem dksJ8_appendNull_1 : cJ8_appendNull.data.toList.drop 24 = dktJ8_appendNull_1 := dk_seg dksJ8_appendNull_0 24 rfl rfl
theorem dksJ8_appendNull_2 : cJ8_appendNull.data.toList.drop 48 = dktJ8_appendNull_2 := dk_seg dksJ8_appendNull_1 24 rfl rfl
theorem dksJ8_appendNull_3 : cJ8_appendNull.data.toList.drop 72 = dktJ8_appendNull_3 := dk_seg dksJ8_appendNull_2 24 rfl rfl
theorem dJ8_appendNull_0 : decode cJ8_appendNull 0 = .ok (.aload_n 0, 1) := dk_42 (dk_at dksJ8_appendNull_0 0 rfl rfl)
theorem dJ8_appendNull_1 : decode cJ8_appendNull 1 = .ok (.aload_n 0, 1) := dk_42 (dk_at dksJ8_appendNull_0 1 rfl rfl)
theorem dJ8_appendNull_2 : decode cJ8_appendNull 2 = .ok (.getfield 79, 3) := dk_180 0 79 (dk_at dksJ8_appendNull_0 2 rfl rfl)
theorem dJ8_appendNull_5 : decode cJ8_appendNull 5 = .ok (.iconst 4, 1) := dk_7 (dk_at dksJ8_appendNull_0 5 rfl rfl)
theorem dJ8_appendNull_6 : decode cJ8_appendNull 6 = .ok (.iadd, 1) := dk_96 (dk_at dksJ8_appendNull_0 6 rfl rfl)
theorem dJ8_appendNull_7 : decode cJ8_appendNull 7 = .ok (.invokevirtual 100, 3) := dk_182 0 100 (dk_at dksJ8_appendNull_0 7 rfl rfl)
theorem dJ8_appendNull_10 : decode cJ8_appendNull 10 = .ok (.aload_n 0, 1) := dk_42 (dk_at dksJ8_appendNull_0 10 rfl rfl)
theorem dJ8_appendNull_11 : decode cJ8_appendNull 11 = .ok (.getfield 79, 3) := dk_180 0 79 (dk_at dksJ8_appendNull_0 11 rfl rfl)
theorem dJ8_appendNull_14 : decode cJ8_appendNull 14 = .ok (.istore_n 1, 1) := dk_60 (dk_at dksJ8_appendNull_0 14 rfl rfl)
theorem dJ8_appendNull_15 : decode cJ8_appendNull 15 = .ok (.aload_n 0, 1) := dk_42 (dk_at dksJ8_appendNull_0 15 rfl rfl)
theorem dJ8_appendNull_16 : decode cJ8_appendNull 16 = .ok (.getfield 15, 3) := dk_180 0 15 (dk_at dksJ8_appendNull_0 16 rfl rfl)
theorem dJ8_appendNull_19 : decode cJ8_appendNull 19 = .ok (.astore_n 2, 1) := dk_77 (dk_at dksJ8_appendNull_0 19 rfl rfl)
theorem dJ8_appendNull_20 : decode cJ8_appendNull 20 = .ok (.aload_n 0, 1) := dk_42 (dk_at dksJ8_appendNull_0 20 rfl rfl)
theorem dJ8_appendNull_21 : decode cJ8_appendNull 21 = .ok (.invokevirtual 83, 3) := dk_182 0 83 (dk_at dksJ8_appendNull_0 21 rfl rfl)
theorem dJ8_appendNull_24 : decode cJ8_appendNull 24 = .ok (.ifCond .eq 38, 3) := dk_153 0 38 (dk_at dksJ8_appendNull_1 0 rfl rfl)
theorem dJ8_appendNull_27 : decode cJ8_appendNull 27 = .ok (.aload_n 2, 1) := dk_44 (dk_at dksJ8_appendNull_1 3 rfl rfl)
theorem dJ8_appendNull_28 : decode cJ8_appendNull 28 = .ok (.iload_n 1, 1) := dk_27 (dk_at dksJ8_appendNull_1 4 rfl rfl)
theorem dJ8_appendNull_29 : decode cJ8_appendNull 29 = .ok (.iinc 1 1, 3) := dk_132 1 1 (dk_at dksJ8_appendNull_1 5 rfl rfl)
theorem dJ8_appendNull_32 : decode cJ8_appendNull 32 = .ok (.bipush 110, 2) := dk_16 110 (dk_at dksJ8_appendNull_1 8 rfl rfl)
theorem dJ8_appendNull_34 : decode cJ8_appendNull 34 = .ok (.bastore, 1) := dk_84 (dk_at dksJ8_appendNull_1 10 rfl rfl)
theorem dJ8_appendNull_35 : decode cJ8_appendNull 35 = .ok (.aload_n 2, 1) := dk_44 (dk_at dksJ8_appendNull_1 11 rfl rfl)
theorem dJ8_appendNull_36 : decode cJ8_appendNull 36 = .ok (.iload_n 1, 1) := dk_27 (dk_at dksJ8_appendNull_1 12 rfl rfl)
theorem dJ8_appendNull_37 : decode cJ8_appendNull 37 = .ok (.iinc 1 1, 3) := dk_132 1 1 (dk_at dksJ8_appendNull_1 13 rfl rfl)
theorem dJ8_appendNull_40 : decode cJ8_appendNull 40 = .ok (.bipush 117, 2) := dk_16 117 (dk_at dksJ8_appendNull_1 16 rfl rfl)
theorem dJ8_appendNull_42 : decode cJ8_appendNull 42 = .ok (.bastore, 1) := dk_84 (dk_at dksJ8_appendNull_1 18 rfl rfl)
theorem dJ8_appendNull_43 : decode cJ8_appendNull 43 = .ok (.aload_n 2, 1) := dk_44 (dk_at dksJ8_appendNull_1 19 rfl rfl)
theorem dJ8_appendNull_44 : decode cJ8_appendNull 44 = .ok (.iload_n 1, 1) := dk_27 (dk_at dksJ8_appendNull_1 20 rfl rfl)
theorem dJ8_appendNull_45 : decode cJ8_appendNull 45 = .ok (.iinc 1 1, 3) := dk_132 1 1 (dk_at dksJ8_appendNull_1 21 rfl rfl)
theorem dJ8_appendNull_48 : decode cJ8_appendNull 48 = .ok (.bipush 108, 2) := dk_16 108 (dk_at dksJ8_appendNull_2 0 rfl rfl)
theorem dJ8_appendNull_50 : decode cJ8_appendNull 50 = .ok (.bastore, 1) := dk_84 (dk_at dksJ8_appendNull_2 2 rfl rfl)
theorem dJ8_appendNull_51 : decode cJ8_appendNull 51 = .ok (.aload_n 2, 1) := dk_44 (dk_at dksJ8_appendNull_2 3 rfl rfl)
theorem dJ8_appendNull_52 : decode cJ8_appendNull 52 = .ok (.iload_n 1, 1) := dk_27 (dk_at dksJ8_appendNull_2 4 rfl rfl)
theorem dJ8_appendNull_53 : decode cJ8_appendNull 53 = .ok (.iinc 1 1, 3) := dk_132 1 1 (dk_at dksJ8_appendNull_2 5 rfl rfl)
theorem dJ8_appendNull_56 : decode cJ8_appendNull 56 = .ok (.bipush 108, 2) := dk_16 108 (dk_at dksJ8_appendNull_2 8 rfl rfl)
theorem dJ8_appendNull_58 : decode cJ8_appendNull 58 = .ok (.bastore, 1) := dk_84 (dk_at dksJ8_appendNull_2 10 rfl rfl)
theorem dJ8_appendNull_59 : decode cJ8_appendNull 59 = .ok (.goto 17, 3) := dk_167 0 17 (dk_at dksJ8_appendNull_2 11 rfl rfl)
theorem dJ8_appendNull_62 : decode cJ8_appendNull 62 = .ok (.aload_n 2, 1) := dk_44 (dk_at dksJ8_appendNull_2 14 rfl rfl)
theorem dJ8_appendNull_63 : decode cJ8_appendNull 63 = .ok (.iload_n 1, 1) := dk_27 (dk_at dksJ8_appendNull_2 15 rfl rfl)
theorem dJ8_appendNull_64 : decode cJ8_appendNull 64 = .ok (.bipush 110, 2) := dk_16 110 (dk_at dksJ8_appendNull_2 16 rfl rfl)
theorem dJ8_appendNull_66 : decode cJ8_appendNull 66 = .ok (.bipush 117, 2) := dk_16 117 (dk_at dksJ8_appendNull_2 18 rfl rfl)
theorem dJ8_appendNull_68 : decode cJ8_appendNull 68 = .ok (.bipush 108, 2) := dk_16 108 (dk_at dksJ8_appendNull_2 20 rfl rfl)
theorem dJ8_appendNull_70 : decode cJ8_appendNull 70 = .ok (.bipush 108, 2) := dk_16 108 (dk_at dksJ8_appendNull_2 22 rfl rfl)
theorem dJ8_appendNull_72 : decode cJ8_appendNull 72 = .ok (.invokestatic 226, 3) := dk_184 0 226 (dk_at dksJ8_appendNull_3 0 rfl rfl)
theorem dJ8_appendNull_75 : decode cJ8_appendNull 75 = .ok (.istore_n 1, 1) := dk_60 (dk_at dksJ8_appendNull_3 3 rfl rfl)
theorem dJ8_appendNull_76 : decode cJ8_appendNull 76 = .ok (.aload_n 0, 1) := dk_42 (dk_at dksJ8_appendNull_3 4 rfl rfl)
theorem dJ8_appendNull_77 : decode cJ8_appendNull 77 = .ok (.iload_n 1, 1) := dk_27 (dk_at dksJ8_appendNull_3 5 rfl rfl)
theorem dJ8_appendNull_78 : decode cJ8_appendNull 78 = .ok (.putfield 79, 3) := dk_181 0 79 (dk_at dksJ8_appendNull_3 6 rfl rfl)
theorem dJ8_appendNull_81 : decode cJ8_appendNull 81 = .ok (.aload_n 0, 1) := dk_42 (dk_at dksJ8_appendNull_3 9 rfl rfl)
theorem dJ8_appendNull_82 : decode cJ8_appendNull 82 = .ok (.areturn, 1) := dk_176 (dk_at dksJ8_appendNull_3 10 rfl rfl)
abbrev cJ8_ensureCapacityInternal : ByteArray := prog_5_method_9_code
def yJ8_ensureCapacityInternal : MethodName := ⟨RJ8, "ensureCapacityInternal", "(I)V"⟩
def dkwJ8_ensureCapacityInternal_1 : List UInt8 := [182, 0, 104, 42, 180, 0, 22, 120, 184, 0, 108, 181, 0, 15, 177]
abbrev dktJ8_ensureCapacityInternal_1 : List UInt8 := dkwJ8_ensureCapacityInternal_1 ++ []
def dkwJ8_ensureCapacityInternal_0 : List UInt8 := [42, 180, 0, 15, 190, 42, 180, 0, 22, 122, 61, 27, 28, 100, 158, 0, 24, 42, 42, 180, 0, 15, 42, 27]
abbrev dktJ8_ensureCapacityInternal_0 : List UInt8 := dkwJ8_ensureCapacityInternal_0 ++ dktJ8_ensureCapacityInternal_1
theorem dksJ8_ensureCapacityInternal_0 : cJ8_ensureCapacityInternal.data.toList.drop 0 = dktJ8_ensureCapacityInternal_0 := by decide +kernel
theorem dksJ8_ensureCapacityInternal_1 : cJ8_ensureCapacityInternal.data.toList.drop 24 = dktJ8_ensureCapacityInternal_1 := dk_seg dksJ8_ensureCapacityInternal_0 24 rfl rfl
theorem dJ8_ensureCapacityInternal_0 : decode cJ8_ensureCapacityInternal 0 = .ok (.aload_n 0, 1) := dk_42 (dk_at dksJ8_ensureCapacityInternal_0 0 rfl rfl)
theorem dJ8_ensureCapacityInternal_1 : decode cJ8_ensureCapacityInternal 1 = .ok (.getfield 15, 3) := dk_180 0 15 (dk_at dksJ8_ensureCapacityInternal_0 1 rfl rfl)
theorem dJ8_ensureCapacityInternal_4 : decode cJ8_ensureCapacityInternal 4 = .ok (.arraylength, 1) := dk_190 (dk_at dksJ8_ensureCapacityInternal_0 4 rfl rfl)
theorem dJ8_ensureCapacityInternal_5 : decode cJ8_ensureCapacityInternal 5 = .ok (.aload_n 0, 1) := dk_42 (dk_at dksJ8_ensureCapacityInternal_0 5 rfl rfl)
theorem dJ8_ensureCapacityInternal_6 : decode cJ8_ensureCapacityInternal 6 = .ok (.getfield 22, 3) := dk_180 0 22 (dk_at dksJ8_ensureCapacityInternal_0 6 rfl rfl)
theorem dJ8_ensureCapacityInternal_9 : decode cJ8_ensureCapacityInternal 9 = .ok (.ishr, 1) := dk_122 (dk_at dksJ8_ensureCapacityInternal_0 9 rfl rfl)
theorem dJ8_ensureCapacityInternal_10 : decode cJ8_ensureCapacityInternal 10 = .ok (.istore_n 2, 1) := dk_61 (dk_at dksJ8_ensureCapacityInternal_0 10 rfl rfl)
theorem dJ8_ensureCapacityInternal_11 : decode cJ8_ensureCapacityInternal 11 = .ok (.iload_n 1, 1) := dk_27 (dk_at dksJ8_ensureCapacityInternal_0 11 rfl rfl)
theorem dJ8_ensureCapacityInternal_12 : decode cJ8_ensureCapacityInternal 12 = .ok (.iload_n 2, 1) := dk_28 (dk_at dksJ8_ensureCapacityInternal_0 12 rfl rfl)
theorem dJ8_ensureCapacityInternal_13 : decode cJ8_ensureCapacityInternal 13 = .ok (.isub, 1) := dk_100 (dk_at dksJ8_ensureCapacityInternal_0 13 rfl rfl)
theorem dJ8_ensureCapacityInternal_14 : decode cJ8_ensureCapacityInternal 14 = .ok (.ifCond .le 24, 3) := dk_158 0 24 (dk_at dksJ8_ensureCapacityInternal_0 14 rfl rfl)
theorem dJ8_ensureCapacityInternal_17 : decode cJ8_ensureCapacityInternal 17 = .ok (.aload_n 0, 1) := dk_42 (dk_at dksJ8_ensureCapacityInternal_0 17 rfl rfl)
theorem dJ8_ensureCapacityInternal_18 : decode cJ8_ensureCapacityInternal 18 = .ok (.aload_n 0, 1) := dk_42 (dk_at dksJ8_ensureCapacityInternal_0 18 rfl rfl)
theorem dJ8_ensureCapacityInternal_19 : decode cJ8_ensureCapacityInternal 19 = .ok (.getfield 15, 3) := dk_180 0 15 (dk_at dksJ8_ensureCapacityInternal_0 19 rfl rfl)
theorem dJ8_ensureCapacityInternal_22 : decode cJ8_ensureCapacityInternal 22 = .ok (.aload_n 0, 1) := dk_42 (dk_at dksJ8_ensureCapacityInternal_0 22 rfl rfl)
theorem dJ8_ensureCapacityInternal_23 : decode cJ8_ensureCapacityInternal 23 = .ok (.iload_n 1, 1) := dk_27 (dk_at dksJ8_ensureCapacityInternal_0 23 rfl rfl)
theorem dJ8_ensureCapacityInternal_24 : decode cJ8_ensureCapacityInternal 24 = .ok (.invokevirtual 104, 3) := dk_182 0 104 (dk_at dksJ8_ensureCapacityInternal_1 0 rfl rfl)
theorem dJ8_ensureCapacityInternal_27 : decode cJ8_ensureCapacityInternal 27 = .ok (.aload_n 0, 1) := dk_42 (dk_at dksJ8_ensureCapacityInternal_1 3 rfl rfl)
theorem dJ8_ensureCapacityInternal_28 : decode cJ8_ensureCapacityInternal 28 = .ok (.getfield 22, 3) := dk_180 0 22 (dk_at dksJ8_ensureCapacityInternal_1 4 rfl rfl)
theorem dJ8_ensureCapacityInternal_31 : decode cJ8_ensureCapacityInternal 31 = .ok (.ishl, 1) := dk_120 (dk_at dksJ8_ensureCapacityInternal_1 7 rfl rfl)
theorem dJ8_ensureCapacityInternal_32 : decode cJ8_ensureCapacityInternal 32 = .ok (.invokestatic 108, 3) := dk_184 0 108 (dk_at dksJ8_ensureCapacityInternal_1 8 rfl rfl)
theorem dJ8_ensureCapacityInternal_35 : decode cJ8_ensureCapacityInternal 35 = .ok (.putfield 15, 3) := dk_181 0 15 (dk_at dksJ8_ensureCapacityInternal_1 11 rfl rfl)
theorem dJ8_ensureCapacityInternal_38 : decode cJ8_ensureCapacityInternal 38 = .ok (.return_, 1) := dk_177 (dk_at dksJ8_ensureCapacityInternal_1 14 rfl rfl)
abbrev cJ8_newCapacity : ByteArray := prog_5_method_10_code
def yJ8_newCapacity : MethodName := ⟨RJ8, "newCapacity", "(I)I"⟩
def dkwJ8_newCapacity_2 : List UInt8 := [183, 0, 124, 191, 21, 5, 42, 180, 0, 22, 122, 172]
abbrev dktJ8_newCapacity_2 : List UInt8 := dkwJ8_newCapacity_2 ++ []
def dkwJ8_newCapacity_1 : List UInt8 := [180, 0, 22, 120, 96, 184, 0, 114, 54, 5, 21, 5, 18, 39, 160, 0, 13, 187, 0, 120, 89, 18, 122]
abbrev dktJ8_newCapacity_1 : List UInt8 := dkwJ8_newCapacity_1 ++ dktJ8_newCapacity_2
def dkwJ8_newCapacity_0 : List UInt8 := [42, 180, 0, 15, 190, 61, 27, 42, 180, 0, 22, 120, 62, 29, 28, 100, 54, 4, 28, 21, 4, 28, 5, 42]
abbrev dktJ8_newCapacity_0 : List UInt8 := dkwJ8_newCapacity_0 ++ dktJ8_newCapacity_1
theorem dksJ8_newCapacity_0 : cJ8_newCapacity.data.toList.drop 0 = dktJ8_newCapacity_0 := by decide +kernel
theorem dksJ8_newCapacity_1 : cJ8_newCapacity.data.toList.drop 24 = dktJ8_newCapacity_1 := dk_seg dksJ8_newCapacity_0 24 rfl rfl
theorem dksJ8_newCapacity_2 : cJ8_newCapacity.data.toList.drop 47 = dktJ8_newCapacity_2 := dk_seg dksJ8_newCapacity_1 23 rfl rfl
theorem dJ8_newCapacity_0 : decode cJ8_newCapacity 0 = .ok (.aload_n 0, 1) := dk_42 (dk_at dksJ8_newCapacity_0 0 rfl rfl)
theorem dJ8_newCapacity_1 : decode cJ8_newCapacity 1 = .ok (.getfield 15, 3) := dk_180 0 15 (dk_at dksJ8_newCapacity_0 1 rfl rfl)
theorem dJ8_newCapacity_4 : decode cJ8_newCapacity 4 = .ok (.arraylength, 1) := dk_190 (dk_at dksJ8_newCapacity_0 4 rfl rfl)
theorem dJ8_newCapacity_5 : decode cJ8_newCapacity 5 = .ok (.istore_n 2, 1) := dk_61 (dk_at dksJ8_newCapacity_0 5 rfl rfl)
theorem dJ8_newCapacity_6 : decode cJ8_newCapacity 6 = .ok (.iload_n 1, 1) := dk_27 (dk_at dksJ8_newCapacity_0 6 rfl rfl)
theorem dJ8_newCapacity_7 : decode cJ8_newCapacity 7 = .ok (.aload_n 0, 1) := dk_42 (dk_at dksJ8_newCapacity_0 7 rfl rfl)
theorem dJ8_newCapacity_8 : decode cJ8_newCapacity 8 = .ok (.getfield 22, 3) := dk_180 0 22 (dk_at dksJ8_newCapacity_0 8 rfl rfl)
theorem dJ8_newCapacity_11 : decode cJ8_newCapacity 11 = .ok (.ishl, 1) := dk_120 (dk_at dksJ8_newCapacity_0 11 rfl rfl)
theorem dJ8_newCapacity_12 : decode cJ8_newCapacity 12 = .ok (.istore_n 3, 1) := dk_62 (dk_at dksJ8_newCapacity_0 12 rfl rfl)
theorem dJ8_newCapacity_13 : decode cJ8_newCapacity 13 = .ok (.iload_n 3, 1) := dk_29 (dk_at dksJ8_newCapacity_0 13 rfl rfl)
theorem dJ8_newCapacity_14 : decode cJ8_newCapacity 14 = .ok (.iload_n 2, 1) := dk_28 (dk_at dksJ8_newCapacity_0 14 rfl rfl)
theorem dJ8_newCapacity_15 : decode cJ8_newCapacity 15 = .ok (.isub, 1) := dk_100 (dk_at dksJ8_newCapacity_0 15 rfl rfl)
theorem dJ8_newCapacity_16 : decode cJ8_newCapacity 16 = .ok (.istore 4, 2) := dk_54 4 (dk_at dksJ8_newCapacity_0 16 rfl rfl)
theorem dJ8_newCapacity_18 : decode cJ8_newCapacity 18 = .ok (.iload_n 2, 1) := dk_28 (dk_at dksJ8_newCapacity_0 18 rfl rfl)
theorem dJ8_newCapacity_19 : decode cJ8_newCapacity 19 = .ok (.iload 4, 2) := dk_21 4 (dk_at dksJ8_newCapacity_0 19 rfl rfl)
theorem dJ8_newCapacity_21 : decode cJ8_newCapacity 21 = .ok (.iload_n 2, 1) := dk_28 (dk_at dksJ8_newCapacity_0 21 rfl rfl)
theorem dJ8_newCapacity_22 : decode cJ8_newCapacity 22 = .ok (.iconst 2, 1) := dk_5 (dk_at dksJ8_newCapacity_0 22 rfl rfl)
theorem dJ8_newCapacity_23 : decode cJ8_newCapacity 23 = .ok (.aload_n 0, 1) := dk_42 (dk_at dksJ8_newCapacity_0 23 rfl rfl)
theorem dJ8_newCapacity_24 : decode cJ8_newCapacity 24 = .ok (.getfield 22, 3) := dk_180 0 22 (dk_at dksJ8_newCapacity_1 0 rfl rfl)
theorem dJ8_newCapacity_27 : decode cJ8_newCapacity 27 = .ok (.ishl, 1) := dk_120 (dk_at dksJ8_newCapacity_1 3 rfl rfl)
theorem dJ8_newCapacity_28 : decode cJ8_newCapacity 28 = .ok (.iadd, 1) := dk_96 (dk_at dksJ8_newCapacity_1 4 rfl rfl)
theorem dJ8_newCapacity_29 : decode cJ8_newCapacity 29 = .ok (.invokestatic 114, 3) := dk_184 0 114 (dk_at dksJ8_newCapacity_1 5 rfl rfl)
theorem dJ8_newCapacity_32 : decode cJ8_newCapacity 32 = .ok (.istore 5, 2) := dk_54 5 (dk_at dksJ8_newCapacity_1 8 rfl rfl)
theorem dJ8_newCapacity_34 : decode cJ8_newCapacity 34 = .ok (.iload 5, 2) := dk_21 5 (dk_at dksJ8_newCapacity_1 10 rfl rfl)
theorem dJ8_newCapacity_36 : decode cJ8_newCapacity 36 = .ok (.ldc 39, 2) := dk_18 39 (dk_at dksJ8_newCapacity_1 12 rfl rfl)
theorem dJ8_newCapacity_38 : decode cJ8_newCapacity 38 = .ok (.if_icmp .ne 13, 3) := dk_160 0 13 (dk_at dksJ8_newCapacity_1 14 rfl rfl)
theorem dJ8_newCapacity_41 : decode cJ8_newCapacity 41 = .ok (.new 120, 3) := dk_187 0 120 (dk_at dksJ8_newCapacity_1 17 rfl rfl)
theorem dJ8_newCapacity_44 : decode cJ8_newCapacity 44 = .ok (.dup, 1) := dk_89 (dk_at dksJ8_newCapacity_1 20 rfl rfl)
theorem dJ8_newCapacity_45 : decode cJ8_newCapacity 45 = .ok (.ldc 122, 2) := dk_18 122 (dk_at dksJ8_newCapacity_1 21 rfl rfl)
theorem dJ8_newCapacity_47 : decode cJ8_newCapacity 47 = .ok (.invokespecial 124, 3) := dk_183 0 124 (dk_at dksJ8_newCapacity_2 0 rfl rfl)
theorem dJ8_newCapacity_50 : decode cJ8_newCapacity 50 = .ok (.athrow, 1) := dk_191 (dk_at dksJ8_newCapacity_2 3 rfl rfl)
theorem dJ8_newCapacity_51 : decode cJ8_newCapacity 51 = .ok (.iload 5, 2) := dk_21 5 (dk_at dksJ8_newCapacity_2 4 rfl rfl)
theorem dJ8_newCapacity_53 : decode cJ8_newCapacity 53 = .ok (.aload_n 0, 1) := dk_42 (dk_at dksJ8_newCapacity_2 6 rfl rfl)
theorem dJ8_newCapacity_54 : decode cJ8_newCapacity 54 = .ok (.getfield 22, 3) := dk_180 0 22 (dk_at dksJ8_newCapacity_2 7 rfl rfl)
theorem dJ8_newCapacity_57 : decode cJ8_newCapacity 57 = .ok (.ishr, 1) := dk_122 (dk_at dksJ8_newCapacity_2 10 rfl rfl)
theorem dJ8_newCapacity_58 : decode cJ8_newCapacity 58 = .ok (.ireturn, 1) := dk_172 (dk_at dksJ8_newCapacity_2 11 rfl rfl)
abbrev cJ8_isLatin1 : ByteArray := prog_5_method_68_code
def yJ8_isLatin1 : MethodName := ⟨RJ8, "isLatin1", "()Z"⟩
def dkwJ8_isLatin1_0 : List UInt8 := [178, 0, 18, 153, 0, 14, 42, 180, 0, 22, 154, 0, 7, 4, 167, 0, 4, 3, 172]
abbrev dktJ8_isLatin1_0 : List UInt8 := dkwJ8_isLatin1_0 ++ []
theorem dksJ8_isLatin1_0 : cJ8_isLatin1.data.toList.drop 0 = dktJ8_isLatin1_0 := by decide +kernel
theorem dJ8_isLatin1_0 : decode cJ8_isLatin1 0 = .ok (.getstatic 18, 3) := dk_178 0 18 (dk_at dksJ8_isLatin1_0 0 rfl rfl)
theorem dJ8_isLatin1_3 : decode cJ8_isLatin1 3 = .ok (.ifCond .eq 14, 3) := dk_153 0 14 (dk_at dksJ8_isLatin1_0 3 rfl rfl)
theorem dJ8_isLatin1_6 : decode cJ8_isLatin1 6 = .ok (.aload_n 0, 1) := dk_42 (dk_at dksJ8_isLatin1_0 6 rfl rfl)
theorem dJ8_isLatin1_7 : decode cJ8_isLatin1 7 = .ok (.getfield 22, 3) := dk_180 0 22 (dk_at dksJ8_isLatin1_0 7 rfl rfl)
theorem dJ8_isLatin1_10 : decode cJ8_isLatin1 10 = .ok (.ifCond .ne 7, 3) := dk_154 0 7 (dk_at dksJ8_isLatin1_0 10 rfl rfl)
theorem dJ8_isLatin1_13 : decode cJ8_isLatin1 13 = .ok (.iconst 1, 1) := dk_4 (dk_at dksJ8_isLatin1_0 13 rfl rfl)
theorem dJ8_isLatin1_14 : decode cJ8_isLatin1 14 = .ok (.goto 4, 3) := dk_167 0 4 (dk_at dksJ8_isLatin1_0 14 rfl rfl)
theorem dJ8_isLatin1_17 : decode cJ8_isLatin1 17 = .ok (.iconst 0, 1) := dk_3 (dk_at dksJ8_isLatin1_0 17 rfl rfl)
theorem dJ8_isLatin1_18 : decode cJ8_isLatin1 18 = .ok (.ireturn, 1) := dk_172 (dk_at dksJ8_isLatin1_0 18 rfl rfl)
abbrev cJ8_putStringAt : ByteArray := prog_5_method_73_code
def yJ8_putStringAt : MethodName := ⟨RJ8, "putStringAt", "(ILjava/lang/String;)V"⟩
def dkwJ8_putStringAt_0 : List UInt8 := [42, 44, 182, 1, 141, 44, 42, 180, 0, 15, 27, 42, 180, 0, 22, 182, 1, 143, 177]
abbrev dktJ8_putStringAt_0 : List UInt8 := dkwJ8_putStringAt_0 ++ []
theorem dksJ8_putStringAt_0 : cJ8_putStringAt.data.toList.drop 0 = dktJ8_putStringAt_0 := by decide +kernel
theorem dJ8_putStringAt_0 : decode cJ8_putStringAt 0 = .ok (.aload_n 0, 1) := dk_42 (dk_at dksJ8_putStringAt_0 0 rfl rfl)
theorem dJ8_putStringAt_1 : decode cJ8_putStringAt 1 = .ok (.aload_n 2, 1) := dk_44 (dk_at dksJ8_putStringAt_0 1 rfl rfl)
theorem dJ8_putStringAt_2 : decode cJ8_putStringAt 2 = .ok (.invokevirtual 397, 3) := dk_182 1 141 (dk_at dksJ8_putStringAt_0 2 rfl rfl)
theorem dJ8_putStringAt_5 : decode cJ8_putStringAt 5 = .ok (.aload_n 2, 1) := dk_44 (dk_at dksJ8_putStringAt_0 5 rfl rfl)
theorem dJ8_putStringAt_6 : decode cJ8_putStringAt 6 = .ok (.aload_n 0, 1) := dk_42 (dk_at dksJ8_putStringAt_0 6 rfl rfl)
theorem dJ8_putStringAt_7 : decode cJ8_putStringAt 7 = .ok (.getfield 15, 3) := dk_180 0 15 (dk_at dksJ8_putStringAt_0 7 rfl rfl)
theorem dJ8_putStringAt_10 : decode cJ8_putStringAt 10 = .ok (.iload_n 1, 1) := dk_27 (dk_at dksJ8_putStringAt_0 10 rfl rfl)
theorem dJ8_putStringAt_11 : decode cJ8_putStringAt 11 = .ok (.aload_n 0, 1) := dk_42 (dk_at dksJ8_putStringAt_0 11 rfl rfl)
theorem dJ8_putStringAt_12 : decode cJ8_putStringAt 12 = .ok (.getfield 22, 3) := dk_180 0 22 (dk_at dksJ8_putStringAt_0 12 rfl rfl)
theorem dJ8_putStringAt_15 : decode cJ8_putStringAt 15 = .ok (.invokevirtual 399, 3) := dk_182 1 143 (dk_at dksJ8_putStringAt_0 15 rfl rfl)
theorem dJ8_putStringAt_18 : decode cJ8_putStringAt 18 = .ok (.return_, 1) := dk_177 (dk_at dksJ8_putStringAt_0 18 rfl rfl)
abbrev cJ8_inflateIfNeededFor : ByteArray := prog_5_method_71_code
def yJ8_inflateIfNeededFor : MethodName := ⟨RJ8, "inflateIfNeededFor", "(Ljava/lang/String;)V"⟩
def dkwJ8_inflateIfNeededFor_0 : List UInt8 := [178, 0, 18, 153, 0, 18, 42, 180, 0, 22, 43, 182, 0, 40, 159, 0, 7, 42, 182, 0, 195, 177]
abbrev dktJ8_inflateIfNeededFor_0 : List UInt8 := dkwJ8_inflateIfNeededFor_0 ++ []
theorem dksJ8_inflateIfNeededFor_0 : cJ8_inflateIfNeededFor.data.toList.drop 0 = dktJ8_inflateIfNeededFor_0 := by decide +kernel
theorem dJ8_inflateIfNeededFor_0 : decode cJ8_inflateIfNeededFor 0 = .ok (.getstatic 18, 3) := dk_178 0 18 (dk_at dksJ8_inflateIfNeededFor_0 0 rfl rfl)
theorem dJ8_inflateIfNeededFor_3 : decode cJ8_inflateIfNeededFor 3 = .ok (.ifCond .eq 18, 3) := dk_153 0 18 (dk_at dksJ8_inflateIfNeededFor_0 3 rfl rfl)
theorem dJ8_inflateIfNeededFor_6 : decode cJ8_inflateIfNeededFor 6 = .ok (.aload_n 0, 1) := dk_42 (dk_at dksJ8_inflateIfNeededFor_0 6 rfl rfl)
theorem dJ8_inflateIfNeededFor_7 : decode cJ8_inflateIfNeededFor 7 = .ok (.getfield 22, 3) := dk_180 0 22 (dk_at dksJ8_inflateIfNeededFor_0 7 rfl rfl)
theorem dJ8_inflateIfNeededFor_10 : decode cJ8_inflateIfNeededFor 10 = .ok (.aload_n 1, 1) := dk_43 (dk_at dksJ8_inflateIfNeededFor_0 10 rfl rfl)
theorem dJ8_inflateIfNeededFor_11 : decode cJ8_inflateIfNeededFor 11 = .ok (.invokevirtual 40, 3) := dk_182 0 40 (dk_at dksJ8_inflateIfNeededFor_0 11 rfl rfl)
theorem dJ8_inflateIfNeededFor_14 : decode cJ8_inflateIfNeededFor 14 = .ok (.if_icmp .eq 7, 3) := dk_159 0 7 (dk_at dksJ8_inflateIfNeededFor_0 14 rfl rfl)
theorem dJ8_inflateIfNeededFor_17 : decode cJ8_inflateIfNeededFor 17 = .ok (.aload_n 0, 1) := dk_42 (dk_at dksJ8_inflateIfNeededFor_0 17 rfl rfl)
theorem dJ8_inflateIfNeededFor_18 : decode cJ8_inflateIfNeededFor 18 = .ok (.invokevirtual 195, 3) := dk_182 0 195 (dk_at dksJ8_inflateIfNeededFor_0 18 rfl rfl)
theorem dJ8_inflateIfNeededFor_21 : decode cJ8_inflateIfNeededFor 21 = .ok (.return_, 1) := dk_177 (dk_at dksJ8_inflateIfNeededFor_0 21 rfl rfl)
abbrev cJ8_inflate : ByteArray := prog_5_method_11_code
def yJ8_inflate : MethodName := ⟨RJ8, "inflate", "()V"⟩
def dkwJ8_inflate_1 : List UInt8 := [42, 180, 0, 79, 184, 0, 125, 42, 43, 181, 0, 15, 42, 4, 181, 0, 22, 177]
abbrev dktJ8_inflate_1 : List UInt8 := dkwJ8_inflate_1 ++ []
def dkwJ8_inflate_0 : List UInt8 := [42, 182, 0, 83, 154, 0, 4, 177, 42, 180, 0, 15, 190, 184, 0, 26, 76, 42, 180, 0, 15, 3, 43, 3]
abbrev dktJ8_inflate_0 : List UInt8 := dkwJ8_inflate_0 ++ dktJ8_inflate_1
theorem dksJ8_inflate_0 : cJ8_inflate.data.toList.drop 0 = dktJ8_inflate_0 := by decide +kernel
theorem dksJ8_inflate_1 : cJ8_inflate.data.toList.drop 24 = dktJ8_inflate_1 := dk_seg dksJ8_inflate_0 24 rfl rfl
theorem dJ8_inflate_0 : decode cJ8_inflate 0 = .ok (.aload_n 0, 1) := dk_42 (dk_at dksJ8_inflate_0 0 rfl rfl)
theorem dJ8_inflate_1 : decode cJ8_inflate 1 = .ok (.invokevirtual 83, 3) := dk_182 0 83 (dk_at dksJ8_inflate_0 1 rfl rfl)
theorem dJ8_inflate_4 : decode cJ8_inflate 4 = .ok (.ifCond .ne 4, 3) := dk_154 0 4 (dk_at dksJ8_inflate_0 4 rfl rfl)
theorem dJ8_inflate_7 : decode cJ8_inflate 7 = .ok (.return_, 1) := dk_177 (dk_at dksJ8_inflate_0 7 rfl rfl)
theorem dJ8_inflate_8 : decode cJ8_inflate 8 = .ok (.aload_n 0, 1) := dk_42 (dk_at dksJ8_inflate_0 8 rfl rfl)
theorem dJ8_inflate_9 : decode cJ8_inflate 9 = .ok (.getfield 15, 3) := dk_180 0 15 (dk_at dksJ8_inflate_0 9 rfl rfl)
theorem dJ8_inflate_12 : decode cJ8_inflate 12 = .ok (.arraylength, 1) := dk_190 (dk_at dksJ8_inflate_0 12 rfl rfl)
theorem dJ8_inflate_13 : decode cJ8_inflate 13 = .ok (.invokestatic 26, 3) := dk_184 0 26 (dk_at dksJ8_inflate_0 13 rfl rfl)
theorem dJ8_inflate_16 : decode cJ8_inflate 16 = .ok (.astore_n 1, 1) := dk_76 (dk_at dksJ8_inflate_0 16 rfl rfl)
theorem dJ8_inflate_17 : decode cJ8_inflate 17 = .ok (.aload_n 0, 1) := dk_42 (dk_at dksJ8_inflate_0 17 rfl rfl)
theorem dJ8_inflate_18 : decode cJ8_inflate 18 = .ok (.getfield 15, 3) := dk_180 0 15 (dk_at dksJ8_inflate_0 18 rfl rfl)
theorem dJ8_inflate_21 : decode cJ8_inflate 21 = .ok (.iconst 0, 1) := dk_3 (dk_at dksJ8_inflate_0 21 rfl rfl)
theorem dJ8_inflate_22 : decode cJ8_inflate 22 = .ok (.aload_n 1, 1) := dk_43 (dk_at dksJ8_inflate_0 22 rfl rfl)
theorem dJ8_inflate_23 : decode cJ8_inflate 23 = .ok (.iconst 0, 1) := dk_3 (dk_at dksJ8_inflate_0 23 rfl rfl)
theorem dJ8_inflate_24 : decode cJ8_inflate 24 = .ok (.aload_n 0, 1) := dk_42 (dk_at dksJ8_inflate_1 0 rfl rfl)
theorem dJ8_inflate_25 : decode cJ8_inflate 25 = .ok (.getfield 79, 3) := dk_180 0 79 (dk_at dksJ8_inflate_1 1 rfl rfl)
theorem dJ8_inflate_28 : decode cJ8_inflate 28 = .ok (.invokestatic 125, 3) := dk_184 0 125 (dk_at dksJ8_inflate_1 4 rfl rfl)
theorem dJ8_inflate_31 : decode cJ8_inflate 31 = .ok (.aload_n 0, 1) := dk_42 (dk_at dksJ8_inflate_1 7 rfl rfl)
theorem dJ8_inflate_32 : decode cJ8_inflate 32 = .ok (.aload_n 1, 1) := dk_43 (dk_at dksJ8_inflate_1 8 rfl rfl)
theorem dJ8_inflate_33 : decode cJ8_inflate 33 = .ok (.putfield 15, 3) := dk_181 0 15 (dk_at dksJ8_inflate_1 9 rfl rfl)
theorem dJ8_inflate_36 : decode cJ8_inflate 36 = .ok (.aload_n 0, 1) := dk_42 (dk_at dksJ8_inflate_1 12 rfl rfl)
theorem dJ8_inflate_37 : decode cJ8_inflate 37 = .ok (.iconst 1, 1) := dk_4 (dk_at dksJ8_inflate_1 13 rfl rfl)
theorem dJ8_inflate_38 : decode cJ8_inflate 38 = .ok (.putfield 22, 3) := dk_181 0 22 (dk_at dksJ8_inflate_1 14 rfl rfl)
theorem dJ8_inflate_41 : decode cJ8_inflate 41 = .ok (.return_, 1) := dk_177 (dk_at dksJ8_inflate_1 17 rfl rfl)
abbrev cJ8_length : ByteArray := prog_5_method_6_code
def yJ8_length : MethodName := ⟨RJ8, "length", "()I"⟩
theorem dJ8_length_0 : decode cJ8_length 0 = .ok (.aload_n 0, 1) := by decide +kernel
theorem dJ8_length_1 : decode cJ8_length 1 = .ok (.getfield 79, 3) := by decide +kernel
theorem dJ8_length_4 : decode cJ8_length 4 = .ok (.ireturn, 1) := by decide +kernel
abbrev cJ8_charAt : ByteArray := prog_5_method_14_code
def yJ8_charAt : MethodName := ⟨RJ8, "charAt", "(I)C"⟩
def dkwJ8_charAt_1 : List UInt8 := [21, 4, 184, 0, 144, 28, 154, 0, 12, 45, 27, 51, 17, 0, 255, 126, 146, 172, 45, 27, 184, 0, 148, 172]
abbrev dktJ8_charAt_1 : List UInt8 := dkwJ8_charAt_1 ++ []
def dkwJ8_charAt_0 : List UInt8 := [42, 180, 0, 22, 61, 42, 180, 0, 15, 78, 42, 180, 0, 79, 45, 190, 28, 122, 184, 0, 138, 54, 4, 27]
abbrev dktJ8_charAt_0 : List UInt8 := dkwJ8_charAt_0 ++ dktJ8_charAt_1
theorem dksJ8_charAt_0 : cJ8_charAt.data.toList.drop 0 = dktJ8_charAt_0 := by decide +kernel
theorem dksJ8_charAt_1 : cJ8_charAt.data.toList.drop 24 = dktJ8_charAt_1 := dk_seg dksJ8_charAt_0 24 rfl rfl
theorem dJ8_charAt_0 : decode cJ8_charAt 0 = .ok (.aload_n 0, 1) := dk_42 (dk_at dksJ8_charAt_0 0 rfl rfl)
theorem dJ8_charAt_1 : decode cJ8_charAt 1 = .ok (.getfield 22, 3) := dk_180 0 22 (dk_at dksJ8_charAt_0 1 rfl rfl)
theorem dJ8_charAt_4 : decode cJ8_charAt 4 = .ok (.istore_n 2, 1) := dk_61 (dk_at dksJ8_charAt_0 4 rfl rfl)
theorem dJ8_charAt_5 : decode cJ8_charAt 5 = .ok (.aload_n 0, 1) := dk_42 (dk_at dksJ8_charAt_0 5 rfl rfl)
theorem dJ8_charAt_6 : decode cJ8_charAt 6 = .ok (.getfield 15, 3) := dk_180 0 15 (dk_at dksJ8_charAt_0 6 rfl rfl)
theorem dJ8_charAt_9 : decode cJ8_charAt 9 = .ok (.astore_n 3, 1) := dk_78 (dk_at dksJ8_charAt_0 9 rfl rfl)
theorem dJ8_charAt_10 : decode cJ8_charAt 10 = .ok (.aload_n 0, 1) := dk_42 (dk_at dksJ8_charAt_0 10 rfl rfl)
theorem dJ8_charAt_11 : decode cJ8_charAt 11 = .ok (.getfield 79, 3) := dk_180 0 79 (dk_at dksJ8_charAt_0 11 rfl rfl)
theorem dJ8_charAt_14 : decode cJ8_charAt 14 = .ok (.aload_n 3, 1) := dk_45 (dk_at dksJ8_charAt_0 14 rfl rfl)
theorem dJ8_charAt_15 : decode cJ8_charAt 15 = .ok (.arraylength, 1) := dk_190 (dk_at dksJ8_charAt_0 15 rfl rfl)
theorem dJ8_charAt_16 : decode cJ8_charAt 16 = .ok (.iload_n 2, 1) := dk_28 (dk_at dksJ8_charAt_0 16 rfl rfl)
theorem dJ8_charAt_17 : decode cJ8_charAt 17 = .ok (.ishr, 1) := dk_122 (dk_at dksJ8_charAt_0 17 rfl rfl)
theorem dJ8_charAt_18 : decode cJ8_charAt 18 = .ok (.invokestatic 138, 3) := dk_184 0 138 (dk_at dksJ8_charAt_0 18 rfl rfl)
theorem dJ8_charAt_21 : decode cJ8_charAt 21 = .ok (.istore 4, 2) := dk_54 4 (dk_at dksJ8_charAt_0 21 rfl rfl)
theorem dJ8_charAt_23 : decode cJ8_charAt 23 = .ok (.iload_n 1, 1) := dk_27 (dk_at dksJ8_charAt_0 23 rfl rfl)
theorem dJ8_charAt_24 : decode cJ8_charAt 24 = .ok (.iload 4, 2) := dk_21 4 (dk_at dksJ8_charAt_1 0 rfl rfl)
theorem dJ8_charAt_26 : decode cJ8_charAt 26 = .ok (.invokestatic 144, 3) := dk_184 0 144 (dk_at dksJ8_charAt_1 2 rfl rfl)
theorem dJ8_charAt_29 : decode cJ8_charAt 29 = .ok (.iload_n 2, 1) := dk_28 (dk_at dksJ8_charAt_1 5 rfl rfl)
theorem dJ8_charAt_30 : decode cJ8_charAt 30 = .ok (.ifCond .ne 12, 3) := dk_154 0 12 (dk_at dksJ8_charAt_1 6 rfl rfl)
theorem dJ8_charAt_33 : decode cJ8_charAt 33 = .ok (.aload_n 3, 1) := dk_45 (dk_at dksJ8_charAt_1 9 rfl rfl)
theorem dJ8_charAt_34 : decode cJ8_charAt 34 = .ok (.iload_n 1, 1) := dk_27 (dk_at dksJ8_charAt_1 10 rfl rfl)
theorem dJ8_charAt_35 : decode cJ8_charAt 35 = .ok (.baload, 1) := dk_51 (dk_at dksJ8_charAt_1 11 rfl rfl)
theorem dJ8_charAt_36 : decode cJ8_charAt 36 = .ok (.sipush 255, 3) := dk_17 0 255 (dk_at dksJ8_charAt_1 12 rfl rfl)
theorem dJ8_charAt_39 : decode cJ8_charAt 39 = .ok (.iand, 1) := dk_126 (dk_at dksJ8_charAt_1 15 rfl rfl)
theorem dJ8_charAt_40 : decode cJ8_charAt 40 = .ok (.i2c, 1) := dk_146 (dk_at dksJ8_charAt_1 16 rfl rfl)
theorem dJ8_charAt_41 : decode cJ8_charAt 41 = .ok (.ireturn, 1) := dk_172 (dk_at dksJ8_charAt_1 17 rfl rfl)
theorem dJ8_charAt_42 : decode cJ8_charAt 42 = .ok (.aload_n 3, 1) := dk_45 (dk_at dksJ8_charAt_1 18 rfl rfl)
theorem dJ8_charAt_43 : decode cJ8_charAt 43 = .ok (.iload_n 1, 1) := dk_27 (dk_at dksJ8_charAt_1 19 rfl rfl)
theorem dJ8_charAt_44 : decode cJ8_charAt 44 = .ok (.invokestatic 148, 3) := dk_184 0 148 (dk_at dksJ8_charAt_1 20 rfl rfl)
theorem dJ8_charAt_47 : decode cJ8_charAt 47 = .ok (.ireturn, 1) := dk_172 (dk_at dksJ8_charAt_1 23 rfl rfl)
abbrev cJ8_capacity : ByteArray := prog_5_method_7_code
def yJ8_capacity : MethodName := ⟨RJ8, "capacity", "()I"⟩
def dkwJ8_capacity_0 : List UInt8 := [42, 180, 0, 15, 190, 42, 180, 0, 22, 122, 172]
abbrev dktJ8_capacity_0 : List UInt8 := dkwJ8_capacity_0 ++ []
theorem dksJ8_capacity_0 : cJ8_capacity.data.toList.drop 0 = dktJ8_capacity_0 := by decide +kernel
theorem dJ8_capacity_0 : decode cJ8_capacity 0 = .ok (.aload_n 0, 1) := dk_42 (dk_at dksJ8_capacity_0 0 rfl rfl)
theorem dJ8_capacity_1 : decode cJ8_capacity 1 = .ok (.getfield 15, 3) := dk_180 0 15 (dk_at dksJ8_capacity_0 1 rfl rfl)
theorem dJ8_capacity_4 : decode cJ8_capacity 4 = .ok (.arraylength, 1) := dk_190 (dk_at dksJ8_capacity_0 4 rfl rfl)
theorem dJ8_capacity_5 : decode cJ8_capacity 5 = .ok (.aload_n 0, 1) := dk_42 (dk_at dksJ8_capacity_0 5 rfl rfl)
theorem dJ8_capacity_6 : decode cJ8_capacity 6 = .ok (.getfield 22, 3) := dk_180 0 22 (dk_at dksJ8_capacity_0 6 rfl rfl)
theorem dJ8_capacity_9 : decode cJ8_capacity 9 = .ok (.ishr, 1) := dk_122 (dk_at dksJ8_capacity_0 9 rfl rfl)
theorem dJ8_capacity_10 : decode cJ8_capacity 10 = .ok (.ireturn, 1) := dk_172 (dk_at dksJ8_capacity_0 10 rfl rfl)
abbrev cJ8_setLength : ByteArray := prog_5_method_13_code
def yJ8_setLength : MethodName := ⟨RJ8, "setLength", "(I)V"⟩
def dkwJ8_setLength_3 : List UInt8 := [164, 0, 8, 42, 4, 181, 0, 73, 42, 27, 181, 0, 79, 177]
abbrev dktJ8_setLength_3 : List UInt8 := dkwJ8_setLength_3 ++ []
def dkwJ8_setLength_2 : List UInt8 := [167, 0, 31, 42, 180, 0, 15, 42, 180, 0, 79, 27, 184, 0, 137, 167, 0, 16, 42, 180, 0, 79, 27]
abbrev dktJ8_setLength_2 : List UInt8 := dkwJ8_setLength_2 ++ dktJ8_setLength_3
def dkwJ8_setLength_1 : List UInt8 := [162, 0, 40, 42, 182, 0, 83, 153, 0, 18, 42, 180, 0, 15, 42, 180, 0, 79, 27, 184, 0, 133]
abbrev dktJ8_setLength_1 : List UInt8 := dkwJ8_setLength_1 ++ dktJ8_setLength_2
def dkwJ8_setLength_0 : List UInt8 := [27, 156, 0, 12, 187, 0, 129, 89, 27, 183, 0, 131, 191, 42, 27, 182, 0, 100, 42, 180, 0, 79, 27]
abbrev dktJ8_setLength_0 : List UInt8 := dkwJ8_setLength_0 ++ dktJ8_setLength_1
theorem dksJ8_setLength_0 : cJ8_setLength.data.toList.drop 0 = dktJ8_setLength_0 := by decide +kernel
theorem dksJ8_setLength_1 : cJ8_setLength.data.toList.drop 23 = dktJ8_setLength_1 := dk_seg dksJ8_setLength_0 23 rfl rfl
theorem dksJ8_setLength_2 : cJ8_setLength.data.toList.drop 45 = dktJ8_setLength_2 := dk_seg dksJ8_setLength_1 22 rfl rfl
theorem dksJ8_setLength_3 : cJ8_setLength.data.toList.drop 68 = dktJ8_setLength_3 := dk_seg dksJ8_setLength_2 23 rfl rfl
theorem dJ8_setLength_0 : decode cJ8_setLength 0 = .ok (.iload_n 1, 1) := dk_27 (dk_at dksJ8_setLength_0 0 rfl rfl)
theorem dJ8_setLength_1 : decode cJ8_setLength 1 = .ok (.ifCond .ge 12, 3) := dk_156 0 12 (dk_at dksJ8_setLength_0 1 rfl rfl)
theorem dJ8_setLength_4 : decode cJ8_setLength 4 = .ok (.new 129, 3) := dk_187 0 129 (dk_at dksJ8_setLength_0 4 rfl rfl)
theorem dJ8_setLength_7 : decode cJ8_setLength 7 = .ok (.dup, 1) := dk_89 (dk_at dksJ8_setLength_0 7 rfl rfl)
theorem dJ8_setLength_8 : decode cJ8_setLength 8 = .ok (.iload_n 1, 1) := dk_27 (dk_at dksJ8_setLength_0 8 rfl rfl)
theorem dJ8_setLength_9 : decode cJ8_setLength 9 = .ok (.invokespecial 131, 3) := dk_183 0 131 (dk_at dksJ8_setLength_0 9 rfl rfl)
theorem dJ8_setLength_12 : decode cJ8_setLength 12 = .ok (.athrow, 1) := dk_191 (dk_at dksJ8_setLength_0 12 rfl rfl)
theorem dJ8_setLength_13 : decode cJ8_setLength 13 = .ok (.aload_n 0, 1) := dk_42 (dk_at dksJ8_setLength_0 13 rfl rfl)
theorem dJ8_setLength_14 : decode cJ8_setLength 14 = .ok (.iload_n 1, 1) := dk_27 (dk_at dksJ8_setLength_0 14 rfl rfl)
theorem dJ8_setLength_15 : decode cJ8_setLength 15 = .ok (.invokevirtual 100, 3) := dk_182 0 100 (dk_at dksJ8_setLength_0 15 rfl rfl)
theorem dJ8_setLength_18 : decode cJ8_setLength 18 = .ok (.aload_n 0, 1) := dk_42 (dk_at dksJ8_setLength_0 18 rfl rfl)
theorem dJ8_setLength_19 : decode cJ8_setLength 19 = .ok (.getfield 79, 3) := dk_180 0 79 (dk_at dksJ8_setLength_0 19 rfl rfl)
theorem dJ8_setLength_22 : decode cJ8_setLength 22 = .ok (.iload_n 1, 1) := dk_27 (dk_at dksJ8_setLength_0 22 rfl rfl)
theorem dJ8_setLength_23 : decode cJ8_setLength 23 = .ok (.if_icmp .ge 40, 3) := dk_162 0 40 (dk_at dksJ8_setLength_1 0 rfl rfl)
theorem dJ8_setLength_26 : decode cJ8_setLength 26 = .ok (.aload_n 0, 1) := dk_42 (dk_at dksJ8_setLength_1 3 rfl rfl)
theorem dJ8_setLength_27 : decode cJ8_setLength 27 = .ok (.invokevirtual 83, 3) := dk_182 0 83 (dk_at dksJ8_setLength_1 4 rfl rfl)
theorem dJ8_setLength_30 : decode cJ8_setLength 30 = .ok (.ifCond .eq 18, 3) := dk_153 0 18 (dk_at dksJ8_setLength_1 7 rfl rfl)
theorem dJ8_setLength_33 : decode cJ8_setLength 33 = .ok (.aload_n 0, 1) := dk_42 (dk_at dksJ8_setLength_1 10 rfl rfl)
theorem dJ8_setLength_34 : decode cJ8_setLength 34 = .ok (.getfield 15, 3) := dk_180 0 15 (dk_at dksJ8_setLength_1 11 rfl rfl)
theorem dJ8_setLength_37 : decode cJ8_setLength 37 = .ok (.aload_n 0, 1) := dk_42 (dk_at dksJ8_setLength_1 14 rfl rfl)
theorem dJ8_setLength_38 : decode cJ8_setLength 38 = .ok (.getfield 79, 3) := dk_180 0 79 (dk_at dksJ8_setLength_1 15 rfl rfl)
theorem dJ8_setLength_41 : decode cJ8_setLength 41 = .ok (.iload_n 1, 1) := dk_27 (dk_at dksJ8_setLength_1 18 rfl rfl)
theorem dJ8_setLength_42 : decode cJ8_setLength 42 = .ok (.invokestatic 133, 3) := dk_184 0 133 (dk_at dksJ8_setLength_1 19 rfl rfl)
theorem dJ8_setLength_45 : decode cJ8_setLength 45 = .ok (.goto 31, 3) := dk_167 0 31 (dk_at dksJ8_setLength_2 0 rfl rfl)
theorem dJ8_setLength_48 : decode cJ8_setLength 48 = .ok (.aload_n 0, 1) := dk_42 (dk_at dksJ8_setLength_2 3 rfl rfl)
theorem dJ8_setLength_49 : decode cJ8_setLength 49 = .ok (.getfield 15, 3) := dk_180 0 15 (dk_at dksJ8_setLength_2 4 rfl rfl)
theorem dJ8_setLength_52 : decode cJ8_setLength 52 = .ok (.aload_n 0, 1) := dk_42 (dk_at dksJ8_setLength_2 7 rfl rfl)
theorem dJ8_setLength_53 : decode cJ8_setLength 53 = .ok (.getfield 79, 3) := dk_180 0 79 (dk_at dksJ8_setLength_2 8 rfl rfl)
theorem dJ8_setLength_56 : decode cJ8_setLength 56 = .ok (.iload_n 1, 1) := dk_27 (dk_at dksJ8_setLength_2 11 rfl rfl)
theorem dJ8_setLength_57 : decode cJ8_setLength 57 = .ok (.invokestatic 137, 3) := dk_184 0 137 (dk_at dksJ8_setLength_2 12 rfl rfl)
theorem dJ8_setLength_60 : decode cJ8_setLength 60 = .ok (.goto 16, 3) := dk_167 0 16 (dk_at dksJ8_setLength_2 15 rfl rfl)
theorem dJ8_setLength_63 : decode cJ8_setLength 63 = .ok (.aload_n 0, 1) := dk_42 (dk_at dksJ8_setLength_2 18 rfl rfl)
theorem dJ8_setLength_64 : decode cJ8_setLength 64 = .ok (.getfield 79, 3) := dk_180 0 79 (dk_at dksJ8_setLength_2 19 rfl rfl)
theorem dJ8_setLength_67 : decode cJ8_setLength 67 = .ok (.iload_n 1, 1) := dk_27 (dk_at dksJ8_setLength_2 22 rfl rfl)
theorem dJ8_setLength_68 : decode cJ8_setLength 68 = .ok (.if_icmp .le 8, 3) := dk_164 0 8 (dk_at dksJ8_setLength_3 0 rfl rfl)
theorem dJ8_setLength_71 : decode cJ8_setLength 71 = .ok (.aload_n 0, 1) := dk_42 (dk_at dksJ8_setLength_3 3 rfl rfl)
theorem dJ8_setLength_72 : decode cJ8_setLength 72 = .ok (.iconst 1, 1) := dk_4 (dk_at dksJ8_setLength_3 4 rfl rfl)
theorem dJ8_setLength_73 : decode cJ8_setLength 73 = .ok (.putfield 73, 3) := dk_181 0 73 (dk_at dksJ8_setLength_3 5 rfl rfl)
theorem dJ8_setLength_76 : decode cJ8_setLength 76 = .ok (.aload_n 0, 1) := dk_42 (dk_at dksJ8_setLength_3 8 rfl rfl)
theorem dJ8_setLength_77 : decode cJ8_setLength 77 = .ok (.iload_n 1, 1) := dk_27 (dk_at dksJ8_setLength_3 9 rfl rfl)
theorem dJ8_setLength_78 : decode cJ8_setLength 78 = .ok (.putfield 79, 3) := dk_181 0 79 (dk_at dksJ8_setLength_3 10 rfl rfl)
theorem dJ8_setLength_81 : decode cJ8_setLength 81 = .ok (.return_, 1) := dk_177 (dk_at dksJ8_setLength_3 13 rfl rfl)
abbrev cJ8_append_2 : ByteArray := prog_5_method_31_code
def yJ8_append_2 : MethodName := ⟨RJ8, "append", "(C)Ljava/lang/AbstractStringBuilder;"⟩
def dkwJ8_append_2_3 : List UInt8 := [181, 0, 79, 27, 184, 0, 197, 42, 176]
abbrev dktJ8_append_2_3 : List UInt8 := dkwJ8_append_2_3 ++ []
def dkwJ8_append_2_2 : List UInt8 := [182, 0, 83, 153, 0, 7, 42, 182, 0, 195, 42, 180, 0, 15, 42, 89, 180, 0, 79, 90, 4, 96]
abbrev dktJ8_append_2_2 : List UInt8 := dkwJ8_append_2_2 ++ dktJ8_append_2_3
def dkwJ8_append_2_1 : List UInt8 := [42, 180, 0, 15, 42, 89, 180, 0, 79, 90, 4, 96, 181, 0, 79, 27, 145, 84, 167, 0, 33, 42]
abbrev dktJ8_append_2_1 : List UInt8 := dkwJ8_append_2_1 ++ dktJ8_append_2_2
def dkwJ8_append_2_0 : List UInt8 := [42, 42, 180, 0, 79, 4, 96, 182, 0, 100, 42, 182, 0, 83, 153, 0, 31, 27, 184, 0, 191, 153, 0, 24]
abbrev dktJ8_append_2_0 : List UInt8 := dkwJ8_append_2_0 ++ dktJ8_append_2_1
theorem dksJ8_append_2_0 : cJ8_append_2.data.toList.drop 0 = dktJ8_append_2_0 := by decide +kernel
theorem dksJ8_append_2_1 : cJ8_append_2.data.toList.drop 24 = dktJ8_append_2_1 := dk_seg dksJ8_append_2_0 24 rfl rfl
theorem dksJ8_append_2_2 : cJ8_append_2.data.toList.drop 46 = dktJ8_append_2_2 := dk_seg dksJ8_append_2_1 22 rfl rfl
theorem dksJ8_append_2_3 : cJ8_append_2.data.toList.drop 68 = dktJ8_append_2_3 := dk_seg dksJ8_append_2_2 22 rfl rfl
theorem dJ8_append_2_0 : decode cJ8_append_2 0 = .ok (.aload_n 0, 1) := dk_42 (dk_at dksJ8_append_2_0 0 rfl rfl)
theorem dJ8_append_2_1 : decode cJ8_append_2 1 = .ok (.aload_n 0, 1) := dk_42 (dk_at dksJ8_append_2_0 1 rfl rfl)
theorem dJ8_append_2_2 : decode cJ8_append_2 2 = .ok (.getfield 79, 3) := dk_180 0 79 (dk_at dksJ8_append_2_0 2 rfl rfl)
theorem dJ8_append_2_5 : decode cJ8_append_2 5 = .ok (.iconst 1, 1) := dk_4 (dk_at dksJ8_append_2_0 5 rfl rfl)
theorem dJ8_append_2_6 : decode cJ8_append_2 6 = .ok (.iadd, 1) := dk_96 (dk_at dksJ8_append_2_0 6 rfl rfl)
theorem dJ8_append_2_7 : decode cJ8_append_2 7 = .ok (.invokevirtual 100, 3) := dk_182 0 100 (dk_at dksJ8_append_2_0 7 rfl rfl)
theorem dJ8_append_2_10 : decode cJ8_append_2 10 = .ok (.aload_n 0, 1) := dk_42 (dk_at dksJ8_append_2_0 10 rfl rfl)
theorem dJ8_append_2_11 : decode cJ8_append_2 11 = .ok (.invokevirtual 83, 3) := dk_182 0 83 (dk_at dksJ8_append_2_0 11 rfl rfl)
theorem dJ8_append_2_14 : decode cJ8_append_2 14 = .ok (.ifCond .eq 31, 3) := dk_153 0 31 (dk_at dksJ8_append_2_0 14 rfl rfl)
theorem dJ8_append_2_17 : decode cJ8_append_2 17 = .ok (.iload_n 1, 1) := dk_27 (dk_at dksJ8_append_2_0 17 rfl rfl)
theorem dJ8_append_2_18 : decode cJ8_append_2 18 = .ok (.invokestatic 191, 3) := dk_184 0 191 (dk_at dksJ8_append_2_0 18 rfl rfl)
theorem dJ8_append_2_21 : decode cJ8_append_2 21 = .ok (.ifCond .eq 24, 3) := dk_153 0 24 (dk_at dksJ8_append_2_0 21 rfl rfl)
theorem dJ8_append_2_24 : decode cJ8_append_2 24 = .ok (.aload_n 0, 1) := dk_42 (dk_at dksJ8_append_2_1 0 rfl rfl)
theorem dJ8_append_2_25 : decode cJ8_append_2 25 = .ok (.getfield 15, 3) := dk_180 0 15 (dk_at dksJ8_append_2_1 1 rfl rfl)
theorem dJ8_append_2_28 : decode cJ8_append_2 28 = .ok (.aload_n 0, 1) := dk_42 (dk_at dksJ8_append_2_1 4 rfl rfl)
theorem dJ8_append_2_29 : decode cJ8_append_2 29 = .ok (.dup, 1) := dk_89 (dk_at dksJ8_append_2_1 5 rfl rfl)
theorem dJ8_append_2_30 : decode cJ8_append_2 30 = .ok (.getfield 79, 3) := dk_180 0 79 (dk_at dksJ8_append_2_1 6 rfl rfl)
theorem dJ8_append_2_33 : decode cJ8_append_2 33 = .ok (.dup_x1, 1) := dk_90 (dk_at dksJ8_append_2_1 9 rfl rfl)
theorem dJ8_append_2_34 : decode cJ8_append_2 34 = .ok (.iconst 1, 1) := dk_4 (dk_at dksJ8_append_2_1 10 rfl rfl)
theorem dJ8_append_2_35 : decode cJ8_append_2 35 = .ok (.iadd, 1) := dk_96 (dk_at dksJ8_append_2_1 11 rfl rfl)
theorem dJ8_append_2_36 : decode cJ8_append_2 36 = .ok (.putfield 79, 3) := dk_181 0 79 (dk_at dksJ8_append_2_1 12 rfl rfl)
theorem dJ8_append_2_39 : decode cJ8_append_2 39 = .ok (.iload_n 1, 1) := dk_27 (dk_at dksJ8_append_2_1 15 rfl rfl)
theorem dJ8_append_2_40 : decode cJ8_append_2 40 = .ok (.i2b, 1) := dk_145 (dk_at dksJ8_append_2_1 16 rfl rfl)
theorem dJ8_append_2_41 : decode cJ8_append_2 41 = .ok (.bastore, 1) := dk_84 (dk_at dksJ8_append_2_1 17 rfl rfl)
theorem dJ8_append_2_42 : decode cJ8_append_2 42 = .ok (.goto 33, 3) := dk_167 0 33 (dk_at dksJ8_append_2_1 18 rfl rfl)
theorem dJ8_append_2_45 : decode cJ8_append_2 45 = .ok (.aload_n 0, 1) := dk_42 (dk_at dksJ8_append_2_1 21 rfl rfl)
theorem dJ8_append_2_46 : decode cJ8_append_2 46 = .ok (.invokevirtual 83, 3) := dk_182 0 83 (dk_at dksJ8_append_2_2 0 rfl rfl)
theorem dJ8_append_2_49 : decode cJ8_append_2 49 = .ok (.ifCond .eq 7, 3) := dk_153 0 7 (dk_at dksJ8_append_2_2 3 rfl rfl)
theorem dJ8_append_2_52 : decode cJ8_append_2 52 = .ok (.aload_n 0, 1) := dk_42 (dk_at dksJ8_append_2_2 6 rfl rfl)
theorem dJ8_append_2_53 : decode cJ8_append_2 53 = .ok (.invokevirtual 195, 3) := dk_182 0 195 (dk_at dksJ8_append_2_2 7 rfl rfl)
theorem dJ8_append_2_56 : decode cJ8_append_2 56 = .ok (.aload_n 0, 1) := dk_42 (dk_at dksJ8_append_2_2 10 rfl rfl)
theorem dJ8_append_2_57 : decode cJ8_append_2 57 = .ok (.getfield 15, 3) := dk_180 0 15 (dk_at dksJ8_append_2_2 11 rfl rfl)
theorem dJ8_append_2_60 : decode cJ8_append_2 60 = .ok (.aload_n 0, 1) := dk_42 (dk_at dksJ8_append_2_2 14 rfl rfl)
theorem dJ8_append_2_61 : decode cJ8_append_2 61 = .ok (.dup, 1) := dk_89 (dk_at dksJ8_append_2_2 15 rfl rfl)
theorem dJ8_append_2_62 : decode cJ8_append_2 62 = .ok (.getfield 79, 3) := dk_180 0 79 (dk_at dksJ8_append_2_2 16 rfl rfl)
theorem dJ8_append_2_65 : decode cJ8_append_2 65 = .ok (.dup_x1, 1) := dk_90 (dk_at dksJ8_append_2_2 19 rfl rfl)
theorem dJ8_append_2_66 : decode cJ8_append_2 66 = .ok (.iconst 1, 1) := dk_4 (dk_at dksJ8_append_2_2 20 rfl rfl)
theorem dJ8_append_2_67 : decode cJ8_append_2 67 = .ok (.iadd, 1) := dk_96 (dk_at dksJ8_append_2_2 21 rfl rfl)
theorem dJ8_append_2_68 : decode cJ8_append_2 68 = .ok (.putfield 79, 3) := dk_181 0 79 (dk_at dksJ8_append_2_3 0 rfl rfl)
theorem dJ8_append_2_71 : decode cJ8_append_2 71 = .ok (.iload_n 1, 1) := dk_27 (dk_at dksJ8_append_2_3 3 rfl rfl)
theorem dJ8_append_2_72 : decode cJ8_append_2 72 = .ok (.invokestatic 197, 3) := dk_184 0 197 (dk_at dksJ8_append_2_3 4 rfl rfl)
theorem dJ8_append_2_75 : decode cJ8_append_2 75 = .ok (.aload_n 0, 1) := dk_42 (dk_at dksJ8_append_2_3 7 rfl rfl)
theorem dJ8_append_2_76 : decode cJ8_append_2 76 = .ok (.areturn, 1) := dk_176 (dk_at dksJ8_append_2_3 8 rfl rfl)
abbrev cJ8_getValue : ByteArray := prog_5_method_64_code
def yJ8_getValue : MethodName := ⟨RJ8, "getValue", "()[B"⟩
theorem dJ8_getValue_0 : decode cJ8_getValue 0 = .ok (.aload_n 0, 1) := by decide +kernel
theorem dJ8_getValue_1 : decode cJ8_getValue 1 = .ok (.getfield 15, 3) := by decide +kernel
theorem dJ8_getValue_4 : decode cJ8_getValue 4 = .ok (.areturn, 1) := by decide +kernel
abbrev cJ8_setCharAt : ByteArray := prog_5_method_20_code
def yJ8_setCharAt : MethodName := ⟨RJ8, "setCharAt", "(IC)V"⟩
def dkwJ8_setCharAt_2 : List UInt8 := [180, 0, 15, 27, 28, 184, 0, 197, 42, 4, 181, 0, 73, 177]
abbrev dktJ8_setCharAt_2 : List UInt8 := dkwJ8_setCharAt_2 ++ []
def dkwJ8_setCharAt_1 : List UInt8 := [180, 0, 15, 27, 28, 145, 84, 167, 0, 28, 42, 182, 0, 83, 153, 0, 7, 42, 182, 0, 195, 42]
abbrev dktJ8_setCharAt_1 : List UInt8 := dkwJ8_setCharAt_1 ++ dktJ8_setCharAt_2
def dkwJ8_setCharAt_0 : List UInt8 := [27, 42, 180, 0, 79, 184, 0, 144, 42, 182, 0, 83, 153, 0, 21, 28, 184, 0, 191, 153, 0, 14, 42]
abbrev dktJ8_setCharAt_0 : List UInt8 := dkwJ8_setCharAt_0 ++ dktJ8_setCharAt_1
theorem dksJ8_setCharAt_0 : cJ8_setCharAt.data.toList.drop 0 = dktJ8_setCharAt_0 := by decide +kernel
theorem dksJ8_setCharAt_1 : cJ8_setCharAt.data.toList.drop 23 = dktJ8_setCharAt_1 := dk_seg dksJ8_setCharAt_0 23 rfl rfl
theorem dksJ8_setCharAt_2 : cJ8_setCharAt.data.toList.drop 45 = dktJ8_setCharAt_2 := dk_seg dksJ8_setCharAt_1 22 rfl rfl
theorem dJ8_setCharAt_0 : decode cJ8_setCharAt 0 = .ok (.iload_n 1, 1) := dk_27 (dk_at dksJ8_setCharAt_0 0 rfl rfl)
theorem dJ8_setCharAt_1 : decode cJ8_setCharAt 1 = .ok (.aload_n 0, 1) := dk_42 (dk_at dksJ8_setCharAt_0 1 rfl rfl)
theorem dJ8_setCharAt_2 : decode cJ8_setCharAt 2 = .ok (.getfield 79, 3) := dk_180 0 79 (dk_at dksJ8_setCharAt_0 2 rfl rfl)
theorem dJ8_setCharAt_5 : decode cJ8_setCharAt 5 = .ok (.invokestatic 144, 3) := dk_184 0 144 (dk_at dksJ8_setCharAt_0 5 rfl rfl)
theorem dJ8_setCharAt_8 : decode cJ8_setCharAt 8 = .ok (.aload_n 0, 1) := dk_42 (dk_at dksJ8_setCharAt_0 8 rfl rfl)
theorem dJ8_setCharAt_9 : decode cJ8_setCharAt 9 = .ok (.invokevirtual 83, 3) := dk_182 0 83 (dk_at dksJ8_setCharAt_0 9 rfl rfl)
theorem dJ8_setCharAt_12 : decode cJ8_setCharAt 12 = .ok (.ifCond .eq 21, 3) := dk_153 0 21 (dk_at dksJ8_setCharAt_0 12 rfl rfl)
theorem dJ8_setCharAt_15 : decode cJ8_setCharAt 15 = .ok (.iload_n 2, 1) := dk_28 (dk_at dksJ8_setCharAt_0 15 rfl rfl)
theorem dJ8_setCharAt_16 : decode cJ8_setCharAt 16 = .ok (.invokestatic 191, 3) := dk_184 0 191 (dk_at dksJ8_setCharAt_0 16 rfl rfl)
theorem dJ8_setCharAt_19 : decode cJ8_setCharAt 19 = .ok (.ifCond .eq 14, 3) := dk_153 0 14 (dk_at dksJ8_setCharAt_0 19 rfl rfl)
theorem dJ8_setCharAt_22 : decode cJ8_setCharAt 22 = .ok (.aload_n 0, 1) := dk_42 (dk_at dksJ8_setCharAt_0 22 rfl rfl)
theorem dJ8_setCharAt_23 : decode cJ8_setCharAt 23 = .ok (.getfield 15, 3) := dk_180 0 15 (dk_at dksJ8_setCharAt_1 0 rfl rfl)
theorem dJ8_setCharAt_26 : decode cJ8_setCharAt 26 = .ok (.iload_n 1, 1) := dk_27 (dk_at dksJ8_setCharAt_1 3 rfl rfl)
theorem dJ8_setCharAt_27 : decode cJ8_setCharAt 27 = .ok (.iload_n 2, 1) := dk_28 (dk_at dksJ8_setCharAt_1 4 rfl rfl)
theorem dJ8_setCharAt_28 : decode cJ8_setCharAt 28 = .ok (.i2b, 1) := dk_145 (dk_at dksJ8_setCharAt_1 5 rfl rfl)
theorem dJ8_setCharAt_29 : decode cJ8_setCharAt 29 = .ok (.bastore, 1) := dk_84 (dk_at dksJ8_setCharAt_1 6 rfl rfl)
theorem dJ8_setCharAt_30 : decode cJ8_setCharAt 30 = .ok (.goto 28, 3) := dk_167 0 28 (dk_at dksJ8_setCharAt_1 7 rfl rfl)
theorem dJ8_setCharAt_33 : decode cJ8_setCharAt 33 = .ok (.aload_n 0, 1) := dk_42 (dk_at dksJ8_setCharAt_1 10 rfl rfl)
theorem dJ8_setCharAt_34 : decode cJ8_setCharAt 34 = .ok (.invokevirtual 83, 3) := dk_182 0 83 (dk_at dksJ8_setCharAt_1 11 rfl rfl)
theorem dJ8_setCharAt_37 : decode cJ8_setCharAt 37 = .ok (.ifCond .eq 7, 3) := dk_153 0 7 (dk_at dksJ8_setCharAt_1 14 rfl rfl)
theorem dJ8_setCharAt_40 : decode cJ8_setCharAt 40 = .ok (.aload_n 0, 1) := dk_42 (dk_at dksJ8_setCharAt_1 17 rfl rfl)
theorem dJ8_setCharAt_41 : decode cJ8_setCharAt 41 = .ok (.invokevirtual 195, 3) := dk_182 0 195 (dk_at dksJ8_setCharAt_1 18 rfl rfl)
theorem dJ8_setCharAt_44 : decode cJ8_setCharAt 44 = .ok (.aload_n 0, 1) := dk_42 (dk_at dksJ8_setCharAt_1 21 rfl rfl)
theorem dJ8_setCharAt_45 : decode cJ8_setCharAt 45 = .ok (.getfield 15, 3) := dk_180 0 15 (dk_at dksJ8_setCharAt_2 0 rfl rfl)
theorem dJ8_setCharAt_48 : decode cJ8_setCharAt 48 = .ok (.iload_n 1, 1) := dk_27 (dk_at dksJ8_setCharAt_2 3 rfl rfl)
theorem dJ8_setCharAt_49 : decode cJ8_setCharAt 49 = .ok (.iload_n 2, 1) := dk_28 (dk_at dksJ8_setCharAt_2 4 rfl rfl)
theorem dJ8_setCharAt_50 : decode cJ8_setCharAt 50 = .ok (.invokestatic 197, 3) := dk_184 0 197 (dk_at dksJ8_setCharAt_2 5 rfl rfl)
theorem dJ8_setCharAt_53 : decode cJ8_setCharAt 53 = .ok (.aload_n 0, 1) := dk_42 (dk_at dksJ8_setCharAt_2 8 rfl rfl)
theorem dJ8_setCharAt_54 : decode cJ8_setCharAt 54 = .ok (.iconst 1, 1) := dk_4 (dk_at dksJ8_setCharAt_2 9 rfl rfl)
theorem dJ8_setCharAt_55 : decode cJ8_setCharAt 55 = .ok (.putfield 73, 3) := dk_181 0 73 (dk_at dksJ8_setCharAt_2 10 rfl rfl)
theorem dJ8_setCharAt_58 : decode cJ8_setCharAt 58 = .ok (.return_, 1) := dk_177 (dk_at dksJ8_setCharAt_2 13 rfl rfl)
theorem q13 : (Jvm.Cond.initialized "java/lang/AbstractStringBuilder") ∈ lw_all := lw_g (lw_at lw_m1 12 rfl) rfl
theorem q297 : (Jvm.Cond.instanceMethod ({ cls := "java/lang/AbstractStringBuilder", name := "<init>", desc := "(I)V" } : Jvm.MethodName)) ∈ lw_all := lw_g (lw_at lw_m2 56 rfl) rfl
theorem q298 : (Jvm.Cond.code ({ cls := "java/lang/AbstractStringBuilder", name := "<init>", desc := "(I)V" } : Jvm.MethodName) prog_5_method_2_code (2 : Nat) (Option.none : Option Jvm.ClassFile.FieldType)) ∈ lw_all := lw_g (lw_at lw_m2 57 rfl) rfl
theorem q299 : (Jvm.Cond.methodLink "java/lang/AbstractStringBuilder" (3 : Nat) ({ cls := "java/lang/Object", name := "<init>", desc := "()V" } : Jvm.MethodName)) ∈ lw_all := lw_g (lw_at lw_m2 58 rfl) rfl
theorem q300 : (Jvm.Cond.fieldLink "java/lang/AbstractStringBuilder" (18 : Nat) "java/lang/String" "COMPACT_STRINGS" "Z") ∈ lw_all := lw_g (lw_at lw_m2 59 rfl) rfl
theorem q301 : (Jvm.Cond.methodLink "java/lang/AbstractStringBuilder" (26 : Nat) ({ cls := "java/lang/StringUTF16", name := "newBytesFor", desc := "(I)[B" } : Jvm.MethodName)) ∈ lw_all := lw_g (lw_at lw_m2 60 rfl) rfl
theorem q302 : (Jvm.Cond.fieldLink "java/lang/AbstractStringBuilder" (15 : Nat) "java/lang/AbstractStringBuilder" "value" "[B") ∈ lw_all := lw_g (lw_at lw_m2 61 rfl) rfl
theorem q303 : (Jvm.Cond.fieldLink "java/lang/AbstractStringBuilder" (22 : Nat) "java/lang/AbstractStringBuilder" "coder" "B") ∈ lw_all := lw_g (lw_at lw_m2 62 rfl) rfl
theorem q304 : (Jvm.Cond.fieldLink "java/lang/AbstractStringBuilder" (73 : Nat) "java/lang/AbstractStringBuilder" "maybeLatin1" "Z") ∈ lw_all := lw_g (lw_at lw_m2 63 rfl) rfl
theorem q306 : (Jvm.Cond.fieldLink "java/lang/AbstractStringBuilder" (79 : Nat) "java/lang/AbstractStringBuilder" "count" "I") ∈ lw_all := lw_g (lw_at lw_m2 65 rfl) rfl
theorem q308 : (Jvm.Cond.soleField "java/lang/AbstractStringBuilder" "value") ∈ lw_all := lw_g (lw_at lw_m2 67 rfl) rfl
theorem q310 : (Jvm.Cond.soleField "java/lang/AbstractStringBuilder" "coder") ∈ lw_all := lw_g (lw_at lw_m2 69 rfl) rfl
theorem q312 : (Jvm.Cond.soleField "java/lang/AbstractStringBuilder" "maybeLatin1") ∈ lw_all := lw_g (lw_at lw_m2 71 rfl) rfl
theorem q314 : (Jvm.Cond.soleField "java/lang/AbstractStringBuilder" "count") ∈ lw_all := lw_g (lw_at lw_m2 73 rfl) rfl
theorem q321 : (Jvm.Cond.instanceMethod ({ cls := "java/lang/AbstractStringBuilder", name := "append", desc := "(Ljava/lang/String;)Ljava/lang/AbstractStringBuilder;" } : Jvm.MethodName)) ∈ lw_all := lw_g (lw_at lw_m2 80 rfl) rfl
theorem q322 : (Jvm.Cond.code ({ cls := "java/lang/AbstractStringBuilder", name := "append", desc := "(Ljava/lang/String;)Ljava/lang/AbstractStringBuilder;" } : Jvm.MethodName) prog_5_method_22_code (3 : Nat) (Option.some (Jvm.ClassFile.FieldType.object "java/lang/AbstractStringBuilder"))) ∈ lw_all := lw_g (lw_at lw_m2 81 rfl) rfl
theorem q323 : (Jvm.Cond.methodLink "java/lang/AbstractStringBuilder" (204 : Nat) ({ cls := "java/lang/AbstractStringBuilder", name := "appendNull", desc := "()Ljava/lang/AbstractStringBuilder;" } : Jvm.MethodName)) ∈ lw_all := lw_g (lw_at lw_m2 82 rfl) rfl
theorem q324 : (Jvm.Cond.privateMethod ({ cls := "java/lang/AbstractStringBuilder", name := "appendNull", desc := "()Ljava/lang/AbstractStringBuilder;" } : Jvm.MethodName)) ∈ lw_tbl := lw_at lw_m2 83 rfl
theorem q325 : (Jvm.Cond.instanceMethod ({ cls := "java/lang/AbstractStringBuilder", name := "appendNull", desc := "()Ljava/lang/AbstractStringBuilder;" } : Jvm.MethodName)) ∈ lw_all := lw_g (lw_at lw_m2 84 rfl) rfl
theorem q326 : (Jvm.Cond.code ({ cls := "java/lang/AbstractStringBuilder", name := "appendNull", desc := "()Ljava/lang/AbstractStringBuilder;" } : Jvm.MethodName) prog_5_method_26_code (3 : Nat) (Option.some (Jvm.ClassFile.FieldType.object "java/lang/AbstractStringBuilder"))) ∈ lw_all := lw_g (lw_at lw_m2 85 rfl) rfl
theorem q327 : (Jvm.Cond.methodLink "java/lang/AbstractStringBuilder" (100 : Nat) ({ cls := "java/lang/AbstractStringBuilder", name := "ensureCapacityInternal", desc := "(I)V" } : Jvm.MethodName)) ∈ lw_all := lw_g (lw_at lw_m2 86 rfl) rfl
theorem q328 : (Jvm.Cond.privateMethod ({ cls := "java/lang/AbstractStringBuilder", name := "ensureCapacityInternal", desc := "(I)V" } : Jvm.MethodName)) ∈ lw_tbl := lw_at lw_m2 87 rfl
theorem q329 : (Jvm.Cond.instanceMethod ({ cls := "java/lang/AbstractStringBuilder", name := "ensureCapacityInternal", desc := "(I)V" } : Jvm.MethodName)) ∈ lw_all := lw_g (lw_at lw_m2 88 rfl) rfl
theorem q330 : (Jvm.Cond.code ({ cls := "java/lang/AbstractStringBuilder", name := "ensureCapacityInternal", desc := "(I)V" } : Jvm.MethodName) prog_5_method_9_code (3 : Nat) (Option.none : Option Jvm.ClassFile.FieldType)) ∈ lw_all := lw_g (lw_at lw_m2 89 rfl) rfl
theorem q331 : (Jvm.Cond.methodLink "java/lang/AbstractStringBuilder" (104 : Nat) ({ cls := "java/lang/AbstractStringBuilder", name := "newCapacity", desc := "(I)I" } : Jvm.MethodName)) ∈ lw_all := lw_g (lw_at lw_m2 90 rfl) rfl
theorem q332 : (Jvm.Cond.privateMethod ({ cls := "java/lang/AbstractStringBuilder", name := "newCapacity", desc := "(I)I" } : Jvm.MethodName)) ∈ lw_tbl := lw_at lw_m2 91 rfl
theorem q333 : (Jvm.Cond.instanceMethod ({ cls := "java/lang/AbstractStringBuilder", name := "newCapacity", desc := "(I)I" } : Jvm.MethodName)) ∈ lw_all := lw_g (lw_at lw_m2 92 rfl) rfl
theorem q334 : (Jvm.Cond.code ({ cls := "java/lang/AbstractStringBuilder", name := "newCapacity", desc := "(I)I" } : Jvm.MethodName) prog_5_method_10_code (6 : Nat) (Option.some Jvm.ClassFile.FieldType.int)) ∈ lw_all := lw_g (lw_at lw_m2 93 rfl) rfl
theorem q335 : (Jvm.Cond.methodLink "java/lang/AbstractStringBuilder" (114 : Nat) ({ cls := "jdk/internal/util/ArraysSupport", name := "newLength", desc := "(III)I" } : Jvm.MethodName)) ∈ lw_all := lw_g (lw_at lw_m2 94 rfl) rfl
theorem q345 : (Jvm.Cond.constant "java/lang/AbstractStringBuilder" (39 : Nat) (2147483647 : Int32)) ∈ lw_all := lw_g (lw_at lw_m2 104 rfl) rfl
theorem q346 : (Jvm.Cond.methodLink "java/lang/AbstractStringBuilder" (108 : Nat) ({ cls := "java/util/Arrays", name := "copyOf", desc := "([BI)[B" } : Jvm.MethodName)) ∈ lw_all := lw_g (lw_at lw_m2 105 rfl) rfl
theorem q362 : (Jvm.Cond.methodLink "java/lang/AbstractStringBuilder" (83 : Nat) ({ cls := "java/lang/AbstractStringBuilder", name := "isLatin1", desc := "()Z" } : Jvm.MethodName)) ∈ lw_all := lw_g (lw_at lw_m2 121 rfl) rfl
theorem q363 : (Jvm.Cond.instanceMethod ({ cls := "java/lang/AbstractStringBuilder", name := "isLatin1", desc := "()Z" } : Jvm.MethodName)) ∈ lw_all := lw_g (lw_at lw_m2 122 rfl) rfl
theorem q364 : (Jvm.Cond.sameMethod "java/lang/AbstractStringBuilder" "java/lang/AbstractStringBuilder" "isLatin1" "()Z") ∈ lw_all := lw_g (lw_at lw_m2 123 rfl) rfl
theorem q366 : (Jvm.Cond.code ({ cls := "java/lang/AbstractStringBuilder", name := "isLatin1", desc := "()Z" } : Jvm.MethodName) prog_5_method_68_code (1 : Nat) (Option.some Jvm.ClassFile.FieldType.boolean)) ∈ lw_all := lw_g (lw_at lw_m2 125 rfl) rfl
theorem q367 : (Jvm.Cond.methodLink "java/lang/AbstractStringBuilder" (226 : Nat) ({ cls := "java/lang/StringUTF16", name := "putCharsAt", desc := "([BICCCC)I" } : Jvm.MethodName)) ∈ lw_all := lw_g (lw_at lw_m2 126 rfl) rfl
theorem q379 : (Jvm.Cond.methodLink "java/lang/AbstractStringBuilder" (32 : Nat) ({ cls := "java/lang/String", name := "length", desc := "()I" } : Jvm.MethodName)) ∈ lw_all := lw_g (lw_at lw_m2 138 rfl) rfl
theorem q380 : (Jvm.Cond.methodLink "java/lang/AbstractStringBuilder" (208 : Nat) ({ cls := "java/lang/AbstractStringBuilder", name := "putStringAt", desc := "(ILjava/lang/String;)V" } : Jvm.MethodName)) ∈ lw_all := lw_g (lw_at lw_m2 139 rfl) rfl
theorem q381 : (Jvm.Cond.privateMethod ({ cls := "java/lang/AbstractStringBuilder", name := "putStringAt", desc := "(ILjava/lang/String;)V" } : Jvm.MethodName)) ∈ lw_tbl := lw_at lw_m2 140 rfl
theorem q382 : (Jvm.Cond.instanceMethod ({ cls := "java/lang/AbstractStringBuilder", name := "putStringAt", desc := "(ILjava/lang/String;)V" } : Jvm.MethodName)) ∈ lw_all := lw_g (lw_at lw_m2 141 rfl) rfl
theorem q383 : (Jvm.Cond.code ({ cls := "java/lang/AbstractStringBuilder", name := "putStringAt", desc := "(ILjava/lang/String;)V" } : Jvm.MethodName) prog_5_method_73_code (3 : Nat) (Option.none : Option Jvm.ClassFile.FieldType)) ∈ lw_all := lw_g (lw_at lw_m2 142 rfl) rfl
theorem q384 : (Jvm.Cond.methodLink "java/lang/AbstractStringBuilder" (397 : Nat) ({ cls := "java/lang/AbstractStringBuilder", name := "inflateIfNeededFor", desc := "(Ljava/lang/String;)V" } : Jvm.MethodName)) ∈ lw_all := lw_g (lw_at lw_m2 143 rfl) rfl
theorem q385 : (Jvm.Cond.privateMethod ({ cls := "java/lang/AbstractStringBuilder", name := "inflateIfNeededFor", desc := "(Ljava/lang/String;)V" } : Jvm.MethodName)) ∈ lw_tbl := lw_at lw_m2 144 rfl
theorem q386 : (Jvm.Cond.instanceMethod ({ cls := "java/lang/AbstractStringBuilder", name := "inflateIfNeededFor", desc := "(Ljava/lang/String;)V" } : Jvm.MethodName)) ∈ lw_all := lw_g (lw_at lw_m2 145 rfl) rfl
theorem q387 : (Jvm.Cond.code ({ cls := "java/lang/AbstractStringBuilder", name := "inflateIfNeededFor", desc := "(Ljava/lang/String;)V" } : Jvm.MethodName) prog_5_method_71_code (2 : Nat) (Option.none : Option Jvm.ClassFile.FieldType)) ∈ lw_all := lw_g (lw_at lw_m2 146 rfl) rfl
theorem q388 : (Jvm.Cond.methodLink "java/lang/AbstractStringBuilder" (40 : Nat) ({ cls := "java/lang/String", name := "coder", desc := "()B" } : Jvm.MethodName)) ∈ lw_all := lw_g (lw_at lw_m2 147 rfl) rfl
theorem q389 : (Jvm.Cond.methodLink "java/lang/AbstractStringBuilder" (195 : Nat) ({ cls := "java/lang/AbstractStringBuilder", name := "inflate", desc := "()V" } : Jvm.MethodName)) ∈ lw_all := lw_g (lw_at lw_m2 148 rfl) rfl
theorem q390 : (Jvm.Cond.privateMethod ({ cls := "java/lang/AbstractStringBuilder", name := "inflate", desc := "()V" } : Jvm.MethodName)) ∈ lw_tbl := lw_at lw_m2 149 rfl
theorem q391 : (Jvm.Cond.instanceMethod ({ cls := "java/lang/AbstractStringBuilder", name := "inflate", desc := "()V" } : Jvm.MethodName)) ∈ lw_all := lw_g (lw_at lw_m2 150 rfl) rfl
theorem q392 : (Jvm.Cond.code ({ cls := "java/lang/AbstractStringBuilder", name := "inflate", desc := "()V" } : Jvm.MethodName) prog_5_method_11_code (2 : Nat) (Option.none : Option Jvm.ClassFile.FieldType)) ∈ lw_all := lw_g (lw_at lw_m2 151 rfl) rfl
theorem q393 : (Jvm.Cond.methodLink "java/lang/AbstractStringBuilder" (125 : Nat) ({ cls := "java/lang/StringLatin1", name := "inflate", desc := "([BI[BII)V" } : Jvm.MethodName)) ∈ lw_all := lw_g (lw_at lw_m2 152 rfl) rfl
theorem q399 : (Jvm.Cond.methodLink "java/lang/AbstractStringBuilder" (399 : Nat) ({ cls := "java/lang/String", name := "getBytes", desc := "([BIB)V" } : Jvm.MethodName)) ∈ lw_all := lw_g (lw_at lw_m2 158 rfl) rfl
theorem q432 : (Jvm.Cond.instanceMethod ({ cls := "java/lang/AbstractStringBuilder", name := "length", desc := "()I" } : Jvm.MethodName)) ∈ lw_all := lw_g (lw_at lw_m2 191 rfl) rfl
theorem q433 : (Jvm.Cond.code ({ cls := "java/lang/AbstractStringBuilder", name := "length", desc := "()I" } : Jvm.MethodName) prog_5_method_6_code (1 : Nat) (Option.some Jvm.ClassFile.FieldType.int)) ∈ lw_all := lw_g (lw_at lw_m2 192 rfl) rfl
theorem q447 : (Jvm.Cond.instanceMethod ({ cls := "java/lang/AbstractStringBuilder", name := "charAt", desc := "(I)C" } : Jvm.MethodName)) ∈ lw_all := lw_g (lw_at lw_m2 206 rfl) rfl
theorem q448 : (Jvm.Cond.code ({ cls := "java/lang/AbstractStringBuilder", name := "charAt", desc := "(I)C" } : Jvm.MethodName) prog_5_method_14_code (5 : Nat) (Option.some Jvm.ClassFile.FieldType.char)) ∈ lw_all := lw_g (lw_at lw_m2 207 rfl) rfl
theorem q449 : (Jvm.Cond.methodLink "java/lang/AbstractStringBuilder" (138 : Nat) ({ cls := "java/lang/Math", name := "min", desc := "(II)I" } : Jvm.MethodName)) ∈ lw_all := lw_g (lw_at lw_m2 208 rfl) rfl
theorem q450 : (Jvm.Cond.methodLink "java/lang/AbstractStringBuilder" (144 : Nat) ({ cls := "java/lang/String", name := "checkIndex", desc := "(II)V" } : Jvm.MethodName)) ∈ lw_all := lw_g (lw_at lw_m2 209 rfl) rfl
theorem q451 : (Jvm.Cond.methodLink "java/lang/AbstractStringBuilder" (148 : Nat) ({ cls := "java/lang/StringUTF16", name := "getChar", desc := "([BI)C" } : Jvm.MethodName)) ∈ lw_all := lw_g (lw_at lw_m2 210 rfl) rfl
theorem q468 : (Jvm.Cond.instanceMethod ({ cls := "java/lang/AbstractStringBuilder", name := "capacity", desc := "()I" } : Jvm.MethodName)) ∈ lw_all := lw_g (lw_at lw_m2 227 rfl) rfl
theorem q469 : (Jvm.Cond.code ({ cls := "java/lang/AbstractStringBuilder", name := "capacity", desc := "()I" } : Jvm.MethodName) prog_5_method_7_code (1 : Nat) (Option.some Jvm.ClassFile.FieldType.int)) ∈ lw_all := lw_g (lw_at lw_m2 228 rfl) rfl
theorem q475 : (Jvm.Cond.instanceMethod ({ cls := "java/lang/AbstractStringBuilder", name := "setLength", desc := "(I)V" } : Jvm.MethodName)) ∈ lw_all := lw_g (lw_at lw_m2 234 rfl) rfl
theorem q476 : (Jvm.Cond.code ({ cls := "java/lang/AbstractStringBuilder", name := "setLength", desc := "(I)V" } : Jvm.MethodName) prog_5_method_13_code (2 : Nat) (Option.none : Option Jvm.ClassFile.FieldType)) ∈ lw_all := lw_g (lw_at lw_m2 235 rfl) rfl
theorem q477 : (Jvm.Cond.methodLink "java/lang/AbstractStringBuilder" (133 : Nat) ({ cls := "java/lang/StringLatin1", name := "fillNull", desc := "([BII)V" } : Jvm.MethodName)) ∈ lw_all := lw_g (lw_at lw_m2 236 rfl) rfl
theorem q486 : (Jvm.Cond.methodLink "java/lang/AbstractStringBuilder" (137 : Nat) ({ cls := "java/lang/StringUTF16", name := "fillNull", desc := "([BII)V" } : Jvm.MethodName)) ∈ lw_all := lw_g (lw_at lw_m3 5 rfl) rfl
theorem q504 : (Jvm.Cond.instanceMethod ({ cls := "java/lang/AbstractStringBuilder", name := "append", desc := "(C)Ljava/lang/AbstractStringBuilder;" } : Jvm.MethodName)) ∈ lw_all := lw_g (lw_at lw_m3 23 rfl) rfl
theorem q505 : (Jvm.Cond.code ({ cls := "java/lang/AbstractStringBuilder", name := "append", desc := "(C)Ljava/lang/AbstractStringBuilder;" } : Jvm.MethodName) prog_5_method_31_code (2 : Nat) (Option.some (Jvm.ClassFile.FieldType.object "java/lang/AbstractStringBuilder"))) ∈ lw_all := lw_g (lw_at lw_m3 24 rfl) rfl
theorem q506 : (Jvm.Cond.methodLink "java/lang/AbstractStringBuilder" (191 : Nat) ({ cls := "java/lang/StringLatin1", name := "canEncode", desc := "(C)Z" } : Jvm.MethodName)) ∈ lw_all := lw_g (lw_at lw_m3 25 rfl) rfl
theorem q509 : (Jvm.Cond.methodLink "java/lang/AbstractStringBuilder" (197 : Nat) ({ cls := "java/lang/StringUTF16", name := "putCharSB", desc := "([BII)V" } : Jvm.MethodName)) ∈ lw_all := lw_g (lw_at lw_m3 28 rfl) rfl
theorem q524 : (Jvm.Cond.instanceMethod ({ cls := "java/lang/AbstractStringBuilder", name := "getValue", desc := "()[B" } : Jvm.MethodName)) ∈ lw_all := lw_g (lw_at lw_m3 43 rfl) rfl
theorem q525 : (Jvm.Cond.sameMethod "java/lang/AbstractStringBuilder" "java/lang/AbstractStringBuilder" "getValue" "()[B") ∈ lw_all := lw_g (lw_at lw_m3 44 rfl) rfl
theorem q527 : (Jvm.Cond.code ({ cls := "java/lang/AbstractStringBuilder", name := "getValue", desc := "()[B" } : Jvm.MethodName) prog_5_method_64_code (1 : Nat) (Option.some (Jvm.ClassFile.FieldType.array Jvm.ClassFile.FieldType.byte))) ∈ lw_all := lw_g (lw_at lw_m3 46 rfl) rfl
theorem q548 : (Jvm.Cond.instanceMethod ({ cls := "java/lang/AbstractStringBuilder", name := "setCharAt", desc := "(IC)V" } : Jvm.MethodName)) ∈ lw_all := lw_g (lw_at lw_m3 67 rfl) rfl
theorem q549 : (Jvm.Cond.code ({ cls := "java/lang/AbstractStringBuilder", name := "setCharAt", desc := "(IC)V" } : Jvm.MethodName) prog_5_method_20_code (3 : Nat) (Option.none : Option Jvm.ClassFile.FieldType)) ∈ lw_all := lw_g (lw_at lw_m3 68 rfl) rfl
theorem q558 : (Jvm.Cond.sameMethod "java/lang/AbstractStringBuilder" "java/lang/AbstractStringBuilder" "append" "(Ljava/lang/String;)Ljava/lang/AbstractStringBuilder;") ∈ lw_all := lw_g (lw_at lw_m3 77 rfl) rfl
theorem q559 : (Jvm.Cond.sameMethod "java/lang/AbstractStringBuilder" "java/lang/AbstractStringBuilder" "appendNull" "()Ljava/lang/AbstractStringBuilder;") ∈ lw_all := lw_g (lw_at lw_m3 78 rfl) rfl
theorem q560 : (Jvm.Cond.sameMethod "java/lang/AbstractStringBuilder" "java/lang/AbstractStringBuilder" "ensureCapacityInternal" "(I)V") ∈ lw_all := lw_g (lw_at lw_m3 79 rfl) rfl
theorem q561 : (Jvm.Cond.sameMethod "java/lang/AbstractStringBuilder" "java/lang/AbstractStringBuilder" "newCapacity" "(I)I") ∈ lw_all := lw_g (lw_at lw_m3 80 rfl) rfl
theorem q562 : (Jvm.Cond.sameMethod "java/lang/AbstractStringBuilder" "java/lang/AbstractStringBuilder" "putStringAt" "(ILjava/lang/String;)V") ∈ lw_all := lw_g (lw_at lw_m3 81 rfl) rfl
theorem q563 : (Jvm.Cond.sameMethod "java/lang/AbstractStringBuilder" "java/lang/AbstractStringBuilder" "inflateIfNeededFor" "(Ljava/lang/String;)V") ∈ lw_all := lw_g (lw_at lw_m3 82 rfl) rfl
theorem q564 : (Jvm.Cond.sameMethod "java/lang/AbstractStringBuilder" "java/lang/AbstractStringBuilder" "inflate" "()V") ∈ lw_all := lw_g (lw_at lw_m3 83 rfl) rfl
theorem q565 : (Jvm.Cond.sameMethod "java/lang/AbstractStringBuilder" "java/lang/AbstractStringBuilder" "length" "()I") ∈ lw_all := lw_g (lw_at lw_m3 84 rfl) rfl
theorem q566 : (Jvm.Cond.sameMethod "java/lang/AbstractStringBuilder" "java/lang/AbstractStringBuilder" "charAt" "(I)C") ∈ lw_all := lw_g (lw_at lw_m3 85 rfl) rfl
theorem q567 : (Jvm.Cond.sameMethod "java/lang/AbstractStringBuilder" "java/lang/AbstractStringBuilder" "capacity" "()I") ∈ lw_all := lw_g (lw_at lw_m3 86 rfl) rfl
theorem q568 : (Jvm.Cond.sameMethod "java/lang/AbstractStringBuilder" "java/lang/AbstractStringBuilder" "setLength" "(I)V") ∈ lw_all := lw_g (lw_at lw_m3 87 rfl) rfl
theorem q569 : (Jvm.Cond.sameMethod "java/lang/AbstractStringBuilder" "java/lang/AbstractStringBuilder" "append" "(C)Ljava/lang/AbstractStringBuilder;") ∈ lw_all := lw_g (lw_at lw_m3 88 rfl) rfl
theorem q571 : (Jvm.Cond.sameMethod "java/lang/AbstractStringBuilder" "java/lang/AbstractStringBuilder" "setCharAt" "(IC)V") ∈ lw_all := lw_g (lw_at lw_m3 90 rfl) rfl
/-! java/lang/StringBuilder -/
set_option maxRecDepth 100000
def RJ9 : String := "java/lang/StringBuilder"
def TJ9 : u_T := fun k => match k with
  | 0 => ("java/lang/AbstractStringBuilder", "value", "[B", false)
  | 1 => ("java/lang/AbstractStringBuilder", "coder", "B", false)
  | 2 => ("java/lang/AbstractStringBuilder", "maybeLatin1", "Z", false)
  | _ => ("java/lang/AbstractStringBuilder", "count", "I", false)
def tyJ9 : Nat → FieldType := fun k => match k with
  | 0 => .array .byte
  | 1 => .byte
  | 2 => .boolean
  | _ => .int
abbrev wsJ90 : List Cond := u_ws RJ9 TJ9 4
theorem nmJ9 : ∀ a, a < 4 → ∀ b, b < 4 → a ≠ b → (TJ9 a).2.1 ≠ (TJ9 b).2.1 := by decide +kernel
theorem tyJ9_ok : ∀ k, k < 4 → parseFieldDescriptor (TJ9 k).2.2.1 = some (tyJ9 k) := by decide +kernel
abbrev cJ9_init : ByteArray := prog_13_method_2_code
def yJ9_init : MethodName := ⟨RJ9, "<init>", "(I)V"⟩
def dkwJ9_init_0 : List UInt8 := [42, 27, 183, 0, 1, 177]
abbrev dktJ9_init_0 : List UInt8 := dkwJ9_init_0 ++ []
theorem dksJ9_init_0 : cJ9_init.data.toList.drop 0 = dktJ9_init_0 := by decide +kernel
theorem dJ9_init_0 : decode cJ9_init 0 = .ok (.aload_n 0, 1) := dk_42 (dk_at dksJ9_init_0 0 rfl rfl)
theorem dJ9_init_1 : decode cJ9_init 1 = .ok (.iload_n 1, 1) := dk_27 (dk_at dksJ9_init_0 1 rfl rfl)
theorem dJ9_init_2 : decode cJ9_init 2 = .ok (.invokespecial 1, 3) := dk_183 0 1 (dk_at dksJ9_init_0 2 rfl rfl)
theorem dJ9_init_5 : decode cJ9_init 5 = .ok (.return_, 1) := dk_177 (dk_at dksJ9_init_0 5 rfl rfl)
abbrev cJ9_append : ByteArray := prog_13_method_7_code
def yJ9_append : MethodName := ⟨RJ9, "append", "(Ljava/lang/String;)Ljava/lang/StringBuilder;"⟩
def dkwJ9_append_0 : List UInt8 := [42, 43, 183, 0, 29, 87, 42, 176]
abbrev dktJ9_append_0 : List UInt8 := dkwJ9_append_0 ++ []
theorem dksJ9_append_0 : cJ9_append.data.toList.drop 0 = dktJ9_append_0 := by decide +kernel
theorem dJ9_append_0 : decode cJ9_append 0 = .ok (.aload_n 0, 1) := dk_42 (dk_at dksJ9_append_0 0 rfl rfl)
theorem dJ9_append_1 : decode cJ9_append 1 = .ok (.aload_n 1, 1) := dk_43 (dk_at dksJ9_append_0 1 rfl rfl)
theorem dJ9_append_2 : decode cJ9_append 2 = .ok (.invokespecial 29, 3) := dk_183 0 29 (dk_at dksJ9_append_0 2 rfl rfl)
theorem dJ9_append_5 : decode cJ9_append 5 = .ok (.pop, 1) := dk_87 (dk_at dksJ9_append_0 5 rfl rfl)
theorem dJ9_append_6 : decode cJ9_append 6 = .ok (.aload_n 0, 1) := dk_42 (dk_at dksJ9_append_0 6 rfl rfl)
theorem dJ9_append_7 : decode cJ9_append 7 = .ok (.areturn, 1) := dk_176 (dk_at dksJ9_append_0 7 rfl rfl)
abbrev cJ9_length : ByteArray := prog_13_method_93_code
def yJ9_length : MethodName := ⟨RJ9, "length", "()I"⟩
theorem dJ9_length_0 : decode cJ9_length 0 = .ok (.aload_n 0, 1) := by decide +kernel
theorem dJ9_length_1 : decode cJ9_length 1 = .ok (.invokespecial 343, 3) := by decide +kernel
theorem dJ9_length_4 : decode cJ9_length 4 = .ok (.ireturn, 1) := by decide +kernel
abbrev cJ9_charAt : ByteArray := prog_13_method_88_code
def yJ9_charAt : MethodName := ⟨RJ9, "charAt", "(I)C"⟩
def dkwJ9_charAt_0 : List UInt8 := [42, 27, 183, 1, 73, 172]
abbrev dktJ9_charAt_0 : List UInt8 := dkwJ9_charAt_0 ++ []
theorem dksJ9_charAt_0 : cJ9_charAt.data.toList.drop 0 = dktJ9_charAt_0 := by decide +kernel
theorem dJ9_charAt_0 : decode cJ9_charAt 0 = .ok (.aload_n 0, 1) := dk_42 (dk_at dksJ9_charAt_0 0 rfl rfl)
theorem dJ9_charAt_1 : decode cJ9_charAt 1 = .ok (.iload_n 1, 1) := dk_27 (dk_at dksJ9_charAt_0 1 rfl rfl)
theorem dJ9_charAt_2 : decode cJ9_charAt 2 = .ok (.invokespecial 329, 3) := dk_183 1 73 (dk_at dksJ9_charAt_0 2 rfl rfl)
theorem dJ9_charAt_5 : decode cJ9_charAt 5 = .ok (.ireturn, 1) := dk_172 (dk_at dksJ9_charAt_0 5 rfl rfl)
abbrev cJ9_capacity : ByteArray := prog_13_method_92_code
def yJ9_capacity : MethodName := ⟨RJ9, "capacity", "()I"⟩
theorem dJ9_capacity_0 : decode cJ9_capacity 0 = .ok (.aload_n 0, 1) := by decide +kernel
theorem dJ9_capacity_1 : decode cJ9_capacity 1 = .ok (.invokespecial 342, 3) := by decide +kernel
theorem dJ9_capacity_4 : decode cJ9_capacity 4 = .ok (.ireturn, 1) := by decide +kernel
abbrev cJ9_setLength : ByteArray := prog_13_method_89_code
def yJ9_setLength : MethodName := ⟨RJ9, "setLength", "(I)V"⟩
def dkwJ9_setLength_0 : List UInt8 := [42, 27, 183, 1, 77, 177]
abbrev dktJ9_setLength_0 : List UInt8 := dkwJ9_setLength_0 ++ []
theorem dksJ9_setLength_0 : cJ9_setLength.data.toList.drop 0 = dktJ9_setLength_0 := by decide +kernel
theorem dJ9_setLength_0 : decode cJ9_setLength 0 = .ok (.aload_n 0, 1) := dk_42 (dk_at dksJ9_setLength_0 0 rfl rfl)
theorem dJ9_setLength_1 : decode cJ9_setLength 1 = .ok (.iload_n 1, 1) := dk_27 (dk_at dksJ9_setLength_0 1 rfl rfl)
theorem dJ9_setLength_2 : decode cJ9_setLength 2 = .ok (.invokespecial 333, 3) := dk_183 1 77 (dk_at dksJ9_setLength_0 2 rfl rfl)
theorem dJ9_setLength_5 : decode cJ9_setLength 5 = .ok (.return_, 1) := dk_177 (dk_at dksJ9_setLength_0 5 rfl rfl)
abbrev cJ9_append_2 : ByteArray := prog_13_method_14_code
def yJ9_append_2 : MethodName := ⟨RJ9, "append", "(C)Ljava/lang/StringBuilder;"⟩
def dkwJ9_append_2_0 : List UInt8 := [42, 27, 183, 0, 50, 87, 42, 176]
abbrev dktJ9_append_2_0 : List UInt8 := dkwJ9_append_2_0 ++ []
theorem dksJ9_append_2_0 : cJ9_append_2.data.toList.drop 0 = dktJ9_append_2_0 := by decide +kernel
theorem dJ9_append_2_0 : decode cJ9_append_2 0 = .ok (.aload_n 0, 1) := dk_42 (dk_at dksJ9_append_2_0 0 rfl rfl)
theorem dJ9_append_2_1 : decode cJ9_append_2 1 = .ok (.iload_n 1, 1) := dk_27 (dk_at dksJ9_append_2_0 1 rfl rfl)
theorem dJ9_append_2_2 : decode cJ9_append_2 2 = .ok (.invokespecial 50, 3) := dk_183 0 50 (dk_at dksJ9_append_2_0 2 rfl rfl)
theorem dJ9_append_2_5 : decode cJ9_append_2 5 = .ok (.pop, 1) := dk_87 (dk_at dksJ9_append_2_0 5 rfl rfl)
theorem dJ9_append_2_6 : decode cJ9_append_2 6 = .ok (.aload_n 0, 1) := dk_42 (dk_at dksJ9_append_2_0 6 rfl rfl)
theorem dJ9_append_2_7 : decode cJ9_append_2 7 = .ok (.areturn, 1) := dk_176 (dk_at dksJ9_append_2_0 7 rfl rfl)
abbrev cJ9_toString : ByteArray := prog_13_method_42_code
def yJ9_toString : MethodName := ⟨RJ9, "toString", "()Ljava/lang/String;"⟩
def dkwJ9_toString_0 : List UInt8 := [187, 0, 18, 89, 42, 183, 0, 137, 176]
abbrev dktJ9_toString_0 : List UInt8 := dkwJ9_toString_0 ++ []
theorem dksJ9_toString_0 : cJ9_toString.data.toList.drop 0 = dktJ9_toString_0 := by decide +kernel
theorem dJ9_toString_0 : decode cJ9_toString 0 = .ok (.new 18, 3) := dk_187 0 18 (dk_at dksJ9_toString_0 0 rfl rfl)
theorem dJ9_toString_3 : decode cJ9_toString 3 = .ok (.dup, 1) := dk_89 (dk_at dksJ9_toString_0 3 rfl rfl)
theorem dJ9_toString_4 : decode cJ9_toString 4 = .ok (.aload_n 0, 1) := dk_42 (dk_at dksJ9_toString_0 4 rfl rfl)
theorem dJ9_toString_5 : decode cJ9_toString 5 = .ok (.invokespecial 137, 3) := dk_183 0 137 (dk_at dksJ9_toString_0 5 rfl rfl)
theorem dJ9_toString_8 : decode cJ9_toString 8 = .ok (.areturn, 1) := dk_176 (dk_at dksJ9_toString_0 8 rfl rfl)
abbrev cJ9_setCharAt : ByteArray := prog_13_method_82_code
def yJ9_setCharAt : MethodName := ⟨RJ9, "setCharAt", "(IC)V"⟩
def dkwJ9_setCharAt_0 : List UInt8 := [42, 27, 28, 183, 1, 52, 177]
abbrev dktJ9_setCharAt_0 : List UInt8 := dkwJ9_setCharAt_0 ++ []
theorem dksJ9_setCharAt_0 : cJ9_setCharAt.data.toList.drop 0 = dktJ9_setCharAt_0 := by decide +kernel
theorem dJ9_setCharAt_0 : decode cJ9_setCharAt 0 = .ok (.aload_n 0, 1) := dk_42 (dk_at dksJ9_setCharAt_0 0 rfl rfl)
theorem dJ9_setCharAt_1 : decode cJ9_setCharAt 1 = .ok (.iload_n 1, 1) := dk_27 (dk_at dksJ9_setCharAt_0 1 rfl rfl)
theorem dJ9_setCharAt_2 : decode cJ9_setCharAt 2 = .ok (.iload_n 2, 1) := dk_28 (dk_at dksJ9_setCharAt_0 2 rfl rfl)
theorem dJ9_setCharAt_3 : decode cJ9_setCharAt 3 = .ok (.invokespecial 308, 3) := dk_183 1 52 (dk_at dksJ9_setCharAt_0 3 rfl rfl)
theorem dJ9_setCharAt_6 : decode cJ9_setCharAt 6 = .ok (.return_, 1) := dk_177 (dk_at dksJ9_setCharAt_0 6 rfl rfl)
theorem q14 : (Jvm.Cond.initialized "java/lang/StringBuilder") ∈ lw_all := lw_g (lw_at lw_m1 13 rfl) rfl
theorem q288 : (Jvm.Cond.instantiable "java/lang/StringBuilder" (4 : Nat)) ∈ lw_all := lw_g (lw_at lw_m2 47 rfl) rfl
theorem q294 : (Jvm.Cond.instanceMethod ({ cls := "java/lang/StringBuilder", name := "<init>", desc := "(I)V" } : Jvm.MethodName)) ∈ lw_all := lw_g (lw_at lw_m2 53 rfl) rfl
theorem q295 : (Jvm.Cond.code ({ cls := "java/lang/StringBuilder", name := "<init>", desc := "(I)V" } : Jvm.MethodName) prog_13_method_2_code (2 : Nat) (Option.none : Option Jvm.ClassFile.FieldType)) ∈ lw_all := lw_g (lw_at lw_m2 54 rfl) rfl
theorem q296 : (Jvm.Cond.methodLink "java/lang/StringBuilder" (1 : Nat) ({ cls := "java/lang/AbstractStringBuilder", name := "<init>", desc := "(I)V" } : Jvm.MethodName)) ∈ lw_all := lw_g (lw_at lw_m2 55 rfl) rfl
theorem q307 : (Jvm.Cond.lays "java/lang/StringBuilder" "java/lang/AbstractStringBuilder" "value" "[B") ∈ lw_all := lw_g (lw_at lw_m2 66 rfl) rfl
theorem q309 : (Jvm.Cond.lays "java/lang/StringBuilder" "java/lang/AbstractStringBuilder" "coder" "B") ∈ lw_all := lw_g (lw_at lw_m2 68 rfl) rfl
theorem q311 : (Jvm.Cond.lays "java/lang/StringBuilder" "java/lang/AbstractStringBuilder" "maybeLatin1" "Z") ∈ lw_all := lw_g (lw_at lw_m2 70 rfl) rfl
theorem q313 : (Jvm.Cond.lays "java/lang/StringBuilder" "java/lang/AbstractStringBuilder" "count" "I") ∈ lw_all := lw_g (lw_at lw_m2 72 rfl) rfl
theorem q315 : (Jvm.Cond.superclass "java/lang/StringBuilder" "java/lang/AbstractStringBuilder") ∈ lw_all := lw_g (lw_at lw_m2 74 rfl) rfl
theorem q317 : (Jvm.Cond.instanceMethod ({ cls := "java/lang/StringBuilder", name := "append", desc := "(Ljava/lang/String;)Ljava/lang/StringBuilder;" } : Jvm.MethodName)) ∈ lw_all := lw_g (lw_at lw_m2 76 rfl) rfl
theorem q318 : (Jvm.Cond.selects "java/lang/StringBuilder" ({ cls := "java/lang/StringBuilder", name := "append", desc := "(Ljava/lang/String;)Ljava/lang/StringBuilder;" } : Jvm.MethodName) ({ cls := "java/lang/StringBuilder", name := "append", desc := "(Ljava/lang/String;)Ljava/lang/StringBuilder;" } : Jvm.MethodName)) ∈ lw_all := lw_g (lw_at lw_m2 77 rfl) rfl
theorem q319 : (Jvm.Cond.code ({ cls := "java/lang/StringBuilder", name := "append", desc := "(Ljava/lang/String;)Ljava/lang/StringBuilder;" } : Jvm.MethodName) prog_13_method_7_code (2 : Nat) (Option.some (Jvm.ClassFile.FieldType.object "java/lang/StringBuilder"))) ∈ lw_all := lw_g (lw_at lw_m2 78 rfl) rfl
theorem q320 : (Jvm.Cond.methodLink "java/lang/StringBuilder" (29 : Nat) ({ cls := "java/lang/AbstractStringBuilder", name := "append", desc := "(Ljava/lang/String;)Ljava/lang/AbstractStringBuilder;" } : Jvm.MethodName)) ∈ lw_all := lw_g (lw_at lw_m2 79 rfl) rfl
theorem q365 : (Jvm.Cond.selects "java/lang/StringBuilder" ({ cls := "java/lang/AbstractStringBuilder", name := "isLatin1", desc := "()Z" } : Jvm.MethodName) ({ cls := "java/lang/AbstractStringBuilder", name := "isLatin1", desc := "()Z" } : Jvm.MethodName)) ∈ lw_all := lw_g (lw_at lw_m2 124 rfl) rfl
theorem q425 : (Jvm.Cond.castable "java/lang/StringBuilder" "java/lang/CharSequence") ∈ lw_tbl := lw_at lw_m2 184 rfl
theorem q426 : (Jvm.Cond.selects "java/lang/StringBuilder" ({ cls := "java/lang/CharSequence", name := "length", desc := "()I" } : Jvm.MethodName) ({ cls := "java/lang/StringBuilder", name := "length", desc := "()I" } : Jvm.MethodName)) ∈ lw_all := lw_g (lw_at lw_m2 185 rfl) rfl
theorem q427 : (Jvm.Cond.unhidden "java/lang/StringBuilder" "length" "()I") ∈ lw_tbl := lw_at lw_m2 186 rfl
theorem q428 : (Jvm.Cond.instanceMethod ({ cls := "java/lang/StringBuilder", name := "length", desc := "()I" } : Jvm.MethodName)) ∈ lw_all := lw_g (lw_at lw_m2 187 rfl) rfl
theorem q429 : (Jvm.Cond.publicMethod ({ cls := "java/lang/StringBuilder", name := "length", desc := "()I" } : Jvm.MethodName)) ∈ lw_tbl := lw_at lw_m2 188 rfl
theorem q430 : (Jvm.Cond.code ({ cls := "java/lang/StringBuilder", name := "length", desc := "()I" } : Jvm.MethodName) prog_13_method_93_code (1 : Nat) (Option.some Jvm.ClassFile.FieldType.int)) ∈ lw_all := lw_g (lw_at lw_m2 189 rfl) rfl
theorem q431 : (Jvm.Cond.methodLink "java/lang/StringBuilder" (343 : Nat) ({ cls := "java/lang/AbstractStringBuilder", name := "length", desc := "()I" } : Jvm.MethodName)) ∈ lw_all := lw_g (lw_at lw_m2 190 rfl) rfl
theorem q441 : (Jvm.Cond.selects "java/lang/StringBuilder" ({ cls := "java/lang/CharSequence", name := "charAt", desc := "(I)C" } : Jvm.MethodName) ({ cls := "java/lang/StringBuilder", name := "charAt", desc := "(I)C" } : Jvm.MethodName)) ∈ lw_all := lw_g (lw_at lw_m2 200 rfl) rfl
theorem q442 : (Jvm.Cond.unhidden "java/lang/StringBuilder" "charAt" "(I)C") ∈ lw_tbl := lw_at lw_m2 201 rfl
theorem q443 : (Jvm.Cond.instanceMethod ({ cls := "java/lang/StringBuilder", name := "charAt", desc := "(I)C" } : Jvm.MethodName)) ∈ lw_all := lw_g (lw_at lw_m2 202 rfl) rfl
theorem q444 : (Jvm.Cond.publicMethod ({ cls := "java/lang/StringBuilder", name := "charAt", desc := "(I)C" } : Jvm.MethodName)) ∈ lw_tbl := lw_at lw_m2 203 rfl
theorem q445 : (Jvm.Cond.code ({ cls := "java/lang/StringBuilder", name := "charAt", desc := "(I)C" } : Jvm.MethodName) prog_13_method_88_code (2 : Nat) (Option.some Jvm.ClassFile.FieldType.char)) ∈ lw_all := lw_g (lw_at lw_m2 204 rfl) rfl
theorem q446 : (Jvm.Cond.methodLink "java/lang/StringBuilder" (329 : Nat) ({ cls := "java/lang/AbstractStringBuilder", name := "charAt", desc := "(I)C" } : Jvm.MethodName)) ∈ lw_all := lw_g (lw_at lw_m2 205 rfl) rfl
theorem q464 : (Jvm.Cond.instanceMethod ({ cls := "java/lang/StringBuilder", name := "capacity", desc := "()I" } : Jvm.MethodName)) ∈ lw_all := lw_g (lw_at lw_m2 223 rfl) rfl
theorem q465 : (Jvm.Cond.selects "java/lang/StringBuilder" ({ cls := "java/lang/StringBuilder", name := "capacity", desc := "()I" } : Jvm.MethodName) ({ cls := "java/lang/StringBuilder", name := "capacity", desc := "()I" } : Jvm.MethodName)) ∈ lw_all := lw_g (lw_at lw_m2 224 rfl) rfl
theorem q466 : (Jvm.Cond.code ({ cls := "java/lang/StringBuilder", name := "capacity", desc := "()I" } : Jvm.MethodName) prog_13_method_92_code (1 : Nat) (Option.some Jvm.ClassFile.FieldType.int)) ∈ lw_all := lw_g (lw_at lw_m2 225 rfl) rfl
theorem q467 : (Jvm.Cond.methodLink "java/lang/StringBuilder" (342 : Nat) ({ cls := "java/lang/AbstractStringBuilder", name := "capacity", desc := "()I" } : Jvm.MethodName)) ∈ lw_all := lw_g (lw_at lw_m2 226 rfl) rfl
theorem q471 : (Jvm.Cond.instanceMethod ({ cls := "java/lang/StringBuilder", name := "setLength", desc := "(I)V" } : Jvm.MethodName)) ∈ lw_all := lw_g (lw_at lw_m2 230 rfl) rfl
theorem q472 : (Jvm.Cond.selects "java/lang/StringBuilder" ({ cls := "java/lang/StringBuilder", name := "setLength", desc := "(I)V" } : Jvm.MethodName) ({ cls := "java/lang/StringBuilder", name := "setLength", desc := "(I)V" } : Jvm.MethodName)) ∈ lw_all := lw_g (lw_at lw_m2 231 rfl) rfl
theorem q473 : (Jvm.Cond.code ({ cls := "java/lang/StringBuilder", name := "setLength", desc := "(I)V" } : Jvm.MethodName) prog_13_method_89_code (2 : Nat) (Option.none : Option Jvm.ClassFile.FieldType)) ∈ lw_all := lw_g (lw_at lw_m2 232 rfl) rfl
theorem q474 : (Jvm.Cond.methodLink "java/lang/StringBuilder" (333 : Nat) ({ cls := "java/lang/AbstractStringBuilder", name := "setLength", desc := "(I)V" } : Jvm.MethodName)) ∈ lw_all := lw_g (lw_at lw_m2 233 rfl) rfl
theorem q500 : (Jvm.Cond.instanceMethod ({ cls := "java/lang/StringBuilder", name := "append", desc := "(C)Ljava/lang/StringBuilder;" } : Jvm.MethodName)) ∈ lw_all := lw_g (lw_at lw_m3 19 rfl) rfl
theorem q501 : (Jvm.Cond.selects "java/lang/StringBuilder" ({ cls := "java/lang/StringBuilder", name := "append", desc := "(C)Ljava/lang/StringBuilder;" } : Jvm.MethodName) ({ cls := "java/lang/StringBuilder", name := "append", desc := "(C)Ljava/lang/StringBuilder;" } : Jvm.MethodName)) ∈ lw_all := lw_g (lw_at lw_m3 20 rfl) rfl
theorem q502 : (Jvm.Cond.code ({ cls := "java/lang/StringBuilder", name := "append", desc := "(C)Ljava/lang/StringBuilder;" } : Jvm.MethodName) prog_13_method_14_code (2 : Nat) (Option.some (Jvm.ClassFile.FieldType.object "java/lang/StringBuilder"))) ∈ lw_all := lw_g (lw_at lw_m3 21 rfl) rfl
theorem q503 : (Jvm.Cond.methodLink "java/lang/StringBuilder" (50 : Nat) ({ cls := "java/lang/AbstractStringBuilder", name := "append", desc := "(C)Ljava/lang/AbstractStringBuilder;" } : Jvm.MethodName)) ∈ lw_all := lw_g (lw_at lw_m3 22 rfl) rfl
theorem q513 : (Jvm.Cond.instanceMethod ({ cls := "java/lang/StringBuilder", name := "toString", desc := "()Ljava/lang/String;" } : Jvm.MethodName)) ∈ lw_all := lw_g (lw_at lw_m3 32 rfl) rfl
theorem q514 : (Jvm.Cond.selects "java/lang/StringBuilder" ({ cls := "java/lang/StringBuilder", name := "toString", desc := "()Ljava/lang/String;" } : Jvm.MethodName) ({ cls := "java/lang/StringBuilder", name := "toString", desc := "()Ljava/lang/String;" } : Jvm.MethodName)) ∈ lw_all := lw_g (lw_at lw_m3 33 rfl) rfl
theorem q515 : (Jvm.Cond.code ({ cls := "java/lang/StringBuilder", name := "toString", desc := "()Ljava/lang/String;" } : Jvm.MethodName) prog_13_method_42_code (1 : Nat) (Option.some (Jvm.ClassFile.FieldType.object "java/lang/String"))) ∈ lw_all := lw_g (lw_at lw_m3 34 rfl) rfl
theorem q516 : (Jvm.Cond.classLink "java/lang/StringBuilder" (18 : Nat) "java/lang/String") ∈ lw_all := lw_g (lw_at lw_m3 35 rfl) rfl
theorem q517 : (Jvm.Cond.methodLink "java/lang/StringBuilder" (137 : Nat) ({ cls := "java/lang/String", name := "<init>", desc := "(Ljava/lang/StringBuilder;)V" } : Jvm.MethodName)) ∈ lw_all := lw_g (lw_at lw_m3 36 rfl) rfl
theorem q526 : (Jvm.Cond.selects "java/lang/StringBuilder" ({ cls := "java/lang/AbstractStringBuilder", name := "getValue", desc := "()[B" } : Jvm.MethodName) ({ cls := "java/lang/AbstractStringBuilder", name := "getValue", desc := "()[B" } : Jvm.MethodName)) ∈ lw_all := lw_g (lw_at lw_m3 45 rfl) rfl
theorem q544 : (Jvm.Cond.instanceMethod ({ cls := "java/lang/StringBuilder", name := "setCharAt", desc := "(IC)V" } : Jvm.MethodName)) ∈ lw_all := lw_g (lw_at lw_m3 63 rfl) rfl
theorem q545 : (Jvm.Cond.selects "java/lang/StringBuilder" ({ cls := "java/lang/StringBuilder", name := "setCharAt", desc := "(IC)V" } : Jvm.MethodName) ({ cls := "java/lang/StringBuilder", name := "setCharAt", desc := "(IC)V" } : Jvm.MethodName)) ∈ lw_all := lw_g (lw_at lw_m3 64 rfl) rfl
theorem q546 : (Jvm.Cond.code ({ cls := "java/lang/StringBuilder", name := "setCharAt", desc := "(IC)V" } : Jvm.MethodName) prog_13_method_82_code (3 : Nat) (Option.none : Option Jvm.ClassFile.FieldType)) ∈ lw_all := lw_g (lw_at lw_m3 65 rfl) rfl
theorem q547 : (Jvm.Cond.methodLink "java/lang/StringBuilder" (308 : Nat) ({ cls := "java/lang/AbstractStringBuilder", name := "setCharAt", desc := "(IC)V" } : Jvm.MethodName)) ∈ lw_all := lw_g (lw_at lw_m3 66 rfl) rfl
theorem q570 : (Jvm.Cond.selects "java/lang/StringBuilder" ({ cls := "java/lang/AbstractStringBuilder", name := "length", desc := "()I" } : Jvm.MethodName) ({ cls := "java/lang/StringBuilder", name := "length", desc := "()I" } : Jvm.MethodName)) ∈ lw_all := lw_g (lw_at lw_m3 89 rfl) rfl
theorem in_J9 : ∀ w ∈ wsJ90, w ∈ lw_all := lw_in wsJ90 [307, 309, 311, 313] (by decide +kernel) (by decide +kernel)
end
section
/-! SquareParity -/
set_option maxRecDepth 100000
def RX1 : String := "SquareParity"
def TX1 : u_T := fun k => match k with
  | 0 => ("SquareParity", "letters", "[C", true)
  | _ => ("SquareParity", "whole", "Ljava/lang/String;", false)
def tyX1 : Nat → FieldType := fun k => match k with
  | 0 => .array .char
  | _ => .object "java/lang/String"
abbrev wsX10 : List Cond := u_ws RX1 TX1 2
theorem nmX1 : ∀ a, a < 2 → ∀ b, b < 2 → a ≠ b → (TX1 a).2.1 ≠ (TX1 b).2.1 := by decide +kernel
theorem tyX1_ok : ∀ k, k < 2 → parseFieldDescriptor (TX1 k).2.2.1 = some (tyX1 k) := by decide +kernel
abbrev cX1_init : ByteArray := prog_2_method_1_code
def yX1_init : MethodName := ⟨RX1, "<init>", "()V"⟩
def dkwX1_init_0 : List UInt8 := [42, 183, 0, 1, 42, 16, 62, 188, 5, 181, 0, 7, 42, 18, 13, 181, 0, 15, 177]
abbrev dktX1_init_0 : List UInt8 := dkwX1_init_0 ++ []
theorem dksX1_init_0 : cX1_init.data.toList.drop 0 = dktX1_init_0 := by decide +kernel
theorem dX1_init_0 : decode cX1_init 0 = .ok (.aload_n 0, 1) := dk_42 (dk_at dksX1_init_0 0 rfl rfl)
theorem dX1_init_1 : decode cX1_init 1 = .ok (.invokespecial 1, 3) := dk_183 0 1 (dk_at dksX1_init_0 1 rfl rfl)
theorem dX1_init_4 : decode cX1_init 4 = .ok (.aload_n 0, 1) := dk_42 (dk_at dksX1_init_0 4 rfl rfl)
theorem dX1_init_5 : decode cX1_init 5 = .ok (.bipush 62, 2) := dk_16 62 (dk_at dksX1_init_0 5 rfl rfl)
theorem dX1_init_7 : decode cX1_init 7 = .ok (.newarray .char, 2) := dk_188_5 (dk_at dksX1_init_0 7 rfl rfl)
theorem dX1_init_9 : decode cX1_init 9 = .ok (.putfield 7, 3) := dk_181 0 7 (dk_at dksX1_init_0 9 rfl rfl)
theorem dX1_init_12 : decode cX1_init 12 = .ok (.aload_n 0, 1) := dk_42 (dk_at dksX1_init_0 12 rfl rfl)
theorem dX1_init_13 : decode cX1_init 13 = .ok (.ldc 13, 2) := dk_18 13 (dk_at dksX1_init_0 13 rfl rfl)
theorem dX1_init_15 : decode cX1_init 15 = .ok (.putfield 15, 3) := dk_181 0 15 (dk_at dksX1_init_0 15 rfl rfl)
theorem dX1_init_18 : decode cX1_init 18 = .ok (.return_, 1) := dk_177 (dk_at dksX1_init_0 18 rfl rfl)
abbrev cX1_letter : ByteArray := prog_2_method_2_code
def yX1_letter : MethodName := ⟨RX1, "letter", "(II)V"⟩
def dkwX1_letter_0 : List UInt8 := [42, 180, 0, 7, 27, 18, 19, 126, 16, 62, 112, 28, 17, 0, 255, 126, 146, 85, 177]
abbrev dktX1_letter_0 : List UInt8 := dkwX1_letter_0 ++ []
theorem dksX1_letter_0 : cX1_letter.data.toList.drop 0 = dktX1_letter_0 := by decide +kernel
theorem dX1_letter_0 : decode cX1_letter 0 = .ok (.aload_n 0, 1) := dk_42 (dk_at dksX1_letter_0 0 rfl rfl)
theorem dX1_letter_1 : decode cX1_letter 1 = .ok (.getfield 7, 3) := dk_180 0 7 (dk_at dksX1_letter_0 1 rfl rfl)
theorem dX1_letter_4 : decode cX1_letter 4 = .ok (.iload_n 1, 1) := dk_27 (dk_at dksX1_letter_0 4 rfl rfl)
theorem dX1_letter_5 : decode cX1_letter 5 = .ok (.ldc 19, 2) := dk_18 19 (dk_at dksX1_letter_0 5 rfl rfl)
theorem dX1_letter_7 : decode cX1_letter 7 = .ok (.iand, 1) := dk_126 (dk_at dksX1_letter_0 7 rfl rfl)
theorem dX1_letter_8 : decode cX1_letter 8 = .ok (.bipush 62, 2) := dk_16 62 (dk_at dksX1_letter_0 8 rfl rfl)
theorem dX1_letter_10 : decode cX1_letter 10 = .ok (.irem, 1) := dk_112 (dk_at dksX1_letter_0 10 rfl rfl)
theorem dX1_letter_11 : decode cX1_letter 11 = .ok (.iload_n 2, 1) := dk_28 (dk_at dksX1_letter_0 11 rfl rfl)
theorem dX1_letter_12 : decode cX1_letter 12 = .ok (.sipush 255, 3) := dk_17 0 255 (dk_at dksX1_letter_0 12 rfl rfl)
theorem dX1_letter_15 : decode cX1_letter 15 = .ok (.iand, 1) := dk_126 (dk_at dksX1_letter_0 15 rfl rfl)
theorem dX1_letter_16 : decode cX1_letter 16 = .ok (.i2c, 1) := dk_146 (dk_at dksX1_letter_0 16 rfl rfl)
theorem dX1_letter_17 : decode cX1_letter 17 = .ok (.castore, 1) := dk_85 (dk_at dksX1_letter_0 17 rfl rfl)
theorem dX1_letter_18 : decode cX1_letter 18 = .ok (.return_, 1) := dk_177 (dk_at dksX1_letter_0 18 rfl rfl)
abbrev cX1_fill : ByteArray := prog_2_method_3_code
def yX1_fill : MethodName := ⟨RX1, "fill", "(II)V"⟩
def dkwX1_fill_1 : List UInt8 := [132, 3, 1, 167, 255, 231, 177]
abbrev dktX1_fill_1 : List UInt8 := dkwX1_fill_1 ++ []
def dkwX1_fill_0 : List UInt8 := [3, 62, 29, 16, 62, 162, 0, 25, 42, 180, 0, 7, 29, 27, 28, 29, 104, 96, 17, 0, 255, 126, 146, 85]
abbrev dktX1_fill_0 : List UInt8 := dkwX1_fill_0 ++ dktX1_fill_1
theorem dksX1_fill_0 : cX1_fill.data.toList.drop 0 = dktX1_fill_0 := by decide +kernel
theorem dksX1_fill_1 : cX1_fill.data.toList.drop 24 = dktX1_fill_1 := dk_seg dksX1_fill_0 24 rfl rfl
theorem dX1_fill_0 : decode cX1_fill 0 = .ok (.iconst 0, 1) := dk_3 (dk_at dksX1_fill_0 0 rfl rfl)
theorem dX1_fill_1 : decode cX1_fill 1 = .ok (.istore_n 3, 1) := dk_62 (dk_at dksX1_fill_0 1 rfl rfl)
theorem dX1_fill_2 : decode cX1_fill 2 = .ok (.iload_n 3, 1) := dk_29 (dk_at dksX1_fill_0 2 rfl rfl)
theorem dX1_fill_3 : decode cX1_fill 3 = .ok (.bipush 62, 2) := dk_16 62 (dk_at dksX1_fill_0 3 rfl rfl)
theorem dX1_fill_5 : decode cX1_fill 5 = .ok (.if_icmp .ge 25, 3) := dk_162 0 25 (dk_at dksX1_fill_0 5 rfl rfl)
theorem dX1_fill_8 : decode cX1_fill 8 = .ok (.aload_n 0, 1) := dk_42 (dk_at dksX1_fill_0 8 rfl rfl)
theorem dX1_fill_9 : decode cX1_fill 9 = .ok (.getfield 7, 3) := dk_180 0 7 (dk_at dksX1_fill_0 9 rfl rfl)
theorem dX1_fill_12 : decode cX1_fill 12 = .ok (.iload_n 3, 1) := dk_29 (dk_at dksX1_fill_0 12 rfl rfl)
theorem dX1_fill_13 : decode cX1_fill 13 = .ok (.iload_n 1, 1) := dk_27 (dk_at dksX1_fill_0 13 rfl rfl)
theorem dX1_fill_14 : decode cX1_fill 14 = .ok (.iload_n 2, 1) := dk_28 (dk_at dksX1_fill_0 14 rfl rfl)
theorem dX1_fill_15 : decode cX1_fill 15 = .ok (.iload_n 3, 1) := dk_29 (dk_at dksX1_fill_0 15 rfl rfl)
theorem dX1_fill_16 : decode cX1_fill 16 = .ok (.imul, 1) := dk_104 (dk_at dksX1_fill_0 16 rfl rfl)
theorem dX1_fill_17 : decode cX1_fill 17 = .ok (.iadd, 1) := dk_96 (dk_at dksX1_fill_0 17 rfl rfl)
theorem dX1_fill_18 : decode cX1_fill 18 = .ok (.sipush 255, 3) := dk_17 0 255 (dk_at dksX1_fill_0 18 rfl rfl)
theorem dX1_fill_21 : decode cX1_fill 21 = .ok (.iand, 1) := dk_126 (dk_at dksX1_fill_0 21 rfl rfl)
theorem dX1_fill_22 : decode cX1_fill 22 = .ok (.i2c, 1) := dk_146 (dk_at dksX1_fill_0 22 rfl rfl)
theorem dX1_fill_23 : decode cX1_fill 23 = .ok (.castore, 1) := dk_85 (dk_at dksX1_fill_0 23 rfl rfl)
theorem dX1_fill_24 : decode cX1_fill 24 = .ok (.iinc 3 1, 3) := dk_132 3 1 (dk_at dksX1_fill_1 0 rfl rfl)
theorem dX1_fill_27 : decode cX1_fill 27 = .ok (.goto (-25), 3) := dk_167 255 231 (dk_at dksX1_fill_1 3 rfl rfl)
theorem dX1_fill_30 : decode cX1_fill 30 = .ok (.return_, 1) := dk_177 (dk_at dksX1_fill_1 6 rfl rfl)
abbrev cX1_whole : ByteArray := prog_2_method_5_code
def yX1_whole : MethodName := ⟨RX1, "whole", "(I)I"⟩
def dkwX1_whole_1 : List UInt8 := [180, 0, 15, 182, 0, 43, 112, 182, 0, 47, 172]
abbrev dktX1_whole_1 : List UInt8 := dkwX1_whole_1 ++ []
def dkwX1_whole_0 : List UInt8 := [42, 180, 0, 15, 182, 0, 43, 154, 0, 7, 2, 167, 0, 22, 42, 180, 0, 15, 27, 18, 19, 126, 42]
abbrev dktX1_whole_0 : List UInt8 := dkwX1_whole_0 ++ dktX1_whole_1
theorem dksX1_whole_0 : cX1_whole.data.toList.drop 0 = dktX1_whole_0 := by decide +kernel
theorem dksX1_whole_1 : cX1_whole.data.toList.drop 23 = dktX1_whole_1 := dk_seg dksX1_whole_0 23 rfl rfl
theorem dX1_whole_0 : decode cX1_whole 0 = .ok (.aload_n 0, 1) := dk_42 (dk_at dksX1_whole_0 0 rfl rfl)
theorem dX1_whole_1 : decode cX1_whole 1 = .ok (.getfield 15, 3) := dk_180 0 15 (dk_at dksX1_whole_0 1 rfl rfl)
theorem dX1_whole_4 : decode cX1_whole 4 = .ok (.invokevirtual 43, 3) := dk_182 0 43 (dk_at dksX1_whole_0 4 rfl rfl)
theorem dX1_whole_7 : decode cX1_whole 7 = .ok (.ifCond .ne 7, 3) := dk_154 0 7 (dk_at dksX1_whole_0 7 rfl rfl)
theorem dX1_whole_10 : decode cX1_whole 10 = .ok (.iconst (-1), 1) := dk_2 (dk_at dksX1_whole_0 10 rfl rfl)
theorem dX1_whole_11 : decode cX1_whole 11 = .ok (.goto 22, 3) := dk_167 0 22 (dk_at dksX1_whole_0 11 rfl rfl)
theorem dX1_whole_14 : decode cX1_whole 14 = .ok (.aload_n 0, 1) := dk_42 (dk_at dksX1_whole_0 14 rfl rfl)
theorem dX1_whole_15 : decode cX1_whole 15 = .ok (.getfield 15, 3) := dk_180 0 15 (dk_at dksX1_whole_0 15 rfl rfl)
theorem dX1_whole_18 : decode cX1_whole 18 = .ok (.iload_n 1, 1) := dk_27 (dk_at dksX1_whole_0 18 rfl rfl)
theorem dX1_whole_19 : decode cX1_whole 19 = .ok (.ldc 19, 2) := dk_18 19 (dk_at dksX1_whole_0 19 rfl rfl)
theorem dX1_whole_21 : decode cX1_whole 21 = .ok (.iand, 1) := dk_126 (dk_at dksX1_whole_0 21 rfl rfl)
theorem dX1_whole_22 : decode cX1_whole 22 = .ok (.aload_n 0, 1) := dk_42 (dk_at dksX1_whole_0 22 rfl rfl)
theorem dX1_whole_23 : decode cX1_whole 23 = .ok (.getfield 15, 3) := dk_180 0 15 (dk_at dksX1_whole_1 0 rfl rfl)
theorem dX1_whole_26 : decode cX1_whole 26 = .ok (.invokevirtual 43, 3) := dk_182 0 43 (dk_at dksX1_whole_1 3 rfl rfl)
theorem dX1_whole_29 : decode cX1_whole 29 = .ok (.irem, 1) := dk_112 (dk_at dksX1_whole_1 6 rfl rfl)
theorem dX1_whole_30 : decode cX1_whole 30 = .ok (.invokevirtual 47, 3) := dk_182 0 47 (dk_at dksX1_whole_1 7 rfl rfl)
theorem dX1_whole_33 : decode cX1_whole 33 = .ok (.ireturn, 1) := dk_172 (dk_at dksX1_whole_1 10 rfl rfl)
abbrev cX1_write : ByteArray := prog_2_method_4_code
def yX1_write : MethodName := ⟨RX1, "write", "(I)I"⟩
def dkwX1_write_2 : List UInt8 := [183, 0, 34, 184, 0, 37, 181, 0, 15, 42, 180, 0, 15, 182, 0, 43, 172]
abbrev dktX1_write_2 : List UInt8 := dkwX1_write_2 ++ []
def dkwX1_write_1 : List UInt8 := [183, 0, 26, 187, 0, 29, 89, 3, 178, 0, 22, 28, 46, 178, 0, 31, 28, 46, 16, 8, 16, 8, 4]
abbrev dktX1_write_1 : List UInt8 := dkwX1_write_1 ++ dktX1_write_2
def dkwX1_write_0 : List UInt8 := [27, 18, 19, 126, 16, 10, 112, 61, 42, 187, 0, 20, 89, 42, 180, 0, 7, 3, 178, 0, 22, 28, 46]
abbrev dktX1_write_0 : List UInt8 := dkwX1_write_0 ++ dktX1_write_1
theorem dksX1_write_0 : cX1_write.data.toList.drop 0 = dktX1_write_0 := by decide +kernel
theorem dksX1_write_1 : cX1_write.data.toList.drop 23 = dktX1_write_1 := dk_seg dksX1_write_0 23 rfl rfl
theorem dksX1_write_2 : cX1_write.data.toList.drop 46 = dktX1_write_2 := dk_seg dksX1_write_1 23 rfl rfl
theorem dX1_write_0 : decode cX1_write 0 = .ok (.iload_n 1, 1) := dk_27 (dk_at dksX1_write_0 0 rfl rfl)
theorem dX1_write_1 : decode cX1_write 1 = .ok (.ldc 19, 2) := dk_18 19 (dk_at dksX1_write_0 1 rfl rfl)
theorem dX1_write_3 : decode cX1_write 3 = .ok (.iand, 1) := dk_126 (dk_at dksX1_write_0 3 rfl rfl)
theorem dX1_write_4 : decode cX1_write 4 = .ok (.bipush 10, 2) := dk_16 10 (dk_at dksX1_write_0 4 rfl rfl)
theorem dX1_write_6 : decode cX1_write 6 = .ok (.irem, 1) := dk_112 (dk_at dksX1_write_0 6 rfl rfl)
theorem dX1_write_7 : decode cX1_write 7 = .ok (.istore_n 2, 1) := dk_61 (dk_at dksX1_write_0 7 rfl rfl)
theorem dX1_write_8 : decode cX1_write 8 = .ok (.aload_n 0, 1) := dk_42 (dk_at dksX1_write_0 8 rfl rfl)
theorem dX1_write_9 : decode cX1_write 9 = .ok (.new 20, 3) := dk_187 0 20 (dk_at dksX1_write_0 9 rfl rfl)
theorem dX1_write_12 : decode cX1_write 12 = .ok (.dup, 1) := dk_89 (dk_at dksX1_write_0 12 rfl rfl)
theorem dX1_write_13 : decode cX1_write 13 = .ok (.aload_n 0, 1) := dk_42 (dk_at dksX1_write_0 13 rfl rfl)
theorem dX1_write_14 : decode cX1_write 14 = .ok (.getfield 7, 3) := dk_180 0 7 (dk_at dksX1_write_0 14 rfl rfl)
theorem dX1_write_17 : decode cX1_write 17 = .ok (.iconst 0, 1) := dk_3 (dk_at dksX1_write_0 17 rfl rfl)
theorem dX1_write_18 : decode cX1_write 18 = .ok (.getstatic 22, 3) := dk_178 0 22 (dk_at dksX1_write_0 18 rfl rfl)
theorem dX1_write_21 : decode cX1_write 21 = .ok (.iload_n 2, 1) := dk_28 (dk_at dksX1_write_0 21 rfl rfl)
theorem dX1_write_22 : decode cX1_write 22 = .ok (.iaload, 1) := dk_46 (dk_at dksX1_write_0 22 rfl rfl)
theorem dX1_write_23 : decode cX1_write 23 = .ok (.invokespecial 26, 3) := dk_183 0 26 (dk_at dksX1_write_1 0 rfl rfl)
theorem dX1_write_26 : decode cX1_write 26 = .ok (.new 29, 3) := dk_187 0 29 (dk_at dksX1_write_1 3 rfl rfl)
theorem dX1_write_29 : decode cX1_write 29 = .ok (.dup, 1) := dk_89 (dk_at dksX1_write_1 6 rfl rfl)
theorem dX1_write_30 : decode cX1_write 30 = .ok (.iconst 0, 1) := dk_3 (dk_at dksX1_write_1 7 rfl rfl)
theorem dX1_write_31 : decode cX1_write 31 = .ok (.getstatic 22, 3) := dk_178 0 22 (dk_at dksX1_write_1 8 rfl rfl)
theorem dX1_write_34 : decode cX1_write 34 = .ok (.iload_n 2, 1) := dk_28 (dk_at dksX1_write_1 11 rfl rfl)
theorem dX1_write_35 : decode cX1_write 35 = .ok (.iaload, 1) := dk_46 (dk_at dksX1_write_1 12 rfl rfl)
theorem dX1_write_36 : decode cX1_write 36 = .ok (.getstatic 31, 3) := dk_178 0 31 (dk_at dksX1_write_1 13 rfl rfl)
theorem dX1_write_39 : decode cX1_write 39 = .ok (.iload_n 2, 1) := dk_28 (dk_at dksX1_write_1 16 rfl rfl)
theorem dX1_write_40 : decode cX1_write 40 = .ok (.iaload, 1) := dk_46 (dk_at dksX1_write_1 17 rfl rfl)
theorem dX1_write_41 : decode cX1_write 41 = .ok (.bipush 8, 2) := dk_16 8 (dk_at dksX1_write_1 18 rfl rfl)
theorem dX1_write_43 : decode cX1_write 43 = .ok (.bipush 8, 2) := dk_16 8 (dk_at dksX1_write_1 20 rfl rfl)
theorem dX1_write_45 : decode cX1_write 45 = .ok (.iconst 1, 1) := dk_4 (dk_at dksX1_write_1 22 rfl rfl)
theorem dX1_write_46 : decode cX1_write 46 = .ok (.invokespecial 34, 3) := dk_183 0 34 (dk_at dksX1_write_2 0 rfl rfl)
theorem dX1_write_49 : decode cX1_write 49 = .ok (.invokestatic 37, 3) := dk_184 0 37 (dk_at dksX1_write_2 3 rfl rfl)
theorem dX1_write_52 : decode cX1_write 52 = .ok (.putfield 15, 3) := dk_181 0 15 (dk_at dksX1_write_2 6 rfl rfl)
theorem dX1_write_55 : decode cX1_write 55 = .ok (.aload_n 0, 1) := dk_42 (dk_at dksX1_write_2 9 rfl rfl)
theorem dX1_write_56 : decode cX1_write 56 = .ok (.getfield 15, 3) := dk_180 0 15 (dk_at dksX1_write_2 10 rfl rfl)
theorem dX1_write_59 : decode cX1_write 59 = .ok (.invokevirtual 43, 3) := dk_182 0 43 (dk_at dksX1_write_2 13 rfl rfl)
theorem dX1_write_62 : decode cX1_write 62 = .ok (.ireturn, 1) := dk_172 (dk_at dksX1_write_2 16 rfl rfl)
theorem q2 : (Jvm.Cond.initialized "SquareParity") ∈ lw_all := lw_g (lw_at lw_m1 1 rfl) rfl
theorem q20 : (Jvm.Cond.instantiable "SquareParity" (2 : Nat)) ∈ lw_all := lw_g (lw_at lw_m1 19 rfl) rfl
theorem q22 : (Jvm.Cond.instanceMethod ({ cls := "SquareParity", name := "<init>", desc := "()V" } : Jvm.MethodName)) ∈ lw_all := lw_g (lw_at lw_m1 21 rfl) rfl
theorem q23 : (Jvm.Cond.code ({ cls := "SquareParity", name := "<init>", desc := "()V" } : Jvm.MethodName) prog_2_method_1_code (1 : Nat) (Option.none : Option Jvm.ClassFile.FieldType)) ∈ lw_all := lw_g (lw_at lw_m1 22 rfl) rfl
theorem q24 : (Jvm.Cond.methodLink "SquareParity" (1 : Nat) ({ cls := "java/lang/Object", name := "<init>", desc := "()V" } : Jvm.MethodName)) ∈ lw_all := lw_g (lw_at lw_m1 23 rfl) rfl
theorem q27 : (Jvm.Cond.stringRef "SquareParity" (13 : Nat) "") ∈ lw_tbl := lw_at lw_m1 26 rfl
theorem q28 : (Jvm.Cond.fieldLink "SquareParity" (7 : Nat) "SquareParity" "letters" "[C") ∈ lw_all := lw_g (lw_at lw_m1 27 rfl) rfl
theorem q29 : (Jvm.Cond.fieldLink "SquareParity" (15 : Nat) "SquareParity" "whole" "Ljava/lang/String;") ∈ lw_all := lw_g (lw_at lw_m1 28 rfl) rfl
theorem q30 : (Jvm.Cond.laysFinal "SquareParity" "SquareParity" "letters" "[C") ∈ lw_all := lw_g (lw_at lw_m1 29 rfl) rfl
theorem q31 : (Jvm.Cond.soleField "SquareParity" "letters") ∈ lw_all := lw_g (lw_at lw_m1 30 rfl) rfl
theorem q32 : (Jvm.Cond.lays "SquareParity" "SquareParity" "whole" "Ljava/lang/String;") ∈ lw_all := lw_g (lw_at lw_m1 31 rfl) rfl
theorem q33 : (Jvm.Cond.soleField "SquareParity" "whole") ∈ lw_all := lw_g (lw_at lw_m1 32 rfl) rfl
theorem q34 : (Jvm.Cond.superclass "SquareParity" "java/lang/Object") ∈ lw_all := lw_g (lw_at lw_m1 33 rfl) rfl
theorem q38 : (Jvm.Cond.instanceMethod ({ cls := "SquareParity", name := "letter", desc := "(II)V" } : Jvm.MethodName)) ∈ lw_all := lw_g (lw_at lw_m1 37 rfl) rfl
theorem q39 : (Jvm.Cond.selects "SquareParity" ({ cls := "SquareParity", name := "letter", desc := "(II)V" } : Jvm.MethodName) ({ cls := "SquareParity", name := "letter", desc := "(II)V" } : Jvm.MethodName)) ∈ lw_all := lw_g (lw_at lw_m1 38 rfl) rfl
theorem q40 : (Jvm.Cond.code ({ cls := "SquareParity", name := "letter", desc := "(II)V" } : Jvm.MethodName) prog_2_method_2_code (3 : Nat) (Option.none : Option Jvm.ClassFile.FieldType)) ∈ lw_all := lw_g (lw_at lw_m1 39 rfl) rfl
theorem q41 : (Jvm.Cond.constant "SquareParity" (19 : Nat) (2147483647 : Int32)) ∈ lw_all := lw_g (lw_at lw_m1 40 rfl) rfl
theorem q43 : (Jvm.Cond.instanceMethod ({ cls := "SquareParity", name := "fill", desc := "(II)V" } : Jvm.MethodName)) ∈ lw_all := lw_g (lw_at lw_m1 42 rfl) rfl
theorem q44 : (Jvm.Cond.selects "SquareParity" ({ cls := "SquareParity", name := "fill", desc := "(II)V" } : Jvm.MethodName) ({ cls := "SquareParity", name := "fill", desc := "(II)V" } : Jvm.MethodName)) ∈ lw_all := lw_g (lw_at lw_m1 43 rfl) rfl
theorem q45 : (Jvm.Cond.code ({ cls := "SquareParity", name := "fill", desc := "(II)V" } : Jvm.MethodName) prog_2_method_3_code (4 : Nat) (Option.none : Option Jvm.ClassFile.FieldType)) ∈ lw_all := lw_g (lw_at lw_m1 44 rfl) rfl
theorem q47 : (Jvm.Cond.instanceMethod ({ cls := "SquareParity", name := "whole", desc := "(I)I" } : Jvm.MethodName)) ∈ lw_all := lw_g (lw_at lw_m1 46 rfl) rfl
theorem q48 : (Jvm.Cond.selects "SquareParity" ({ cls := "SquareParity", name := "whole", desc := "(I)I" } : Jvm.MethodName) ({ cls := "SquareParity", name := "whole", desc := "(I)I" } : Jvm.MethodName)) ∈ lw_all := lw_g (lw_at lw_m1 47 rfl) rfl
theorem q49 : (Jvm.Cond.code ({ cls := "SquareParity", name := "whole", desc := "(I)I" } : Jvm.MethodName) prog_2_method_5_code (2 : Nat) (Option.some Jvm.ClassFile.FieldType.int)) ∈ lw_all := lw_g (lw_at lw_m1 48 rfl) rfl
theorem q50 : (Jvm.Cond.methodLink "SquareParity" (43 : Nat) ({ cls := "java/lang/String", name := "length", desc := "()I" } : Jvm.MethodName)) ∈ lw_all := lw_g (lw_at lw_m1 49 rfl) rfl
theorem q60 : (Jvm.Cond.methodLink "SquareParity" (47 : Nat) ({ cls := "java/lang/String", name := "charAt", desc := "(I)C" } : Jvm.MethodName)) ∈ lw_all := lw_g (lw_at lw_m1 59 rfl) rfl
theorem q113 : (Jvm.Cond.instanceMethod ({ cls := "SquareParity", name := "write", desc := "(I)I" } : Jvm.MethodName)) ∈ lw_all := lw_g (lw_at lw_m1 112 rfl) rfl
theorem q114 : (Jvm.Cond.selects "SquareParity" ({ cls := "SquareParity", name := "write", desc := "(I)I" } : Jvm.MethodName) ({ cls := "SquareParity", name := "write", desc := "(I)I" } : Jvm.MethodName)) ∈ lw_all := lw_g (lw_at lw_m1 113 rfl) rfl
theorem q115 : (Jvm.Cond.code ({ cls := "SquareParity", name := "write", desc := "(I)I" } : Jvm.MethodName) prog_2_method_4_code (3 : Nat) (Option.some Jvm.ClassFile.FieldType.int)) ∈ lw_all := lw_g (lw_at lw_m1 114 rfl) rfl
theorem q116 : (Jvm.Cond.classLink "SquareParity" (20 : Nat) "java/lang/String") ∈ lw_all := lw_g (lw_at lw_m1 115 rfl) rfl
theorem q118 : (Jvm.Cond.fieldLink "SquareParity" (22 : Nat) "SquareParity" "ROOM" "[I") ∈ lw_all := lw_g (lw_at lw_m1 117 rfl) rfl
theorem q119 : (Jvm.Cond.laysStatic "SquareParity" "ROOM" "[I") ∈ lw_tbl := lw_at lw_m1 118 rfl
theorem q120 : (Jvm.Cond.methodLink "SquareParity" (26 : Nat) ({ cls := "java/lang/String", name := "<init>", desc := "([CII)V" } : Jvm.MethodName)) ∈ lw_all := lw_g (lw_at lw_m1 119 rfl) rfl
theorem q178 : (Jvm.Cond.classLink "SquareParity" (29 : Nat) "SymbolInfo") ∈ lw_all := lw_g (lw_at lw_m1 177 rfl) rfl
theorem q180 : (Jvm.Cond.fieldLink "SquareParity" (31 : Nat) "SquareParity" "CHECKS" "[I") ∈ lw_all := lw_g (lw_at lw_m1 179 rfl) rfl
theorem q181 : (Jvm.Cond.laysStatic "SquareParity" "CHECKS" "[I") ∈ lw_tbl := lw_at lw_m1 180 rfl
theorem q182 : (Jvm.Cond.methodLink "SquareParity" (34 : Nat) ({ cls := "SymbolInfo", name := "<init>", desc := "(ZIIIII)V" } : Jvm.MethodName)) ∈ lw_all := lw_g (lw_at lw_m1 181 rfl) rfl
theorem q214 : (Jvm.Cond.methodLink "SquareParity" (37 : Nat) ({ cls := "ErrorCorrection", name := "encodeECC200", desc := "(Ljava/lang/String;LSymbolInfo;)Ljava/lang/String;" } : Jvm.MethodName)) ∈ lw_all := lw_g (lw_at lw_m1 213 rfl) rfl
theorem in_X1 : ∀ w ∈ wsX10, w ∈ lw_all := lw_in wsX10 [30, 32] (by decide +kernel) (by decide +kernel)
/-! SymbolInfo -/
set_option maxRecDepth 100000
def RX2 : String := "SymbolInfo"
def TX2 : u_T := fun k => match k with
  | 0 => ("SymbolInfo", "rectangular", "Z", true)
  | 1 => ("SymbolInfo", "dataCapacity", "I", true)
  | 2 => ("SymbolInfo", "errorCodewords", "I", true)
  | 3 => ("SymbolInfo", "matrixWidth", "I", true)
  | 4 => ("SymbolInfo", "matrixHeight", "I", true)
  | 5 => ("SymbolInfo", "dataRegions", "I", true)
  | 6 => ("SymbolInfo", "rsBlockData", "I", true)
  | _ => ("SymbolInfo", "rsBlockError", "I", true)
def tyX2 : Nat → FieldType := fun k => match k with
  | 0 => .boolean
  | 1 => .int
  | 2 => .int
  | 3 => .int
  | 4 => .int
  | 5 => .int
  | 6 => .int
  | _ => .int
abbrev wsX20 : List Cond := u_ws RX2 TX2 8
theorem nmX2 : ∀ a, a < 8 → ∀ b, b < 8 → a ≠ b → (TX2 a).2.1 ≠ (TX2 b).2.1 := by decide +kernel
theorem tyX2_ok : ∀ k, k < 8 → parseFieldDescriptor (TX2 k).2.2.1 = some (tyX2 k) := by decide +kernel
abbrev cX2_init : ByteArray := prog_4_method_1_code
def yX2_init : MethodName := ⟨RX2, "<init>", "(ZIIIII)V"⟩
def dkwX2_init_0 : List UInt8 := [42, 27, 28, 29, 21, 4, 21, 5, 21, 6, 28, 29, 183, 0, 1, 177]
abbrev dktX2_init_0 : List UInt8 := dkwX2_init_0 ++ []
theorem dksX2_init_0 : cX2_init.data.toList.drop 0 = dktX2_init_0 := by decide +kernel
theorem dX2_init_0 : decode cX2_init 0 = .ok (.aload_n 0, 1) := dk_42 (dk_at dksX2_init_0 0 rfl rfl)
theorem dX2_init_1 : decode cX2_init 1 = .ok (.iload_n 1, 1) := dk_27 (dk_at dksX2_init_0 1 rfl rfl)
theorem dX2_init_2 : decode cX2_init 2 = .ok (.iload_n 2, 1) := dk_28 (dk_at dksX2_init_0 2 rfl rfl)
theorem dX2_init_3 : decode cX2_init 3 = .ok (.iload_n 3, 1) := dk_29 (dk_at dksX2_init_0 3 rfl rfl)
theorem dX2_init_4 : decode cX2_init 4 = .ok (.iload 4, 2) := dk_21 4 (dk_at dksX2_init_0 4 rfl rfl)
theorem dX2_init_6 : decode cX2_init 6 = .ok (.iload 5, 2) := dk_21 5 (dk_at dksX2_init_0 6 rfl rfl)
theorem dX2_init_8 : decode cX2_init 8 = .ok (.iload 6, 2) := dk_21 6 (dk_at dksX2_init_0 8 rfl rfl)
theorem dX2_init_10 : decode cX2_init 10 = .ok (.iload_n 2, 1) := dk_28 (dk_at dksX2_init_0 10 rfl rfl)
theorem dX2_init_11 : decode cX2_init 11 = .ok (.iload_n 3, 1) := dk_29 (dk_at dksX2_init_0 11 rfl rfl)
theorem dX2_init_12 : decode cX2_init 12 = .ok (.invokespecial 1, 3) := dk_183 0 1 (dk_at dksX2_init_0 12 rfl rfl)
theorem dX2_init_15 : decode cX2_init 15 = .ok (.return_, 1) := dk_177 (dk_at dksX2_init_0 15 rfl rfl)
abbrev cX2_init_2 : ByteArray := prog_4_method_2_code
def yX2_init_2 : MethodName := ⟨RX2, "<init>", "(ZIIIIIII)V"⟩
def dkwX2_init_2_2 : List UInt8 := [181, 0, 35, 177]
abbrev dktX2_init_2_2 : List UInt8 := dkwX2_init_2_2 ++ []
def dkwX2_init_2_1 : List UInt8 := [181, 0, 23, 42, 21, 5, 181, 0, 26, 42, 21, 6, 181, 0, 29, 42, 21, 7, 181, 0, 32, 42, 21, 8]
abbrev dktX2_init_2_1 : List UInt8 := dkwX2_init_2_1 ++ dktX2_init_2_2
def dkwX2_init_2_0 : List UInt8 := [42, 183, 0, 7, 42, 27, 181, 0, 12, 42, 28, 181, 0, 16, 42, 29, 181, 0, 20, 42, 21, 4]
abbrev dktX2_init_2_0 : List UInt8 := dkwX2_init_2_0 ++ dktX2_init_2_1
theorem dksX2_init_2_0 : cX2_init_2.data.toList.drop 0 = dktX2_init_2_0 := by decide +kernel
theorem dksX2_init_2_1 : cX2_init_2.data.toList.drop 22 = dktX2_init_2_1 := dk_seg dksX2_init_2_0 22 rfl rfl
theorem dksX2_init_2_2 : cX2_init_2.data.toList.drop 46 = dktX2_init_2_2 := dk_seg dksX2_init_2_1 24 rfl rfl
theorem dX2_init_2_0 : decode cX2_init_2 0 = .ok (.aload_n 0, 1) := dk_42 (dk_at dksX2_init_2_0 0 rfl rfl)
theorem dX2_init_2_1 : decode cX2_init_2 1 = .ok (.invokespecial 7, 3) := dk_183 0 7 (dk_at dksX2_init_2_0 1 rfl rfl)
theorem dX2_init_2_4 : decode cX2_init_2 4 = .ok (.aload_n 0, 1) := dk_42 (dk_at dksX2_init_2_0 4 rfl rfl)
theorem dX2_init_2_5 : decode cX2_init_2 5 = .ok (.iload_n 1, 1) := dk_27 (dk_at dksX2_init_2_0 5 rfl rfl)
theorem dX2_init_2_6 : decode cX2_init_2 6 = .ok (.putfield 12, 3) := dk_181 0 12 (dk_at dksX2_init_2_0 6 rfl rfl)
theorem dX2_init_2_9 : decode cX2_init_2 9 = .ok (.aload_n 0, 1) := dk_42 (dk_at dksX2_init_2_0 9 rfl rfl)
theorem dX2_init_2_10 : decode cX2_init_2 10 = .ok (.iload_n 2, 1) := dk_28 (dk_at dksX2_init_2_0 10 rfl rfl)
theorem dX2_init_2_11 : decode cX2_init_2 11 = .ok (.putfield 16, 3) := dk_181 0 16 (dk_at dksX2_init_2_0 11 rfl rfl)
theorem dX2_init_2_14 : decode cX2_init_2 14 = .ok (.aload_n 0, 1) := dk_42 (dk_at dksX2_init_2_0 14 rfl rfl)
theorem dX2_init_2_15 : decode cX2_init_2 15 = .ok (.iload_n 3, 1) := dk_29 (dk_at dksX2_init_2_0 15 rfl rfl)
theorem dX2_init_2_16 : decode cX2_init_2 16 = .ok (.putfield 20, 3) := dk_181 0 20 (dk_at dksX2_init_2_0 16 rfl rfl)
theorem dX2_init_2_19 : decode cX2_init_2 19 = .ok (.aload_n 0, 1) := dk_42 (dk_at dksX2_init_2_0 19 rfl rfl)
theorem dX2_init_2_20 : decode cX2_init_2 20 = .ok (.iload 4, 2) := dk_21 4 (dk_at dksX2_init_2_0 20 rfl rfl)
theorem dX2_init_2_22 : decode cX2_init_2 22 = .ok (.putfield 23, 3) := dk_181 0 23 (dk_at dksX2_init_2_1 0 rfl rfl)
theorem dX2_init_2_25 : decode cX2_init_2 25 = .ok (.aload_n 0, 1) := dk_42 (dk_at dksX2_init_2_1 3 rfl rfl)
theorem dX2_init_2_26 : decode cX2_init_2 26 = .ok (.iload 5, 2) := dk_21 5 (dk_at dksX2_init_2_1 4 rfl rfl)
theorem dX2_init_2_28 : decode cX2_init_2 28 = .ok (.putfield 26, 3) := dk_181 0 26 (dk_at dksX2_init_2_1 6 rfl rfl)
theorem dX2_init_2_31 : decode cX2_init_2 31 = .ok (.aload_n 0, 1) := dk_42 (dk_at dksX2_init_2_1 9 rfl rfl)
theorem dX2_init_2_32 : decode cX2_init_2 32 = .ok (.iload 6, 2) := dk_21 6 (dk_at dksX2_init_2_1 10 rfl rfl)
theorem dX2_init_2_34 : decode cX2_init_2 34 = .ok (.putfield 29, 3) := dk_181 0 29 (dk_at dksX2_init_2_1 12 rfl rfl)
theorem dX2_init_2_37 : decode cX2_init_2 37 = .ok (.aload_n 0, 1) := dk_42 (dk_at dksX2_init_2_1 15 rfl rfl)
theorem dX2_init_2_38 : decode cX2_init_2 38 = .ok (.iload 7, 2) := dk_21 7 (dk_at dksX2_init_2_1 16 rfl rfl)
theorem dX2_init_2_40 : decode cX2_init_2 40 = .ok (.putfield 32, 3) := dk_181 0 32 (dk_at dksX2_init_2_1 18 rfl rfl)
theorem dX2_init_2_43 : decode cX2_init_2 43 = .ok (.aload_n 0, 1) := dk_42 (dk_at dksX2_init_2_1 21 rfl rfl)
theorem dX2_init_2_44 : decode cX2_init_2 44 = .ok (.iload 8, 2) := dk_21 8 (dk_at dksX2_init_2_1 22 rfl rfl)
theorem dX2_init_2_46 : decode cX2_init_2 46 = .ok (.putfield 35, 3) := dk_181 0 35 (dk_at dksX2_init_2_2 0 rfl rfl)
theorem dX2_init_2_49 : decode cX2_init_2 49 = .ok (.return_, 1) := dk_177 (dk_at dksX2_init_2_2 3 rfl rfl)
abbrev cX2_getDataCapacity : ByteArray := prog_4_method_4_code
def yX2_getDataCapacity : MethodName := ⟨RX2, "getDataCapacity", "()I"⟩
theorem dX2_getDataCapacity_0 : decode cX2_getDataCapacity 0 = .ok (.aload_n 0, 1) := by decide +kernel
theorem dX2_getDataCapacity_1 : decode cX2_getDataCapacity 1 = .ok (.getfield 16, 3) := by decide +kernel
theorem dX2_getDataCapacity_4 : decode cX2_getDataCapacity 4 = .ok (.ireturn, 1) := by decide +kernel
abbrev cX2_getErrorCodewords : ByteArray := prog_4_method_5_code
def yX2_getErrorCodewords : MethodName := ⟨RX2, "getErrorCodewords", "()I"⟩
theorem dX2_getErrorCodewords_0 : decode cX2_getErrorCodewords 0 = .ok (.aload_n 0, 1) := by decide +kernel
theorem dX2_getErrorCodewords_1 : decode cX2_getErrorCodewords 1 = .ok (.getfield 20, 3) := by decide +kernel
theorem dX2_getErrorCodewords_4 : decode cX2_getErrorCodewords 4 = .ok (.ireturn, 1) := by decide +kernel
abbrev cX2_getInterleavedBlockCount : ByteArray := prog_4_method_3_code
def yX2_getInterleavedBlockCount : MethodName := ⟨RX2, "getInterleavedBlockCount", "()I"⟩
def dkwX2_getInterleavedBlockCount_0 : List UInt8 := [42, 180, 0, 16, 42, 180, 0, 32, 108, 172]
abbrev dktX2_getInterleavedBlockCount_0 : List UInt8 := dkwX2_getInterleavedBlockCount_0 ++ []
theorem dksX2_getInterleavedBlockCount_0 : cX2_getInterleavedBlockCount.data.toList.drop 0 = dktX2_getInterleavedBlockCount_0 := by decide +kernel
theorem dX2_getInterleavedBlockCount_0 : decode cX2_getInterleavedBlockCount 0 = .ok (.aload_n 0, 1) := dk_42 (dk_at dksX2_getInterleavedBlockCount_0 0 rfl rfl)
theorem dX2_getInterleavedBlockCount_1 : decode cX2_getInterleavedBlockCount 1 = .ok (.getfield 16, 3) := dk_180 0 16 (dk_at dksX2_getInterleavedBlockCount_0 1 rfl rfl)
theorem dX2_getInterleavedBlockCount_4 : decode cX2_getInterleavedBlockCount 4 = .ok (.aload_n 0, 1) := dk_42 (dk_at dksX2_getInterleavedBlockCount_0 4 rfl rfl)
theorem dX2_getInterleavedBlockCount_5 : decode cX2_getInterleavedBlockCount 5 = .ok (.getfield 32, 3) := dk_180 0 32 (dk_at dksX2_getInterleavedBlockCount_0 5 rfl rfl)
theorem dX2_getInterleavedBlockCount_8 : decode cX2_getInterleavedBlockCount 8 = .ok (.idiv, 1) := dk_108 (dk_at dksX2_getInterleavedBlockCount_0 8 rfl rfl)
theorem dX2_getInterleavedBlockCount_9 : decode cX2_getInterleavedBlockCount 9 = .ok (.ireturn, 1) := dk_172 (dk_at dksX2_getInterleavedBlockCount_0 9 rfl rfl)
abbrev cX2_getDataLengthForInterleavedBlock : ByteArray := prog_4_method_6_code
def yX2_getDataLengthForInterleavedBlock : MethodName := ⟨RX2, "getDataLengthForInterleavedBlock", "(I)I"⟩
theorem dX2_getDataLengthForInterleavedBlock_0 : decode cX2_getDataLengthForInterleavedBlock 0 = .ok (.aload_n 0, 1) := by decide +kernel
theorem dX2_getDataLengthForInterleavedBlock_1 : decode cX2_getDataLengthForInterleavedBlock 1 = .ok (.getfield 32, 3) := by decide +kernel
theorem dX2_getDataLengthForInterleavedBlock_4 : decode cX2_getDataLengthForInterleavedBlock 4 = .ok (.ireturn, 1) := by decide +kernel
abbrev cX2_getErrorLengthForInterleavedBlock : ByteArray := prog_4_method_7_code
def yX2_getErrorLengthForInterleavedBlock : MethodName := ⟨RX2, "getErrorLengthForInterleavedBlock", "(I)I"⟩
theorem dX2_getErrorLengthForInterleavedBlock_0 : decode cX2_getErrorLengthForInterleavedBlock 0 = .ok (.aload_n 0, 1) := by decide +kernel
theorem dX2_getErrorLengthForInterleavedBlock_1 : decode cX2_getErrorLengthForInterleavedBlock 1 = .ok (.getfield 35, 3) := by decide +kernel
theorem dX2_getErrorLengthForInterleavedBlock_4 : decode cX2_getErrorLengthForInterleavedBlock 4 = .ok (.ireturn, 1) := by decide +kernel
theorem q7 : (Jvm.Cond.initialized "SymbolInfo") ∈ lw_all := lw_g (lw_at lw_m1 6 rfl) rfl
theorem q179 : (Jvm.Cond.instantiable "SymbolInfo" (8 : Nat)) ∈ lw_all := lw_g (lw_at lw_m1 178 rfl) rfl
theorem q183 : (Jvm.Cond.instanceMethod ({ cls := "SymbolInfo", name := "<init>", desc := "(ZIIIII)V" } : Jvm.MethodName)) ∈ lw_all := lw_g (lw_at lw_m1 182 rfl) rfl
theorem q184 : (Jvm.Cond.code ({ cls := "SymbolInfo", name := "<init>", desc := "(ZIIIII)V" } : Jvm.MethodName) prog_4_method_1_code (7 : Nat) (Option.none : Option Jvm.ClassFile.FieldType)) ∈ lw_all := lw_g (lw_at lw_m1 183 rfl) rfl
theorem q185 : (Jvm.Cond.methodLink "SymbolInfo" (1 : Nat) ({ cls := "SymbolInfo", name := "<init>", desc := "(ZIIIIIII)V" } : Jvm.MethodName)) ∈ lw_all := lw_g (lw_at lw_m1 184 rfl) rfl
theorem q186 : (Jvm.Cond.instanceMethod ({ cls := "SymbolInfo", name := "<init>", desc := "(ZIIIIIII)V" } : Jvm.MethodName)) ∈ lw_all := lw_g (lw_at lw_m1 185 rfl) rfl
theorem q187 : (Jvm.Cond.code ({ cls := "SymbolInfo", name := "<init>", desc := "(ZIIIIIII)V" } : Jvm.MethodName) prog_4_method_2_code (9 : Nat) (Option.none : Option Jvm.ClassFile.FieldType)) ∈ lw_all := lw_g (lw_at lw_m1 186 rfl) rfl
theorem q188 : (Jvm.Cond.methodLink "SymbolInfo" (7 : Nat) ({ cls := "java/lang/Object", name := "<init>", desc := "()V" } : Jvm.MethodName)) ∈ lw_all := lw_g (lw_at lw_m1 187 rfl) rfl
theorem q189 : (Jvm.Cond.fieldLink "SymbolInfo" (12 : Nat) "SymbolInfo" "rectangular" "Z") ∈ lw_all := lw_g (lw_at lw_m1 188 rfl) rfl
theorem q190 : (Jvm.Cond.fieldLink "SymbolInfo" (16 : Nat) "SymbolInfo" "dataCapacity" "I") ∈ lw_all := lw_g (lw_at lw_m1 189 rfl) rfl
theorem q191 : (Jvm.Cond.fieldLink "SymbolInfo" (20 : Nat) "SymbolInfo" "errorCodewords" "I") ∈ lw_all := lw_g (lw_at lw_m1 190 rfl) rfl
theorem q192 : (Jvm.Cond.fieldLink "SymbolInfo" (23 : Nat) "SymbolInfo" "matrixWidth" "I") ∈ lw_all := lw_g (lw_at lw_m1 191 rfl) rfl
theorem q193 : (Jvm.Cond.fieldLink "SymbolInfo" (26 : Nat) "SymbolInfo" "matrixHeight" "I") ∈ lw_all := lw_g (lw_at lw_m1 192 rfl) rfl
theorem q194 : (Jvm.Cond.fieldLink "SymbolInfo" (29 : Nat) "SymbolInfo" "dataRegions" "I") ∈ lw_all := lw_g (lw_at lw_m1 193 rfl) rfl
theorem q195 : (Jvm.Cond.fieldLink "SymbolInfo" (32 : Nat) "SymbolInfo" "rsBlockData" "I") ∈ lw_all := lw_g (lw_at lw_m1 194 rfl) rfl
theorem q196 : (Jvm.Cond.fieldLink "SymbolInfo" (35 : Nat) "SymbolInfo" "rsBlockError" "I") ∈ lw_all := lw_g (lw_at lw_m1 195 rfl) rfl
theorem q197 : (Jvm.Cond.laysFinal "SymbolInfo" "SymbolInfo" "rectangular" "Z") ∈ lw_all := lw_g (lw_at lw_m1 196 rfl) rfl
theorem q198 : (Jvm.Cond.soleField "SymbolInfo" "rectangular") ∈ lw_all := lw_g (lw_at lw_m1 197 rfl) rfl
theorem q199 : (Jvm.Cond.laysFinal "SymbolInfo" "SymbolInfo" "dataCapacity" "I") ∈ lw_all := lw_g (lw_at lw_m1 198 rfl) rfl
theorem q200 : (Jvm.Cond.soleField "SymbolInfo" "dataCapacity") ∈ lw_all := lw_g (lw_at lw_m1 199 rfl) rfl
theorem q201 : (Jvm.Cond.laysFinal "SymbolInfo" "SymbolInfo" "errorCodewords" "I") ∈ lw_all := lw_g (lw_at lw_m1 200 rfl) rfl
theorem q202 : (Jvm.Cond.soleField "SymbolInfo" "errorCodewords") ∈ lw_all := lw_g (lw_at lw_m1 201 rfl) rfl
theorem q203 : (Jvm.Cond.laysFinal "SymbolInfo" "SymbolInfo" "matrixWidth" "I") ∈ lw_all := lw_g (lw_at lw_m1 202 rfl) rfl
theorem q204 : (Jvm.Cond.soleField "SymbolInfo" "matrixWidth") ∈ lw_all := lw_g (lw_at lw_m1 203 rfl) rfl
theorem q205 : (Jvm.Cond.laysFinal "SymbolInfo" "SymbolInfo" "matrixHeight" "I") ∈ lw_all := lw_g (lw_at lw_m1 204 rfl) rfl
theorem q206 : (Jvm.Cond.soleField "SymbolInfo" "matrixHeight") ∈ lw_all := lw_g (lw_at lw_m1 205 rfl) rfl
theorem q207 : (Jvm.Cond.laysFinal "SymbolInfo" "SymbolInfo" "dataRegions" "I") ∈ lw_all := lw_g (lw_at lw_m1 206 rfl) rfl
theorem q208 : (Jvm.Cond.soleField "SymbolInfo" "dataRegions") ∈ lw_all := lw_g (lw_at lw_m1 207 rfl) rfl
theorem q209 : (Jvm.Cond.laysFinal "SymbolInfo" "SymbolInfo" "rsBlockData" "I") ∈ lw_all := lw_g (lw_at lw_m1 208 rfl) rfl
theorem q210 : (Jvm.Cond.soleField "SymbolInfo" "rsBlockData") ∈ lw_all := lw_g (lw_at lw_m1 209 rfl) rfl
theorem q211 : (Jvm.Cond.laysFinal "SymbolInfo" "SymbolInfo" "rsBlockError" "I") ∈ lw_all := lw_g (lw_at lw_m1 210 rfl) rfl
theorem q212 : (Jvm.Cond.soleField "SymbolInfo" "rsBlockError") ∈ lw_all := lw_g (lw_at lw_m1 211 rfl) rfl
theorem q213 : (Jvm.Cond.superclass "SymbolInfo" "java/lang/Object") ∈ lw_all := lw_g (lw_at lw_m1 212 rfl) rfl
theorem q219 : (Jvm.Cond.instanceMethod ({ cls := "SymbolInfo", name := "getDataCapacity", desc := "()I" } : Jvm.MethodName)) ∈ lw_all := lw_g (lw_at lw_m1 218 rfl) rfl
theorem q220 : (Jvm.Cond.selects "SymbolInfo" ({ cls := "SymbolInfo", name := "getDataCapacity", desc := "()I" } : Jvm.MethodName) ({ cls := "SymbolInfo", name := "getDataCapacity", desc := "()I" } : Jvm.MethodName)) ∈ lw_all := lw_g (lw_at lw_m1 219 rfl) rfl
theorem q221 : (Jvm.Cond.code ({ cls := "SymbolInfo", name := "getDataCapacity", desc := "()I" } : Jvm.MethodName) prog_4_method_4_code (1 : Nat) (Option.some Jvm.ClassFile.FieldType.int)) ∈ lw_all := lw_g (lw_at lw_m1 220 rfl) rfl
theorem q290 : (Jvm.Cond.instanceMethod ({ cls := "SymbolInfo", name := "getErrorCodewords", desc := "()I" } : Jvm.MethodName)) ∈ lw_all := lw_g (lw_at lw_m2 49 rfl) rfl
theorem q291 : (Jvm.Cond.selects "SymbolInfo" ({ cls := "SymbolInfo", name := "getErrorCodewords", desc := "()I" } : Jvm.MethodName) ({ cls := "SymbolInfo", name := "getErrorCodewords", desc := "()I" } : Jvm.MethodName)) ∈ lw_all := lw_g (lw_at lw_m2 50 rfl) rfl
theorem q292 : (Jvm.Cond.code ({ cls := "SymbolInfo", name := "getErrorCodewords", desc := "()I" } : Jvm.MethodName) prog_4_method_5_code (1 : Nat) (Option.some Jvm.ClassFile.FieldType.int)) ∈ lw_all := lw_g (lw_at lw_m2 51 rfl) rfl
theorem q406 : (Jvm.Cond.instanceMethod ({ cls := "SymbolInfo", name := "getInterleavedBlockCount", desc := "()I" } : Jvm.MethodName)) ∈ lw_all := lw_g (lw_at lw_m2 165 rfl) rfl
theorem q407 : (Jvm.Cond.selects "SymbolInfo" ({ cls := "SymbolInfo", name := "getInterleavedBlockCount", desc := "()I" } : Jvm.MethodName) ({ cls := "SymbolInfo", name := "getInterleavedBlockCount", desc := "()I" } : Jvm.MethodName)) ∈ lw_all := lw_g (lw_at lw_m2 166 rfl) rfl
theorem q408 : (Jvm.Cond.code ({ cls := "SymbolInfo", name := "getInterleavedBlockCount", desc := "()I" } : Jvm.MethodName) prog_4_method_3_code (1 : Nat) (Option.some Jvm.ClassFile.FieldType.int)) ∈ lw_all := lw_g (lw_at lw_m2 167 rfl) rfl
theorem q491 : (Jvm.Cond.instanceMethod ({ cls := "SymbolInfo", name := "getDataLengthForInterleavedBlock", desc := "(I)I" } : Jvm.MethodName)) ∈ lw_all := lw_g (lw_at lw_m3 10 rfl) rfl
theorem q492 : (Jvm.Cond.selects "SymbolInfo" ({ cls := "SymbolInfo", name := "getDataLengthForInterleavedBlock", desc := "(I)I" } : Jvm.MethodName) ({ cls := "SymbolInfo", name := "getDataLengthForInterleavedBlock", desc := "(I)I" } : Jvm.MethodName)) ∈ lw_all := lw_g (lw_at lw_m3 11 rfl) rfl
theorem q493 : (Jvm.Cond.code ({ cls := "SymbolInfo", name := "getDataLengthForInterleavedBlock", desc := "(I)I" } : Jvm.MethodName) prog_4_method_6_code (2 : Nat) (Option.some Jvm.ClassFile.FieldType.int)) ∈ lw_all := lw_g (lw_at lw_m3 12 rfl) rfl
theorem q495 : (Jvm.Cond.instanceMethod ({ cls := "SymbolInfo", name := "getErrorLengthForInterleavedBlock", desc := "(I)I" } : Jvm.MethodName)) ∈ lw_all := lw_g (lw_at lw_m3 14 rfl) rfl
theorem q496 : (Jvm.Cond.selects "SymbolInfo" ({ cls := "SymbolInfo", name := "getErrorLengthForInterleavedBlock", desc := "(I)I" } : Jvm.MethodName) ({ cls := "SymbolInfo", name := "getErrorLengthForInterleavedBlock", desc := "(I)I" } : Jvm.MethodName)) ∈ lw_all := lw_g (lw_at lw_m3 15 rfl) rfl
theorem q497 : (Jvm.Cond.code ({ cls := "SymbolInfo", name := "getErrorLengthForInterleavedBlock", desc := "(I)I" } : Jvm.MethodName) prog_4_method_7_code (2 : Nat) (Option.some Jvm.ClassFile.FieldType.int)) ∈ lw_all := lw_g (lw_at lw_m3 16 rfl) rfl
theorem in_X2 : ∀ w ∈ wsX20, w ∈ lw_all := lw_in wsX20 [197, 199, 201, 203, 205, 207, 209, 211] (by decide +kernel) (by decide +kernel)
/-! ErrorCorrection -/
set_option maxRecDepth 100000
def RX3 : String := "ErrorCorrection"
abbrev cX3_encodeECC200 : ByteArray := prog_1_method_1_code
def yX3_encodeECC200 : MethodName := ⟨RX3, "encodeECC200", "(Ljava/lang/String;LSymbolInfo;)Ljava/lang/String;"⟩
def dkwX3_encodeECC200_11 : List UInt8 := [44, 182, 0, 61, 176]
abbrev dktX3_encodeECC200_11 : List UInt8 := dkwX3_encodeECC200_11 ++ []
def dkwX3_encodeECC200_10 : List UInt8 := [132, 9, 1, 182, 0, 54, 182, 0, 65, 21, 10, 29, 96, 54, 10, 167, 255, 217, 132, 6, 1, 167, 255, 135]
abbrev dktX3_encodeECC200_10 : List UInt8 := dkwX3_encodeECC200_10 ++ dktX3_encodeECC200_11
def dkwX3_encodeECC200_9 : List UInt8 := [25, 5, 21, 6, 46, 29, 104, 162, 0, 33, 44, 43, 182, 0, 7, 21, 10, 96, 25, 8, 21, 9]
abbrev dktX3_encodeECC200_9 : List UInt8 := dkwX3_encodeECC200_9 ++ dktX3_encodeECC200_10
def dkwX3_encodeECC200_8 : List UInt8 := [25, 7, 182, 0, 61, 25, 5, 21, 6, 46, 184, 0, 35, 58, 8, 3, 54, 9, 21, 6, 54, 10, 21, 10]
abbrev dktX3_encodeECC200_8 : List UInt8 := dkwX3_encodeECC200_8 ++ dktX3_encodeECC200_9
def dkwX3_encodeECC200_7 : List UInt8 := [162, 0, 24, 25, 7, 42, 21, 8, 182, 0, 54, 182, 0, 58, 87, 21, 8, 29, 96, 54, 8, 167, 255, 229]
abbrev dktX3_encodeECC200_7 : List UInt8 := dkwX3_encodeECC200_7 ++ dktX3_encodeECC200_8
def dkwX3_encodeECC200_6 : List UInt8 := [187, 0, 20, 89, 25, 4, 21, 6, 46, 183, 0, 25, 58, 7, 21, 6, 54, 8, 21, 8, 43, 182, 0, 7]
abbrev dktX3_encodeECC200_6 : List UInt8 := dkwX3_encodeECC200_6 ++ dktX3_encodeECC200_7
def dkwX3_encodeECC200_5 : List UInt8 := [21, 6, 4, 96, 182, 0, 51, 79, 132, 6, 1, 167, 255, 221, 3, 54, 6, 21, 6, 29, 162, 0, 121]
abbrev dktX3_encodeECC200_5 : List UInt8 := dkwX3_encodeECC200_5 ++ dktX3_encodeECC200_6
def dkwX3_encodeECC200_4 : List UInt8 := [21, 6, 29, 162, 0, 35, 25, 4, 21, 6, 43, 21, 6, 4, 96, 182, 0, 47, 79, 25, 5, 21, 6, 43]
abbrev dktX3_encodeECC200_4 : List UInt8 := dkwX3_encodeECC200_4 ++ dktX3_encodeECC200_5
def dkwX3_encodeECC200_3 : List UInt8 := [167, 0, 189, 44, 44, 182, 0, 41, 182, 0, 44, 29, 188, 10, 58, 4, 29, 188, 10, 58, 5, 3, 54, 6]
abbrev dktX3_encodeECC200_3 : List UInt8 := dkwX3_encodeECC200_3 ++ dktX3_encodeECC200_4
def dkwX3_encodeECC200_2 : List UInt8 := [62, 29, 4, 160, 0, 23, 42, 43, 182, 0, 22, 184, 0, 35, 58, 4, 44, 25, 4, 182, 0, 28, 87]
abbrev dktX3_encodeECC200_2 : List UInt8 := dkwX3_encodeECC200_2 ++ dktX3_encodeECC200_3
def dkwX3_encodeECC200_1 : List UInt8 := [89, 43, 182, 0, 7, 43, 182, 0, 22, 96, 183, 0, 25, 77, 44, 42, 182, 0, 28, 87, 43, 182, 0, 32]
abbrev dktX3_encodeECC200_1 : List UInt8 := dkwX3_encodeECC200_1 ++ dktX3_encodeECC200_2
def dkwX3_encodeECC200_0 : List UInt8 := [42, 182, 0, 1, 43, 182, 0, 7, 159, 0, 13, 187, 0, 12, 89, 18, 14, 183, 0, 16, 191, 187, 0, 20]
abbrev dktX3_encodeECC200_0 : List UInt8 := dkwX3_encodeECC200_0 ++ dktX3_encodeECC200_1
theorem dksX3_encodeECC200_0 : cX3_encodeECC200.data.toList.drop 0 = dktX3_encodeECC200_0 := by decide +kernel
theorem dksX3_encodeECC200_1 : cX3_encodeECC200.data.toList.drop 24 = dktX3_encodeECC200_1 := dk_seg dksX3_encodeECC200_0 24 rfl rfl
theorem dksX3_encodeECC200_2 : cX3_encodeECC200.data.toList.drop 48 = dktX3_encodeECC200_2 := dk_seg dksX3_encodeECC200_1 24 rfl rfl
theorem dksX3_encodeECC200_3 : cX3_encodeECC200.data.toList.drop 71 = dktX3_encodeECC200_3 := dk_seg dksX3_encodeECC200_2 23 rfl rfl
theorem dksX3_encodeECC200_4 : cX3_encodeECC200.data.toList.drop 95 = dktX3_encodeECC200_4 := dk_seg dksX3_encodeECC200_3 24 rfl rfl
theorem dksX3_encodeECC200_5 : cX3_encodeECC200.data.toList.drop 119 = dktX3_encodeECC200_5 := dk_seg dksX3_encodeECC200_4 24 rfl rfl
theorem dksX3_encodeECC200_6 : cX3_encodeECC200.data.toList.drop 142 = dktX3_encodeECC200_6 := dk_seg dksX3_encodeECC200_5 23 rfl rfl
theorem dksX3_encodeECC200_7 : cX3_encodeECC200.data.toList.drop 166 = dktX3_encodeECC200_7 := dk_seg dksX3_encodeECC200_6 24 rfl rfl
theorem dksX3_encodeECC200_8 : cX3_encodeECC200.data.toList.drop 190 = dktX3_encodeECC200_8 := dk_seg dksX3_encodeECC200_7 24 rfl rfl
theorem dksX3_encodeECC200_9 : cX3_encodeECC200.data.toList.drop 214 = dktX3_encodeECC200_9 := dk_seg dksX3_encodeECC200_8 24 rfl rfl
theorem dksX3_encodeECC200_10 : cX3_encodeECC200.data.toList.drop 236 = dktX3_encodeECC200_10 := dk_seg dksX3_encodeECC200_9 22 rfl rfl
theorem dksX3_encodeECC200_11 : cX3_encodeECC200.data.toList.drop 260 = dktX3_encodeECC200_11 := dk_seg dksX3_encodeECC200_10 24 rfl rfl
theorem dX3_encodeECC200_0 : decode cX3_encodeECC200 0 = .ok (.aload_n 0, 1) := dk_42 (dk_at dksX3_encodeECC200_0 0 rfl rfl)
theorem dX3_encodeECC200_1 : decode cX3_encodeECC200 1 = .ok (.invokevirtual 1, 3) := dk_182 0 1 (dk_at dksX3_encodeECC200_0 1 rfl rfl)
theorem dX3_encodeECC200_4 : decode cX3_encodeECC200 4 = .ok (.aload_n 1, 1) := dk_43 (dk_at dksX3_encodeECC200_0 4 rfl rfl)
theorem dX3_encodeECC200_5 : decode cX3_encodeECC200 5 = .ok (.invokevirtual 7, 3) := dk_182 0 7 (dk_at dksX3_encodeECC200_0 5 rfl rfl)
theorem dX3_encodeECC200_8 : decode cX3_encodeECC200 8 = .ok (.if_icmp .eq 13, 3) := dk_159 0 13 (dk_at dksX3_encodeECC200_0 8 rfl rfl)
theorem dX3_encodeECC200_11 : decode cX3_encodeECC200 11 = .ok (.new 12, 3) := dk_187 0 12 (dk_at dksX3_encodeECC200_0 11 rfl rfl)
theorem dX3_encodeECC200_14 : decode cX3_encodeECC200 14 = .ok (.dup, 1) := dk_89 (dk_at dksX3_encodeECC200_0 14 rfl rfl)
theorem dX3_encodeECC200_15 : decode cX3_encodeECC200 15 = .ok (.ldc 14, 2) := dk_18 14 (dk_at dksX3_encodeECC200_0 15 rfl rfl)
theorem dX3_encodeECC200_17 : decode cX3_encodeECC200 17 = .ok (.invokespecial 16, 3) := dk_183 0 16 (dk_at dksX3_encodeECC200_0 17 rfl rfl)
theorem dX3_encodeECC200_20 : decode cX3_encodeECC200 20 = .ok (.athrow, 1) := dk_191 (dk_at dksX3_encodeECC200_0 20 rfl rfl)
theorem dX3_encodeECC200_21 : decode cX3_encodeECC200 21 = .ok (.new 20, 3) := dk_187 0 20 (dk_at dksX3_encodeECC200_0 21 rfl rfl)
theorem dX3_encodeECC200_24 : decode cX3_encodeECC200 24 = .ok (.dup, 1) := dk_89 (dk_at dksX3_encodeECC200_1 0 rfl rfl)
theorem dX3_encodeECC200_25 : decode cX3_encodeECC200 25 = .ok (.aload_n 1, 1) := dk_43 (dk_at dksX3_encodeECC200_1 1 rfl rfl)
theorem dX3_encodeECC200_26 : decode cX3_encodeECC200 26 = .ok (.invokevirtual 7, 3) := dk_182 0 7 (dk_at dksX3_encodeECC200_1 2 rfl rfl)
theorem dX3_encodeECC200_29 : decode cX3_encodeECC200 29 = .ok (.aload_n 1, 1) := dk_43 (dk_at dksX3_encodeECC200_1 5 rfl rfl)
theorem dX3_encodeECC200_30 : decode cX3_encodeECC200 30 = .ok (.invokevirtual 22, 3) := dk_182 0 22 (dk_at dksX3_encodeECC200_1 6 rfl rfl)
theorem dX3_encodeECC200_33 : decode cX3_encodeECC200 33 = .ok (.iadd, 1) := dk_96 (dk_at dksX3_encodeECC200_1 9 rfl rfl)
theorem dX3_encodeECC200_34 : decode cX3_encodeECC200 34 = .ok (.invokespecial 25, 3) := dk_183 0 25 (dk_at dksX3_encodeECC200_1 10 rfl rfl)
theorem dX3_encodeECC200_37 : decode cX3_encodeECC200 37 = .ok (.astore_n 2, 1) := dk_77 (dk_at dksX3_encodeECC200_1 13 rfl rfl)
theorem dX3_encodeECC200_38 : decode cX3_encodeECC200 38 = .ok (.aload_n 2, 1) := dk_44 (dk_at dksX3_encodeECC200_1 14 rfl rfl)
theorem dX3_encodeECC200_39 : decode cX3_encodeECC200 39 = .ok (.aload_n 0, 1) := dk_42 (dk_at dksX3_encodeECC200_1 15 rfl rfl)
theorem dX3_encodeECC200_40 : decode cX3_encodeECC200 40 = .ok (.invokevirtual 28, 3) := dk_182 0 28 (dk_at dksX3_encodeECC200_1 16 rfl rfl)
theorem dX3_encodeECC200_43 : decode cX3_encodeECC200 43 = .ok (.pop, 1) := dk_87 (dk_at dksX3_encodeECC200_1 19 rfl rfl)
theorem dX3_encodeECC200_44 : decode cX3_encodeECC200 44 = .ok (.aload_n 1, 1) := dk_43 (dk_at dksX3_encodeECC200_1 20 rfl rfl)
theorem dX3_encodeECC200_45 : decode cX3_encodeECC200 45 = .ok (.invokevirtual 32, 3) := dk_182 0 32 (dk_at dksX3_encodeECC200_1 21 rfl rfl)
theorem dX3_encodeECC200_48 : decode cX3_encodeECC200 48 = .ok (.istore_n 3, 1) := dk_62 (dk_at dksX3_encodeECC200_2 0 rfl rfl)
theorem dX3_encodeECC200_49 : decode cX3_encodeECC200 49 = .ok (.iload_n 3, 1) := dk_29 (dk_at dksX3_encodeECC200_2 1 rfl rfl)
theorem dX3_encodeECC200_50 : decode cX3_encodeECC200 50 = .ok (.iconst 1, 1) := dk_4 (dk_at dksX3_encodeECC200_2 2 rfl rfl)
theorem dX3_encodeECC200_51 : decode cX3_encodeECC200 51 = .ok (.if_icmp .ne 23, 3) := dk_160 0 23 (dk_at dksX3_encodeECC200_2 3 rfl rfl)
theorem dX3_encodeECC200_54 : decode cX3_encodeECC200 54 = .ok (.aload_n 0, 1) := dk_42 (dk_at dksX3_encodeECC200_2 6 rfl rfl)
theorem dX3_encodeECC200_55 : decode cX3_encodeECC200 55 = .ok (.aload_n 1, 1) := dk_43 (dk_at dksX3_encodeECC200_2 7 rfl rfl)
theorem dX3_encodeECC200_56 : decode cX3_encodeECC200 56 = .ok (.invokevirtual 22, 3) := dk_182 0 22 (dk_at dksX3_encodeECC200_2 8 rfl rfl)
theorem dX3_encodeECC200_59 : decode cX3_encodeECC200 59 = .ok (.invokestatic 35, 3) := dk_184 0 35 (dk_at dksX3_encodeECC200_2 11 rfl rfl)
theorem dX3_encodeECC200_62 : decode cX3_encodeECC200 62 = .ok (.astore 4, 2) := dk_58 4 (dk_at dksX3_encodeECC200_2 14 rfl rfl)
theorem dX3_encodeECC200_64 : decode cX3_encodeECC200 64 = .ok (.aload_n 2, 1) := dk_44 (dk_at dksX3_encodeECC200_2 16 rfl rfl)
theorem dX3_encodeECC200_65 : decode cX3_encodeECC200 65 = .ok (.aload 4, 2) := dk_25 4 (dk_at dksX3_encodeECC200_2 17 rfl rfl)
theorem dX3_encodeECC200_67 : decode cX3_encodeECC200 67 = .ok (.invokevirtual 28, 3) := dk_182 0 28 (dk_at dksX3_encodeECC200_2 19 rfl rfl)
theorem dX3_encodeECC200_70 : decode cX3_encodeECC200 70 = .ok (.pop, 1) := dk_87 (dk_at dksX3_encodeECC200_2 22 rfl rfl)
theorem dX3_encodeECC200_71 : decode cX3_encodeECC200 71 = .ok (.goto 189, 3) := dk_167 0 189 (dk_at dksX3_encodeECC200_3 0 rfl rfl)
theorem dX3_encodeECC200_74 : decode cX3_encodeECC200 74 = .ok (.aload_n 2, 1) := dk_44 (dk_at dksX3_encodeECC200_3 3 rfl rfl)
theorem dX3_encodeECC200_75 : decode cX3_encodeECC200 75 = .ok (.aload_n 2, 1) := dk_44 (dk_at dksX3_encodeECC200_3 4 rfl rfl)
theorem dX3_encodeECC200_76 : decode cX3_encodeECC200 76 = .ok (.invokevirtual 41, 3) := dk_182 0 41 (dk_at dksX3_encodeECC200_3 5 rfl rfl)
theorem dX3_encodeECC200_79 : decode cX3_encodeECC200 79 = .ok (.invokevirtual 44, 3) := dk_182 0 44 (dk_at dksX3_encodeECC200_3 8 rfl rfl)
theorem dX3_encodeECC200_82 : decode cX3_encodeECC200 82 = .ok (.iload_n 3, 1) := dk_29 (dk_at dksX3_encodeECC200_3 11 rfl rfl)
theorem dX3_encodeECC200_83 : decode cX3_encodeECC200 83 = .ok (.newarray .int, 2) := dk_188_10 (dk_at dksX3_encodeECC200_3 12 rfl rfl)
theorem dX3_encodeECC200_85 : decode cX3_encodeECC200 85 = .ok (.astore 4, 2) := dk_58 4 (dk_at dksX3_encodeECC200_3 14 rfl rfl)
theorem dX3_encodeECC200_87 : decode cX3_encodeECC200 87 = .ok (.iload_n 3, 1) := dk_29 (dk_at dksX3_encodeECC200_3 16 rfl rfl)
theorem dX3_encodeECC200_88 : decode cX3_encodeECC200 88 = .ok (.newarray .int, 2) := dk_188_10 (dk_at dksX3_encodeECC200_3 17 rfl rfl)
theorem dX3_encodeECC200_90 : decode cX3_encodeECC200 90 = .ok (.astore 5, 2) := dk_58 5 (dk_at dksX3_encodeECC200_3 19 rfl rfl)
theorem dX3_encodeECC200_92 : decode cX3_encodeECC200 92 = .ok (.iconst 0, 1) := dk_3 (dk_at dksX3_encodeECC200_3 21 rfl rfl)
theorem dX3_encodeECC200_93 : decode cX3_encodeECC200 93 = .ok (.istore 6, 2) := dk_54 6 (dk_at dksX3_encodeECC200_3 22 rfl rfl)
theorem dX3_encodeECC200_95 : decode cX3_encodeECC200 95 = .ok (.iload 6, 2) := dk_21 6 (dk_at dksX3_encodeECC200_4 0 rfl rfl)
theorem dX3_encodeECC200_97 : decode cX3_encodeECC200 97 = .ok (.iload_n 3, 1) := dk_29 (dk_at dksX3_encodeECC200_4 2 rfl rfl)
theorem dX3_encodeECC200_98 : decode cX3_encodeECC200 98 = .ok (.if_icmp .ge 35, 3) := dk_162 0 35 (dk_at dksX3_encodeECC200_4 3 rfl rfl)
theorem dX3_encodeECC200_101 : decode cX3_encodeECC200 101 = .ok (.aload 4, 2) := dk_25 4 (dk_at dksX3_encodeECC200_4 6 rfl rfl)
theorem dX3_encodeECC200_103 : decode cX3_encodeECC200 103 = .ok (.iload 6, 2) := dk_21 6 (dk_at dksX3_encodeECC200_4 8 rfl rfl)
theorem dX3_encodeECC200_105 : decode cX3_encodeECC200 105 = .ok (.aload_n 1, 1) := dk_43 (dk_at dksX3_encodeECC200_4 10 rfl rfl)
theorem dX3_encodeECC200_106 : decode cX3_encodeECC200 106 = .ok (.iload 6, 2) := dk_21 6 (dk_at dksX3_encodeECC200_4 11 rfl rfl)
theorem dX3_encodeECC200_108 : decode cX3_encodeECC200 108 = .ok (.iconst 1, 1) := dk_4 (dk_at dksX3_encodeECC200_4 13 rfl rfl)
theorem dX3_encodeECC200_109 : decode cX3_encodeECC200 109 = .ok (.iadd, 1) := dk_96 (dk_at dksX3_encodeECC200_4 14 rfl rfl)
theorem dX3_encodeECC200_110 : decode cX3_encodeECC200 110 = .ok (.invokevirtual 47, 3) := dk_182 0 47 (dk_at dksX3_encodeECC200_4 15 rfl rfl)
theorem dX3_encodeECC200_113 : decode cX3_encodeECC200 113 = .ok (.iastore, 1) := dk_79 (dk_at dksX3_encodeECC200_4 18 rfl rfl)
theorem dX3_encodeECC200_114 : decode cX3_encodeECC200 114 = .ok (.aload 5, 2) := dk_25 5 (dk_at dksX3_encodeECC200_4 19 rfl rfl)
theorem dX3_encodeECC200_116 : decode cX3_encodeECC200 116 = .ok (.iload 6, 2) := dk_21 6 (dk_at dksX3_encodeECC200_4 21 rfl rfl)
theorem dX3_encodeECC200_118 : decode cX3_encodeECC200 118 = .ok (.aload_n 1, 1) := dk_43 (dk_at dksX3_encodeECC200_4 23 rfl rfl)
theorem dX3_encodeECC200_119 : decode cX3_encodeECC200 119 = .ok (.iload 6, 2) := dk_21 6 (dk_at dksX3_encodeECC200_5 0 rfl rfl)
theorem dX3_encodeECC200_121 : decode cX3_encodeECC200 121 = .ok (.iconst 1, 1) := dk_4 (dk_at dksX3_encodeECC200_5 2 rfl rfl)
theorem dX3_encodeECC200_122 : decode cX3_encodeECC200 122 = .ok (.iadd, 1) := dk_96 (dk_at dksX3_encodeECC200_5 3 rfl rfl)
theorem dX3_encodeECC200_123 : decode cX3_encodeECC200 123 = .ok (.invokevirtual 51, 3) := dk_182 0 51 (dk_at dksX3_encodeECC200_5 4 rfl rfl)
theorem dX3_encodeECC200_126 : decode cX3_encodeECC200 126 = .ok (.iastore, 1) := dk_79 (dk_at dksX3_encodeECC200_5 7 rfl rfl)
theorem dX3_encodeECC200_127 : decode cX3_encodeECC200 127 = .ok (.iinc 6 1, 3) := dk_132 6 1 (dk_at dksX3_encodeECC200_5 8 rfl rfl)
theorem dX3_encodeECC200_130 : decode cX3_encodeECC200 130 = .ok (.goto (-35), 3) := dk_167 255 221 (dk_at dksX3_encodeECC200_5 11 rfl rfl)
theorem dX3_encodeECC200_133 : decode cX3_encodeECC200 133 = .ok (.iconst 0, 1) := dk_3 (dk_at dksX3_encodeECC200_5 14 rfl rfl)
theorem dX3_encodeECC200_134 : decode cX3_encodeECC200 134 = .ok (.istore 6, 2) := dk_54 6 (dk_at dksX3_encodeECC200_5 15 rfl rfl)
theorem dX3_encodeECC200_136 : decode cX3_encodeECC200 136 = .ok (.iload 6, 2) := dk_21 6 (dk_at dksX3_encodeECC200_5 17 rfl rfl)
theorem dX3_encodeECC200_138 : decode cX3_encodeECC200 138 = .ok (.iload_n 3, 1) := dk_29 (dk_at dksX3_encodeECC200_5 19 rfl rfl)
theorem dX3_encodeECC200_139 : decode cX3_encodeECC200 139 = .ok (.if_icmp .ge 121, 3) := dk_162 0 121 (dk_at dksX3_encodeECC200_5 20 rfl rfl)
theorem dX3_encodeECC200_142 : decode cX3_encodeECC200 142 = .ok (.new 20, 3) := dk_187 0 20 (dk_at dksX3_encodeECC200_6 0 rfl rfl)
theorem dX3_encodeECC200_145 : decode cX3_encodeECC200 145 = .ok (.dup, 1) := dk_89 (dk_at dksX3_encodeECC200_6 3 rfl rfl)
theorem dX3_encodeECC200_146 : decode cX3_encodeECC200 146 = .ok (.aload 4, 2) := dk_25 4 (dk_at dksX3_encodeECC200_6 4 rfl rfl)
theorem dX3_encodeECC200_148 : decode cX3_encodeECC200 148 = .ok (.iload 6, 2) := dk_21 6 (dk_at dksX3_encodeECC200_6 6 rfl rfl)
theorem dX3_encodeECC200_150 : decode cX3_encodeECC200 150 = .ok (.iaload, 1) := dk_46 (dk_at dksX3_encodeECC200_6 8 rfl rfl)
theorem dX3_encodeECC200_151 : decode cX3_encodeECC200 151 = .ok (.invokespecial 25, 3) := dk_183 0 25 (dk_at dksX3_encodeECC200_6 9 rfl rfl)
theorem dX3_encodeECC200_154 : decode cX3_encodeECC200 154 = .ok (.astore 7, 2) := dk_58 7 (dk_at dksX3_encodeECC200_6 12 rfl rfl)
theorem dX3_encodeECC200_156 : decode cX3_encodeECC200 156 = .ok (.iload 6, 2) := dk_21 6 (dk_at dksX3_encodeECC200_6 14 rfl rfl)
theorem dX3_encodeECC200_158 : decode cX3_encodeECC200 158 = .ok (.istore 8, 2) := dk_54 8 (dk_at dksX3_encodeECC200_6 16 rfl rfl)
theorem dX3_encodeECC200_160 : decode cX3_encodeECC200 160 = .ok (.iload 8, 2) := dk_21 8 (dk_at dksX3_encodeECC200_6 18 rfl rfl)
theorem dX3_encodeECC200_162 : decode cX3_encodeECC200 162 = .ok (.aload_n 1, 1) := dk_43 (dk_at dksX3_encodeECC200_6 20 rfl rfl)
theorem dX3_encodeECC200_163 : decode cX3_encodeECC200 163 = .ok (.invokevirtual 7, 3) := dk_182 0 7 (dk_at dksX3_encodeECC200_6 21 rfl rfl)
theorem dX3_encodeECC200_166 : decode cX3_encodeECC200 166 = .ok (.if_icmp .ge 24, 3) := dk_162 0 24 (dk_at dksX3_encodeECC200_7 0 rfl rfl)
theorem dX3_encodeECC200_169 : decode cX3_encodeECC200 169 = .ok (.aload 7, 2) := dk_25 7 (dk_at dksX3_encodeECC200_7 3 rfl rfl)
theorem dX3_encodeECC200_171 : decode cX3_encodeECC200 171 = .ok (.aload_n 0, 1) := dk_42 (dk_at dksX3_encodeECC200_7 5 rfl rfl)
theorem dX3_encodeECC200_172 : decode cX3_encodeECC200 172 = .ok (.iload 8, 2) := dk_21 8 (dk_at dksX3_encodeECC200_7 6 rfl rfl)
theorem dX3_encodeECC200_174 : decode cX3_encodeECC200 174 = .ok (.invokevirtual 54, 3) := dk_182 0 54 (dk_at dksX3_encodeECC200_7 8 rfl rfl)
theorem dX3_encodeECC200_177 : decode cX3_encodeECC200 177 = .ok (.invokevirtual 58, 3) := dk_182 0 58 (dk_at dksX3_encodeECC200_7 11 rfl rfl)
theorem dX3_encodeECC200_180 : decode cX3_encodeECC200 180 = .ok (.pop, 1) := dk_87 (dk_at dksX3_encodeECC200_7 14 rfl rfl)
theorem dX3_encodeECC200_181 : decode cX3_encodeECC200 181 = .ok (.iload 8, 2) := dk_21 8 (dk_at dksX3_encodeECC200_7 15 rfl rfl)
theorem dX3_encodeECC200_183 : decode cX3_encodeECC200 183 = .ok (.iload_n 3, 1) := dk_29 (dk_at dksX3_encodeECC200_7 17 rfl rfl)
theorem dX3_encodeECC200_184 : decode cX3_encodeECC200 184 = .ok (.iadd, 1) := dk_96 (dk_at dksX3_encodeECC200_7 18 rfl rfl)
theorem dX3_encodeECC200_185 : decode cX3_encodeECC200 185 = .ok (.istore 8, 2) := dk_54 8 (dk_at dksX3_encodeECC200_7 19 rfl rfl)
theorem dX3_encodeECC200_187 : decode cX3_encodeECC200 187 = .ok (.goto (-27), 3) := dk_167 255 229 (dk_at dksX3_encodeECC200_7 21 rfl rfl)
theorem dX3_encodeECC200_190 : decode cX3_encodeECC200 190 = .ok (.aload 7, 2) := dk_25 7 (dk_at dksX3_encodeECC200_8 0 rfl rfl)
theorem dX3_encodeECC200_192 : decode cX3_encodeECC200 192 = .ok (.invokevirtual 61, 3) := dk_182 0 61 (dk_at dksX3_encodeECC200_8 2 rfl rfl)
theorem dX3_encodeECC200_195 : decode cX3_encodeECC200 195 = .ok (.aload 5, 2) := dk_25 5 (dk_at dksX3_encodeECC200_8 5 rfl rfl)
theorem dX3_encodeECC200_197 : decode cX3_encodeECC200 197 = .ok (.iload 6, 2) := dk_21 6 (dk_at dksX3_encodeECC200_8 7 rfl rfl)
theorem dX3_encodeECC200_199 : decode cX3_encodeECC200 199 = .ok (.iaload, 1) := dk_46 (dk_at dksX3_encodeECC200_8 9 rfl rfl)
theorem dX3_encodeECC200_200 : decode cX3_encodeECC200 200 = .ok (.invokestatic 35, 3) := dk_184 0 35 (dk_at dksX3_encodeECC200_8 10 rfl rfl)
theorem dX3_encodeECC200_203 : decode cX3_encodeECC200 203 = .ok (.astore 8, 2) := dk_58 8 (dk_at dksX3_encodeECC200_8 13 rfl rfl)
theorem dX3_encodeECC200_205 : decode cX3_encodeECC200 205 = .ok (.iconst 0, 1) := dk_3 (dk_at dksX3_encodeECC200_8 15 rfl rfl)
theorem dX3_encodeECC200_206 : decode cX3_encodeECC200 206 = .ok (.istore 9, 2) := dk_54 9 (dk_at dksX3_encodeECC200_8 16 rfl rfl)
theorem dX3_encodeECC200_208 : decode cX3_encodeECC200 208 = .ok (.iload 6, 2) := dk_21 6 (dk_at dksX3_encodeECC200_8 18 rfl rfl)
theorem dX3_encodeECC200_210 : decode cX3_encodeECC200 210 = .ok (.istore 10, 2) := dk_54 10 (dk_at dksX3_encodeECC200_8 20 rfl rfl)
theorem dX3_encodeECC200_212 : decode cX3_encodeECC200 212 = .ok (.iload 10, 2) := dk_21 10 (dk_at dksX3_encodeECC200_8 22 rfl rfl)
theorem dX3_encodeECC200_214 : decode cX3_encodeECC200 214 = .ok (.aload 5, 2) := dk_25 5 (dk_at dksX3_encodeECC200_9 0 rfl rfl)
theorem dX3_encodeECC200_216 : decode cX3_encodeECC200 216 = .ok (.iload 6, 2) := dk_21 6 (dk_at dksX3_encodeECC200_9 2 rfl rfl)
theorem dX3_encodeECC200_218 : decode cX3_encodeECC200 218 = .ok (.iaload, 1) := dk_46 (dk_at dksX3_encodeECC200_9 4 rfl rfl)
theorem dX3_encodeECC200_219 : decode cX3_encodeECC200 219 = .ok (.iload_n 3, 1) := dk_29 (dk_at dksX3_encodeECC200_9 5 rfl rfl)
theorem dX3_encodeECC200_220 : decode cX3_encodeECC200 220 = .ok (.imul, 1) := dk_104 (dk_at dksX3_encodeECC200_9 6 rfl rfl)
theorem dX3_encodeECC200_221 : decode cX3_encodeECC200 221 = .ok (.if_icmp .ge 33, 3) := dk_162 0 33 (dk_at dksX3_encodeECC200_9 7 rfl rfl)
theorem dX3_encodeECC200_224 : decode cX3_encodeECC200 224 = .ok (.aload_n 2, 1) := dk_44 (dk_at dksX3_encodeECC200_9 10 rfl rfl)
theorem dX3_encodeECC200_225 : decode cX3_encodeECC200 225 = .ok (.aload_n 1, 1) := dk_43 (dk_at dksX3_encodeECC200_9 11 rfl rfl)
theorem dX3_encodeECC200_226 : decode cX3_encodeECC200 226 = .ok (.invokevirtual 7, 3) := dk_182 0 7 (dk_at dksX3_encodeECC200_9 12 rfl rfl)
theorem dX3_encodeECC200_229 : decode cX3_encodeECC200 229 = .ok (.iload 10, 2) := dk_21 10 (dk_at dksX3_encodeECC200_9 15 rfl rfl)
theorem dX3_encodeECC200_231 : decode cX3_encodeECC200 231 = .ok (.iadd, 1) := dk_96 (dk_at dksX3_encodeECC200_9 17 rfl rfl)
theorem dX3_encodeECC200_232 : decode cX3_encodeECC200 232 = .ok (.aload 8, 2) := dk_25 8 (dk_at dksX3_encodeECC200_9 18 rfl rfl)
theorem dX3_encodeECC200_234 : decode cX3_encodeECC200 234 = .ok (.iload 9, 2) := dk_21 9 (dk_at dksX3_encodeECC200_9 20 rfl rfl)
theorem dX3_encodeECC200_236 : decode cX3_encodeECC200 236 = .ok (.iinc 9 1, 3) := dk_132 9 1 (dk_at dksX3_encodeECC200_10 0 rfl rfl)
theorem dX3_encodeECC200_239 : decode cX3_encodeECC200 239 = .ok (.invokevirtual 54, 3) := dk_182 0 54 (dk_at dksX3_encodeECC200_10 3 rfl rfl)
theorem dX3_encodeECC200_242 : decode cX3_encodeECC200 242 = .ok (.invokevirtual 65, 3) := dk_182 0 65 (dk_at dksX3_encodeECC200_10 6 rfl rfl)
theorem dX3_encodeECC200_245 : decode cX3_encodeECC200 245 = .ok (.iload 10, 2) := dk_21 10 (dk_at dksX3_encodeECC200_10 9 rfl rfl)
theorem dX3_encodeECC200_247 : decode cX3_encodeECC200 247 = .ok (.iload_n 3, 1) := dk_29 (dk_at dksX3_encodeECC200_10 11 rfl rfl)
theorem dX3_encodeECC200_248 : decode cX3_encodeECC200 248 = .ok (.iadd, 1) := dk_96 (dk_at dksX3_encodeECC200_10 12 rfl rfl)
theorem dX3_encodeECC200_249 : decode cX3_encodeECC200 249 = .ok (.istore 10, 2) := dk_54 10 (dk_at dksX3_encodeECC200_10 13 rfl rfl)
theorem dX3_encodeECC200_251 : decode cX3_encodeECC200 251 = .ok (.goto (-39), 3) := dk_167 255 217 (dk_at dksX3_encodeECC200_10 15 rfl rfl)
theorem dX3_encodeECC200_254 : decode cX3_encodeECC200 254 = .ok (.iinc 6 1, 3) := dk_132 6 1 (dk_at dksX3_encodeECC200_10 18 rfl rfl)
theorem dX3_encodeECC200_257 : decode cX3_encodeECC200 257 = .ok (.goto (-121), 3) := dk_167 255 135 (dk_at dksX3_encodeECC200_10 21 rfl rfl)
theorem dX3_encodeECC200_260 : decode cX3_encodeECC200 260 = .ok (.aload_n 2, 1) := dk_44 (dk_at dksX3_encodeECC200_11 0 rfl rfl)
theorem dX3_encodeECC200_261 : decode cX3_encodeECC200 261 = .ok (.invokevirtual 61, 3) := dk_182 0 61 (dk_at dksX3_encodeECC200_11 1 rfl rfl)
theorem dX3_encodeECC200_264 : decode cX3_encodeECC200 264 = .ok (.areturn, 1) := dk_176 (dk_at dksX3_encodeECC200_11 4 rfl rfl)
abbrev cX3_createECCBlock : ByteArray := prog_1_method_2_code
def yX3_createECCBlock : MethodName := ⟨RX3, "createECCBlock", "(Ljava/lang/CharSequence;I)Ljava/lang/String;"⟩
def dkwX3_createECCBlock_11 : List UInt8 := [21, 6, 25, 4, 27, 21, 6, 100, 4, 100, 52, 85, 132, 6, 1, 167, 255, 233, 25, 5, 184, 0, 89, 176]
abbrev dktX3_createECCBlock_11 : List UInt8 := dkwX3_createECCBlock_11 ++ []
def dkwX3_createECCBlock_10 : List UInt8 := [3, 85, 132, 5, 1, 167, 255, 99, 27, 188, 5, 58, 5, 3, 54, 6, 21, 6, 27, 162, 0, 23, 25, 5]
abbrev dktX3_createECCBlock_10 : List UInt8 := dkwX3_createECCBlock_10 ++ dktX3_createECCBlock_11
def dkwX3_createECCBlock_9 : List UInt8 := [21, 6, 46, 178, 0, 86, 45, 3, 46, 46, 96, 17, 0, 255, 112, 46, 146, 85, 167, 0, 8, 25, 4, 3]
abbrev dktX3_createECCBlock_9 : List UInt8 := dkwX3_createECCBlock_9 ++ dktX3_createECCBlock_10
def dkwX3_createECCBlock_8 : List UInt8 := [167, 255, 184, 21, 6, 153, 0, 39, 45, 3, 46, 153, 0, 33, 25, 4, 3, 178, 0, 83, 178, 0, 86]
abbrev dktX3_createECCBlock_8 : List UInt8 := dkwX3_createECCBlock_8 ++ dktX3_createECCBlock_9
def dkwX3_createECCBlock_7 : List UInt8 := [46, 130, 146, 85, 167, 0, 15, 25, 4, 21, 7, 25, 4, 21, 7, 4, 100, 52, 85, 132, 7, 255]
abbrev dktX3_createECCBlock_7 : List UInt8 := dkwX3_createECCBlock_7 ++ dktX3_createECCBlock_8
def dkwX3_createECCBlock_6 : List UInt8 := [100, 52, 178, 0, 83, 178, 0, 86, 21, 6, 46, 178, 0, 86, 45, 21, 7, 46, 46, 96, 17, 0, 255, 112]
abbrev dktX3_createECCBlock_6 : List UInt8 := dkwX3_createECCBlock_6 ++ dktX3_createECCBlock_7
def dkwX3_createECCBlock_5 : List UInt8 := [158, 0, 73, 21, 6, 153, 0, 50, 45, 21, 7, 46, 153, 0, 43, 25, 4, 21, 7, 25, 4, 21, 7, 4]
abbrev dktX3_createECCBlock_5 : List UInt8 := dkwX3_createECCBlock_5 ++ dktX3_createECCBlock_6
def dkwX3_createECCBlock_4 : List UInt8 := [27, 4, 100, 52, 42, 21, 5, 185, 0, 82, 2, 0, 130, 54, 6, 27, 4, 100, 54, 7, 21, 7]
abbrev dktX3_createECCBlock_4 : List UInt8 := dkwX3_createECCBlock_4 ++ dktX3_createECCBlock_5
def dkwX3_createECCBlock_3 : List UInt8 := [3, 85, 132, 5, 1, 167, 255, 241, 3, 54, 5, 21, 5, 42, 185, 0, 79, 1, 0, 162, 0, 152, 25, 4]
abbrev dktX3_createECCBlock_3 : List UInt8 := dkwX3_createECCBlock_3 ++ dktX3_createECCBlock_4
def dkwX3_createECCBlock_2 : List UInt8 := [178, 0, 75, 28, 50, 78, 27, 188, 5, 58, 4, 3, 54, 5, 21, 5, 27, 162, 0, 15, 25, 4, 21, 5]
abbrev dktX3_createECCBlock_2 : List UInt8 := dkwX3_createECCBlock_2 ++ dktX3_createECCBlock_3
def dkwX3_createECCBlock_1 : List UInt8 := [167, 0, 9, 132, 3, 1, 167, 255, 231, 28, 156, 0, 13, 187, 0, 12, 89, 18, 73, 183, 0, 16, 191]
abbrev dktX3_createECCBlock_1 : List UInt8 := dkwX3_createECCBlock_1 ++ dktX3_createECCBlock_2
def dkwX3_createECCBlock_0 : List UInt8 := [2, 61, 3, 62, 29, 178, 0, 69, 190, 162, 0, 23, 178, 0, 69, 29, 46, 27, 160, 0, 8, 29, 61]
abbrev dktX3_createECCBlock_0 : List UInt8 := dkwX3_createECCBlock_0 ++ dktX3_createECCBlock_1
theorem dksX3_createECCBlock_0 : cX3_createECCBlock.data.toList.drop 0 = dktX3_createECCBlock_0 := by decide +kernel
theorem dksX3_createECCBlock_1 : cX3_createECCBlock.data.toList.drop 23 = dktX3_createECCBlock_1 := dk_seg dksX3_createECCBlock_0 23 rfl rfl
theorem dksX3_createECCBlock_2 : cX3_createECCBlock.data.toList.drop 46 = dktX3_createECCBlock_2 := dk_seg dksX3_createECCBlock_1 23 rfl rfl
theorem dksX3_createECCBlock_3 : cX3_createECCBlock.data.toList.drop 70 = dktX3_createECCBlock_3 := dk_seg dksX3_createECCBlock_2 24 rfl rfl
theorem dksX3_createECCBlock_4 : cX3_createECCBlock.data.toList.drop 94 = dktX3_createECCBlock_4 := dk_seg dksX3_createECCBlock_3 24 rfl rfl
theorem dksX3_createECCBlock_5 : cX3_createECCBlock.data.toList.drop 116 = dktX3_createECCBlock_5 := dk_seg dksX3_createECCBlock_4 22 rfl rfl
theorem dksX3_createECCBlock_6 : cX3_createECCBlock.data.toList.drop 140 = dktX3_createECCBlock_6 := dk_seg dksX3_createECCBlock_5 24 rfl rfl
theorem dksX3_createECCBlock_7 : cX3_createECCBlock.data.toList.drop 164 = dktX3_createECCBlock_7 := dk_seg dksX3_createECCBlock_6 24 rfl rfl
theorem dksX3_createECCBlock_8 : cX3_createECCBlock.data.toList.drop 186 = dktX3_createECCBlock_8 := dk_seg dksX3_createECCBlock_7 22 rfl rfl
theorem dksX3_createECCBlock_9 : cX3_createECCBlock.data.toList.drop 209 = dktX3_createECCBlock_9 := dk_seg dksX3_createECCBlock_8 23 rfl rfl
theorem dksX3_createECCBlock_10 : cX3_createECCBlock.data.toList.drop 233 = dktX3_createECCBlock_10 := dk_seg dksX3_createECCBlock_9 24 rfl rfl
theorem dksX3_createECCBlock_11 : cX3_createECCBlock.data.toList.drop 257 = dktX3_createECCBlock_11 := dk_seg dksX3_createECCBlock_10 24 rfl rfl
theorem dX3_createECCBlock_0 : decode cX3_createECCBlock 0 = .ok (.iconst (-1), 1) := dk_2 (dk_at dksX3_createECCBlock_0 0 rfl rfl)
theorem dX3_createECCBlock_1 : decode cX3_createECCBlock 1 = .ok (.istore_n 2, 1) := dk_61 (dk_at dksX3_createECCBlock_0 1 rfl rfl)
theorem dX3_createECCBlock_2 : decode cX3_createECCBlock 2 = .ok (.iconst 0, 1) := dk_3 (dk_at dksX3_createECCBlock_0 2 rfl rfl)
theorem dX3_createECCBlock_3 : decode cX3_createECCBlock 3 = .ok (.istore_n 3, 1) := dk_62 (dk_at dksX3_createECCBlock_0 3 rfl rfl)
theorem dX3_createECCBlock_4 : decode cX3_createECCBlock 4 = .ok (.iload_n 3, 1) := dk_29 (dk_at dksX3_createECCBlock_0 4 rfl rfl)
theorem dX3_createECCBlock_5 : decode cX3_createECCBlock 5 = .ok (.getstatic 69, 3) := dk_178 0 69 (dk_at dksX3_createECCBlock_0 5 rfl rfl)
theorem dX3_createECCBlock_8 : decode cX3_createECCBlock 8 = .ok (.arraylength, 1) := dk_190 (dk_at dksX3_createECCBlock_0 8 rfl rfl)
theorem dX3_createECCBlock_9 : decode cX3_createECCBlock 9 = .ok (.if_icmp .ge 23, 3) := dk_162 0 23 (dk_at dksX3_createECCBlock_0 9 rfl rfl)
theorem dX3_createECCBlock_12 : decode cX3_createECCBlock 12 = .ok (.getstatic 69, 3) := dk_178 0 69 (dk_at dksX3_createECCBlock_0 12 rfl rfl)
theorem dX3_createECCBlock_15 : decode cX3_createECCBlock 15 = .ok (.iload_n 3, 1) := dk_29 (dk_at dksX3_createECCBlock_0 15 rfl rfl)
theorem dX3_createECCBlock_16 : decode cX3_createECCBlock 16 = .ok (.iaload, 1) := dk_46 (dk_at dksX3_createECCBlock_0 16 rfl rfl)
theorem dX3_createECCBlock_17 : decode cX3_createECCBlock 17 = .ok (.iload_n 1, 1) := dk_27 (dk_at dksX3_createECCBlock_0 17 rfl rfl)
theorem dX3_createECCBlock_18 : decode cX3_createECCBlock 18 = .ok (.if_icmp .ne 8, 3) := dk_160 0 8 (dk_at dksX3_createECCBlock_0 18 rfl rfl)
theorem dX3_createECCBlock_21 : decode cX3_createECCBlock 21 = .ok (.iload_n 3, 1) := dk_29 (dk_at dksX3_createECCBlock_0 21 rfl rfl)
theorem dX3_createECCBlock_22 : decode cX3_createECCBlock 22 = .ok (.istore_n 2, 1) := dk_61 (dk_at dksX3_createECCBlock_0 22 rfl rfl)
theorem dX3_createECCBlock_23 : decode cX3_createECCBlock 23 = .ok (.goto 9, 3) := dk_167 0 9 (dk_at dksX3_createECCBlock_1 0 rfl rfl)
theorem dX3_createECCBlock_26 : decode cX3_createECCBlock 26 = .ok (.iinc 3 1, 3) := dk_132 3 1 (dk_at dksX3_createECCBlock_1 3 rfl rfl)
theorem dX3_createECCBlock_29 : decode cX3_createECCBlock 29 = .ok (.goto (-25), 3) := dk_167 255 231 (dk_at dksX3_createECCBlock_1 6 rfl rfl)
theorem dX3_createECCBlock_32 : decode cX3_createECCBlock 32 = .ok (.iload_n 2, 1) := dk_28 (dk_at dksX3_createECCBlock_1 9 rfl rfl)
theorem dX3_createECCBlock_33 : decode cX3_createECCBlock 33 = .ok (.ifCond .ge 13, 3) := dk_156 0 13 (dk_at dksX3_createECCBlock_1 10 rfl rfl)
theorem dX3_createECCBlock_36 : decode cX3_createECCBlock 36 = .ok (.new 12, 3) := dk_187 0 12 (dk_at dksX3_createECCBlock_1 13 rfl rfl)
theorem dX3_createECCBlock_39 : decode cX3_createECCBlock 39 = .ok (.dup, 1) := dk_89 (dk_at dksX3_createECCBlock_1 16 rfl rfl)
theorem dX3_createECCBlock_40 : decode cX3_createECCBlock 40 = .ok (.ldc 73, 2) := dk_18 73 (dk_at dksX3_createECCBlock_1 17 rfl rfl)
theorem dX3_createECCBlock_42 : decode cX3_createECCBlock 42 = .ok (.invokespecial 16, 3) := dk_183 0 16 (dk_at dksX3_createECCBlock_1 19 rfl rfl)
theorem dX3_createECCBlock_45 : decode cX3_createECCBlock 45 = .ok (.athrow, 1) := dk_191 (dk_at dksX3_createECCBlock_1 22 rfl rfl)
theorem dX3_createECCBlock_46 : decode cX3_createECCBlock 46 = .ok (.getstatic 75, 3) := dk_178 0 75 (dk_at dksX3_createECCBlock_2 0 rfl rfl)
theorem dX3_createECCBlock_49 : decode cX3_createECCBlock 49 = .ok (.iload_n 2, 1) := dk_28 (dk_at dksX3_createECCBlock_2 3 rfl rfl)
theorem dX3_createECCBlock_50 : decode cX3_createECCBlock 50 = .ok (.aaload, 1) := dk_50 (dk_at dksX3_createECCBlock_2 4 rfl rfl)
theorem dX3_createECCBlock_51 : decode cX3_createECCBlock 51 = .ok (.astore_n 3, 1) := dk_78 (dk_at dksX3_createECCBlock_2 5 rfl rfl)
theorem dX3_createECCBlock_52 : decode cX3_createECCBlock 52 = .ok (.iload_n 1, 1) := dk_27 (dk_at dksX3_createECCBlock_2 6 rfl rfl)
theorem dX3_createECCBlock_53 : decode cX3_createECCBlock 53 = .ok (.newarray .char, 2) := dk_188_5 (dk_at dksX3_createECCBlock_2 7 rfl rfl)
theorem dX3_createECCBlock_55 : decode cX3_createECCBlock 55 = .ok (.astore 4, 2) := dk_58 4 (dk_at dksX3_createECCBlock_2 9 rfl rfl)
theorem dX3_createECCBlock_57 : decode cX3_createECCBlock 57 = .ok (.iconst 0, 1) := dk_3 (dk_at dksX3_createECCBlock_2 11 rfl rfl)
theorem dX3_createECCBlock_58 : decode cX3_createECCBlock 58 = .ok (.istore 5, 2) := dk_54 5 (dk_at dksX3_createECCBlock_2 12 rfl rfl)
theorem dX3_createECCBlock_60 : decode cX3_createECCBlock 60 = .ok (.iload 5, 2) := dk_21 5 (dk_at dksX3_createECCBlock_2 14 rfl rfl)
theorem dX3_createECCBlock_62 : decode cX3_createECCBlock 62 = .ok (.iload_n 1, 1) := dk_27 (dk_at dksX3_createECCBlock_2 16 rfl rfl)
theorem dX3_createECCBlock_63 : decode cX3_createECCBlock 63 = .ok (.if_icmp .ge 15, 3) := dk_162 0 15 (dk_at dksX3_createECCBlock_2 17 rfl rfl)
theorem dX3_createECCBlock_66 : decode cX3_createECCBlock 66 = .ok (.aload 4, 2) := dk_25 4 (dk_at dksX3_createECCBlock_2 20 rfl rfl)
theorem dX3_createECCBlock_68 : decode cX3_createECCBlock 68 = .ok (.iload 5, 2) := dk_21 5 (dk_at dksX3_createECCBlock_2 22 rfl rfl)
theorem dX3_createECCBlock_70 : decode cX3_createECCBlock 70 = .ok (.iconst 0, 1) := dk_3 (dk_at dksX3_createECCBlock_3 0 rfl rfl)
theorem dX3_createECCBlock_71 : decode cX3_createECCBlock 71 = .ok (.castore, 1) := dk_85 (dk_at dksX3_createECCBlock_3 1 rfl rfl)
theorem dX3_createECCBlock_72 : decode cX3_createECCBlock 72 = .ok (.iinc 5 1, 3) := dk_132 5 1 (dk_at dksX3_createECCBlock_3 2 rfl rfl)
theorem dX3_createECCBlock_75 : decode cX3_createECCBlock 75 = .ok (.goto (-15), 3) := dk_167 255 241 (dk_at dksX3_createECCBlock_3 5 rfl rfl)
theorem dX3_createECCBlock_78 : decode cX3_createECCBlock 78 = .ok (.iconst 0, 1) := dk_3 (dk_at dksX3_createECCBlock_3 8 rfl rfl)
theorem dX3_createECCBlock_79 : decode cX3_createECCBlock 79 = .ok (.istore 5, 2) := dk_54 5 (dk_at dksX3_createECCBlock_3 9 rfl rfl)
theorem dX3_createECCBlock_81 : decode cX3_createECCBlock 81 = .ok (.iload 5, 2) := dk_21 5 (dk_at dksX3_createECCBlock_3 11 rfl rfl)
theorem dX3_createECCBlock_83 : decode cX3_createECCBlock 83 = .ok (.aload_n 0, 1) := dk_42 (dk_at dksX3_createECCBlock_3 13 rfl rfl)
theorem dX3_createECCBlock_84 : decode cX3_createECCBlock 84 = .ok (.invokeinterface 79 1, 5) := by decide +kernel
theorem dX3_createECCBlock_89 : decode cX3_createECCBlock 89 = .ok (.if_icmp .ge 152, 3) := dk_162 0 152 (dk_at dksX3_createECCBlock_3 19 rfl rfl)
theorem dX3_createECCBlock_92 : decode cX3_createECCBlock 92 = .ok (.aload 4, 2) := dk_25 4 (dk_at dksX3_createECCBlock_3 22 rfl rfl)
theorem dX3_createECCBlock_94 : decode cX3_createECCBlock 94 = .ok (.iload_n 1, 1) := dk_27 (dk_at dksX3_createECCBlock_4 0 rfl rfl)
theorem dX3_createECCBlock_95 : decode cX3_createECCBlock 95 = .ok (.iconst 1, 1) := dk_4 (dk_at dksX3_createECCBlock_4 1 rfl rfl)
theorem dX3_createECCBlock_96 : decode cX3_createECCBlock 96 = .ok (.isub, 1) := dk_100 (dk_at dksX3_createECCBlock_4 2 rfl rfl)
theorem dX3_createECCBlock_97 : decode cX3_createECCBlock 97 = .ok (.caload, 1) := dk_52 (dk_at dksX3_createECCBlock_4 3 rfl rfl)
theorem dX3_createECCBlock_98 : decode cX3_createECCBlock 98 = .ok (.aload_n 0, 1) := dk_42 (dk_at dksX3_createECCBlock_4 4 rfl rfl)
theorem dX3_createECCBlock_99 : decode cX3_createECCBlock 99 = .ok (.iload 5, 2) := dk_21 5 (dk_at dksX3_createECCBlock_4 5 rfl rfl)
theorem dX3_createECCBlock_101 : decode cX3_createECCBlock 101 = .ok (.invokeinterface 82 2, 5) := by decide +kernel
theorem dX3_createECCBlock_106 : decode cX3_createECCBlock 106 = .ok (.ixor, 1) := dk_130 (dk_at dksX3_createECCBlock_4 12 rfl rfl)
theorem dX3_createECCBlock_107 : decode cX3_createECCBlock 107 = .ok (.istore 6, 2) := dk_54 6 (dk_at dksX3_createECCBlock_4 13 rfl rfl)
theorem dX3_createECCBlock_109 : decode cX3_createECCBlock 109 = .ok (.iload_n 1, 1) := dk_27 (dk_at dksX3_createECCBlock_4 15 rfl rfl)
theorem dX3_createECCBlock_110 : decode cX3_createECCBlock 110 = .ok (.iconst 1, 1) := dk_4 (dk_at dksX3_createECCBlock_4 16 rfl rfl)
theorem dX3_createECCBlock_111 : decode cX3_createECCBlock 111 = .ok (.isub, 1) := dk_100 (dk_at dksX3_createECCBlock_4 17 rfl rfl)
theorem dX3_createECCBlock_112 : decode cX3_createECCBlock 112 = .ok (.istore 7, 2) := dk_54 7 (dk_at dksX3_createECCBlock_4 18 rfl rfl)
theorem dX3_createECCBlock_114 : decode cX3_createECCBlock 114 = .ok (.iload 7, 2) := dk_21 7 (dk_at dksX3_createECCBlock_4 20 rfl rfl)
theorem dX3_createECCBlock_116 : decode cX3_createECCBlock 116 = .ok (.ifCond .le 73, 3) := dk_158 0 73 (dk_at dksX3_createECCBlock_5 0 rfl rfl)
theorem dX3_createECCBlock_119 : decode cX3_createECCBlock 119 = .ok (.iload 6, 2) := dk_21 6 (dk_at dksX3_createECCBlock_5 3 rfl rfl)
theorem dX3_createECCBlock_121 : decode cX3_createECCBlock 121 = .ok (.ifCond .eq 50, 3) := dk_153 0 50 (dk_at dksX3_createECCBlock_5 5 rfl rfl)
theorem dX3_createECCBlock_124 : decode cX3_createECCBlock 124 = .ok (.aload_n 3, 1) := dk_45 (dk_at dksX3_createECCBlock_5 8 rfl rfl)
theorem dX3_createECCBlock_125 : decode cX3_createECCBlock 125 = .ok (.iload 7, 2) := dk_21 7 (dk_at dksX3_createECCBlock_5 9 rfl rfl)
theorem dX3_createECCBlock_127 : decode cX3_createECCBlock 127 = .ok (.iaload, 1) := dk_46 (dk_at dksX3_createECCBlock_5 11 rfl rfl)
theorem dX3_createECCBlock_128 : decode cX3_createECCBlock 128 = .ok (.ifCond .eq 43, 3) := dk_153 0 43 (dk_at dksX3_createECCBlock_5 12 rfl rfl)
theorem dX3_createECCBlock_131 : decode cX3_createECCBlock 131 = .ok (.aload 4, 2) := dk_25 4 (dk_at dksX3_createECCBlock_5 15 rfl rfl)
theorem dX3_createECCBlock_133 : decode cX3_createECCBlock 133 = .ok (.iload 7, 2) := dk_21 7 (dk_at dksX3_createECCBlock_5 17 rfl rfl)
theorem dX3_createECCBlock_135 : decode cX3_createECCBlock 135 = .ok (.aload 4, 2) := dk_25 4 (dk_at dksX3_createECCBlock_5 19 rfl rfl)
theorem dX3_createECCBlock_137 : decode cX3_createECCBlock 137 = .ok (.iload 7, 2) := dk_21 7 (dk_at dksX3_createECCBlock_5 21 rfl rfl)
theorem dX3_createECCBlock_139 : decode cX3_createECCBlock 139 = .ok (.iconst 1, 1) := dk_4 (dk_at dksX3_createECCBlock_5 23 rfl rfl)
theorem dX3_createECCBlock_140 : decode cX3_createECCBlock 140 = .ok (.isub, 1) := dk_100 (dk_at dksX3_createECCBlock_6 0 rfl rfl)
theorem dX3_createECCBlock_141 : decode cX3_createECCBlock 141 = .ok (.caload, 1) := dk_52 (dk_at dksX3_createECCBlock_6 1 rfl rfl)
theorem dX3_createECCBlock_142 : decode cX3_createECCBlock 142 = .ok (.getstatic 83, 3) := dk_178 0 83 (dk_at dksX3_createECCBlock_6 2 rfl rfl)
theorem dX3_createECCBlock_145 : decode cX3_createECCBlock 145 = .ok (.getstatic 86, 3) := dk_178 0 86 (dk_at dksX3_createECCBlock_6 5 rfl rfl)
theorem dX3_createECCBlock_148 : decode cX3_createECCBlock 148 = .ok (.iload 6, 2) := dk_21 6 (dk_at dksX3_createECCBlock_6 8 rfl rfl)
theorem dX3_createECCBlock_150 : decode cX3_createECCBlock 150 = .ok (.iaload, 1) := dk_46 (dk_at dksX3_createECCBlock_6 10 rfl rfl)
theorem dX3_createECCBlock_151 : decode cX3_createECCBlock 151 = .ok (.getstatic 86, 3) := dk_178 0 86 (dk_at dksX3_createECCBlock_6 11 rfl rfl)
theorem dX3_createECCBlock_154 : decode cX3_createECCBlock 154 = .ok (.aload_n 3, 1) := dk_45 (dk_at dksX3_createECCBlock_6 14 rfl rfl)
theorem dX3_createECCBlock_155 : decode cX3_createECCBlock 155 = .ok (.iload 7, 2) := dk_21 7 (dk_at dksX3_createECCBlock_6 15 rfl rfl)
theorem dX3_createECCBlock_157 : decode cX3_createECCBlock 157 = .ok (.iaload, 1) := dk_46 (dk_at dksX3_createECCBlock_6 17 rfl rfl)
theorem dX3_createECCBlock_158 : decode cX3_createECCBlock 158 = .ok (.iaload, 1) := dk_46 (dk_at dksX3_createECCBlock_6 18 rfl rfl)
theorem dX3_createECCBlock_159 : decode cX3_createECCBlock 159 = .ok (.iadd, 1) := dk_96 (dk_at dksX3_createECCBlock_6 19 rfl rfl)
theorem dX3_createECCBlock_160 : decode cX3_createECCBlock 160 = .ok (.sipush 255, 3) := dk_17 0 255 (dk_at dksX3_createECCBlock_6 20 rfl rfl)
theorem dX3_createECCBlock_163 : decode cX3_createECCBlock 163 = .ok (.irem, 1) := dk_112 (dk_at dksX3_createECCBlock_6 23 rfl rfl)
theorem dX3_createECCBlock_164 : decode cX3_createECCBlock 164 = .ok (.iaload, 1) := dk_46 (dk_at dksX3_createECCBlock_7 0 rfl rfl)
theorem dX3_createECCBlock_165 : decode cX3_createECCBlock 165 = .ok (.ixor, 1) := dk_130 (dk_at dksX3_createECCBlock_7 1 rfl rfl)
theorem dX3_createECCBlock_166 : decode cX3_createECCBlock 166 = .ok (.i2c, 1) := dk_146 (dk_at dksX3_createECCBlock_7 2 rfl rfl)
theorem dX3_createECCBlock_167 : decode cX3_createECCBlock 167 = .ok (.castore, 1) := dk_85 (dk_at dksX3_createECCBlock_7 3 rfl rfl)
theorem dX3_createECCBlock_168 : decode cX3_createECCBlock 168 = .ok (.goto 15, 3) := dk_167 0 15 (dk_at dksX3_createECCBlock_7 4 rfl rfl)
theorem dX3_createECCBlock_171 : decode cX3_createECCBlock 171 = .ok (.aload 4, 2) := dk_25 4 (dk_at dksX3_createECCBlock_7 7 rfl rfl)
theorem dX3_createECCBlock_173 : decode cX3_createECCBlock 173 = .ok (.iload 7, 2) := dk_21 7 (dk_at dksX3_createECCBlock_7 9 rfl rfl)
theorem dX3_createECCBlock_175 : decode cX3_createECCBlock 175 = .ok (.aload 4, 2) := dk_25 4 (dk_at dksX3_createECCBlock_7 11 rfl rfl)
theorem dX3_createECCBlock_177 : decode cX3_createECCBlock 177 = .ok (.iload 7, 2) := dk_21 7 (dk_at dksX3_createECCBlock_7 13 rfl rfl)
theorem dX3_createECCBlock_179 : decode cX3_createECCBlock 179 = .ok (.iconst 1, 1) := dk_4 (dk_at dksX3_createECCBlock_7 15 rfl rfl)
theorem dX3_createECCBlock_180 : decode cX3_createECCBlock 180 = .ok (.isub, 1) := dk_100 (dk_at dksX3_createECCBlock_7 16 rfl rfl)
theorem dX3_createECCBlock_181 : decode cX3_createECCBlock 181 = .ok (.caload, 1) := dk_52 (dk_at dksX3_createECCBlock_7 17 rfl rfl)
theorem dX3_createECCBlock_182 : decode cX3_createECCBlock 182 = .ok (.castore, 1) := dk_85 (dk_at dksX3_createECCBlock_7 18 rfl rfl)
theorem dX3_createECCBlock_183 : decode cX3_createECCBlock 183 = .ok (.iinc 7 (-1), 3) := dk_132 7 255 (dk_at dksX3_createECCBlock_7 19 rfl rfl)
theorem dX3_createECCBlock_186 : decode cX3_createECCBlock 186 = .ok (.goto (-72), 3) := dk_167 255 184 (dk_at dksX3_createECCBlock_8 0 rfl rfl)
theorem dX3_createECCBlock_189 : decode cX3_createECCBlock 189 = .ok (.iload 6, 2) := dk_21 6 (dk_at dksX3_createECCBlock_8 3 rfl rfl)
theorem dX3_createECCBlock_191 : decode cX3_createECCBlock 191 = .ok (.ifCond .eq 39, 3) := dk_153 0 39 (dk_at dksX3_createECCBlock_8 5 rfl rfl)
theorem dX3_createECCBlock_194 : decode cX3_createECCBlock 194 = .ok (.aload_n 3, 1) := dk_45 (dk_at dksX3_createECCBlock_8 8 rfl rfl)
theorem dX3_createECCBlock_195 : decode cX3_createECCBlock 195 = .ok (.iconst 0, 1) := dk_3 (dk_at dksX3_createECCBlock_8 9 rfl rfl)
theorem dX3_createECCBlock_196 : decode cX3_createECCBlock 196 = .ok (.iaload, 1) := dk_46 (dk_at dksX3_createECCBlock_8 10 rfl rfl)
theorem dX3_createECCBlock_197 : decode cX3_createECCBlock 197 = .ok (.ifCond .eq 33, 3) := dk_153 0 33 (dk_at dksX3_createECCBlock_8 11 rfl rfl)
theorem dX3_createECCBlock_200 : decode cX3_createECCBlock 200 = .ok (.aload 4, 2) := dk_25 4 (dk_at dksX3_createECCBlock_8 14 rfl rfl)
theorem dX3_createECCBlock_202 : decode cX3_createECCBlock 202 = .ok (.iconst 0, 1) := dk_3 (dk_at dksX3_createECCBlock_8 16 rfl rfl)
theorem dX3_createECCBlock_203 : decode cX3_createECCBlock 203 = .ok (.getstatic 83, 3) := dk_178 0 83 (dk_at dksX3_createECCBlock_8 17 rfl rfl)
theorem dX3_createECCBlock_206 : decode cX3_createECCBlock 206 = .ok (.getstatic 86, 3) := dk_178 0 86 (dk_at dksX3_createECCBlock_8 20 rfl rfl)
theorem dX3_createECCBlock_209 : decode cX3_createECCBlock 209 = .ok (.iload 6, 2) := dk_21 6 (dk_at dksX3_createECCBlock_9 0 rfl rfl)
theorem dX3_createECCBlock_211 : decode cX3_createECCBlock 211 = .ok (.iaload, 1) := dk_46 (dk_at dksX3_createECCBlock_9 2 rfl rfl)
theorem dX3_createECCBlock_212 : decode cX3_createECCBlock 212 = .ok (.getstatic 86, 3) := dk_178 0 86 (dk_at dksX3_createECCBlock_9 3 rfl rfl)
theorem dX3_createECCBlock_215 : decode cX3_createECCBlock 215 = .ok (.aload_n 3, 1) := dk_45 (dk_at dksX3_createECCBlock_9 6 rfl rfl)
theorem dX3_createECCBlock_216 : decode cX3_createECCBlock 216 = .ok (.iconst 0, 1) := dk_3 (dk_at dksX3_createECCBlock_9 7 rfl rfl)
theorem dX3_createECCBlock_217 : decode cX3_createECCBlock 217 = .ok (.iaload, 1) := dk_46 (dk_at dksX3_createECCBlock_9 8 rfl rfl)
theorem dX3_createECCBlock_218 : decode cX3_createECCBlock 218 = .ok (.iaload, 1) := dk_46 (dk_at dksX3_createECCBlock_9 9 rfl rfl)
theorem dX3_createECCBlock_219 : decode cX3_createECCBlock 219 = .ok (.iadd, 1) := dk_96 (dk_at dksX3_createECCBlock_9 10 rfl rfl)
theorem dX3_createECCBlock_220 : decode cX3_createECCBlock 220 = .ok (.sipush 255, 3) := dk_17 0 255 (dk_at dksX3_createECCBlock_9 11 rfl rfl)
theorem dX3_createECCBlock_223 : decode cX3_createECCBlock 223 = .ok (.irem, 1) := dk_112 (dk_at dksX3_createECCBlock_9 14 rfl rfl)
theorem dX3_createECCBlock_224 : decode cX3_createECCBlock 224 = .ok (.iaload, 1) := dk_46 (dk_at dksX3_createECCBlock_9 15 rfl rfl)
theorem dX3_createECCBlock_225 : decode cX3_createECCBlock 225 = .ok (.i2c, 1) := dk_146 (dk_at dksX3_createECCBlock_9 16 rfl rfl)
theorem dX3_createECCBlock_226 : decode cX3_createECCBlock 226 = .ok (.castore, 1) := dk_85 (dk_at dksX3_createECCBlock_9 17 rfl rfl)
theorem dX3_createECCBlock_227 : decode cX3_createECCBlock 227 = .ok (.goto 8, 3) := dk_167 0 8 (dk_at dksX3_createECCBlock_9 18 rfl rfl)
theorem dX3_createECCBlock_230 : decode cX3_createECCBlock 230 = .ok (.aload 4, 2) := dk_25 4 (dk_at dksX3_createECCBlock_9 21 rfl rfl)
theorem dX3_createECCBlock_232 : decode cX3_createECCBlock 232 = .ok (.iconst 0, 1) := dk_3 (dk_at dksX3_createECCBlock_9 23 rfl rfl)
theorem dX3_createECCBlock_233 : decode cX3_createECCBlock 233 = .ok (.iconst 0, 1) := dk_3 (dk_at dksX3_createECCBlock_10 0 rfl rfl)
theorem dX3_createECCBlock_234 : decode cX3_createECCBlock 234 = .ok (.castore, 1) := dk_85 (dk_at dksX3_createECCBlock_10 1 rfl rfl)
theorem dX3_createECCBlock_235 : decode cX3_createECCBlock 235 = .ok (.iinc 5 1, 3) := dk_132 5 1 (dk_at dksX3_createECCBlock_10 2 rfl rfl)
theorem dX3_createECCBlock_238 : decode cX3_createECCBlock 238 = .ok (.goto (-157), 3) := dk_167 255 99 (dk_at dksX3_createECCBlock_10 5 rfl rfl)
theorem dX3_createECCBlock_241 : decode cX3_createECCBlock 241 = .ok (.iload_n 1, 1) := dk_27 (dk_at dksX3_createECCBlock_10 8 rfl rfl)
theorem dX3_createECCBlock_242 : decode cX3_createECCBlock 242 = .ok (.newarray .char, 2) := dk_188_5 (dk_at dksX3_createECCBlock_10 9 rfl rfl)
theorem dX3_createECCBlock_244 : decode cX3_createECCBlock 244 = .ok (.astore 5, 2) := dk_58 5 (dk_at dksX3_createECCBlock_10 11 rfl rfl)
theorem dX3_createECCBlock_246 : decode cX3_createECCBlock 246 = .ok (.iconst 0, 1) := dk_3 (dk_at dksX3_createECCBlock_10 13 rfl rfl)
theorem dX3_createECCBlock_247 : decode cX3_createECCBlock 247 = .ok (.istore 6, 2) := dk_54 6 (dk_at dksX3_createECCBlock_10 14 rfl rfl)
theorem dX3_createECCBlock_249 : decode cX3_createECCBlock 249 = .ok (.iload 6, 2) := dk_21 6 (dk_at dksX3_createECCBlock_10 16 rfl rfl)
theorem dX3_createECCBlock_251 : decode cX3_createECCBlock 251 = .ok (.iload_n 1, 1) := dk_27 (dk_at dksX3_createECCBlock_10 18 rfl rfl)
theorem dX3_createECCBlock_252 : decode cX3_createECCBlock 252 = .ok (.if_icmp .ge 23, 3) := dk_162 0 23 (dk_at dksX3_createECCBlock_10 19 rfl rfl)
theorem dX3_createECCBlock_255 : decode cX3_createECCBlock 255 = .ok (.aload 5, 2) := dk_25 5 (dk_at dksX3_createECCBlock_10 22 rfl rfl)
theorem dX3_createECCBlock_257 : decode cX3_createECCBlock 257 = .ok (.iload 6, 2) := dk_21 6 (dk_at dksX3_createECCBlock_11 0 rfl rfl)
theorem dX3_createECCBlock_259 : decode cX3_createECCBlock 259 = .ok (.aload 4, 2) := dk_25 4 (dk_at dksX3_createECCBlock_11 2 rfl rfl)
theorem dX3_createECCBlock_261 : decode cX3_createECCBlock 261 = .ok (.iload_n 1, 1) := dk_27 (dk_at dksX3_createECCBlock_11 4 rfl rfl)
theorem dX3_createECCBlock_262 : decode cX3_createECCBlock 262 = .ok (.iload 6, 2) := dk_21 6 (dk_at dksX3_createECCBlock_11 5 rfl rfl)
theorem dX3_createECCBlock_264 : decode cX3_createECCBlock 264 = .ok (.isub, 1) := dk_100 (dk_at dksX3_createECCBlock_11 7 rfl rfl)
theorem dX3_createECCBlock_265 : decode cX3_createECCBlock 265 = .ok (.iconst 1, 1) := dk_4 (dk_at dksX3_createECCBlock_11 8 rfl rfl)
theorem dX3_createECCBlock_266 : decode cX3_createECCBlock 266 = .ok (.isub, 1) := dk_100 (dk_at dksX3_createECCBlock_11 9 rfl rfl)
theorem dX3_createECCBlock_267 : decode cX3_createECCBlock 267 = .ok (.caload, 1) := dk_52 (dk_at dksX3_createECCBlock_11 10 rfl rfl)
theorem dX3_createECCBlock_268 : decode cX3_createECCBlock 268 = .ok (.castore, 1) := dk_85 (dk_at dksX3_createECCBlock_11 11 rfl rfl)
theorem dX3_createECCBlock_269 : decode cX3_createECCBlock 269 = .ok (.iinc 6 1, 3) := dk_132 6 1 (dk_at dksX3_createECCBlock_11 12 rfl rfl)
theorem dX3_createECCBlock_272 : decode cX3_createECCBlock 272 = .ok (.goto (-23), 3) := dk_167 255 233 (dk_at dksX3_createECCBlock_11 15 rfl rfl)
theorem dX3_createECCBlock_275 : decode cX3_createECCBlock 275 = .ok (.aload 5, 2) := dk_25 5 (dk_at dksX3_createECCBlock_11 18 rfl rfl)
theorem dX3_createECCBlock_277 : decode cX3_createECCBlock 277 = .ok (.invokestatic 89, 3) := dk_184 0 89 (dk_at dksX3_createECCBlock_11 20 rfl rfl)
theorem dX3_createECCBlock_280 : decode cX3_createECCBlock 280 = .ok (.areturn, 1) := dk_176 (dk_at dksX3_createECCBlock_11 23 rfl rfl)
theorem q8 : (Jvm.Cond.initialized "ErrorCorrection") ∈ lw_all := lw_g (lw_at lw_m1 7 rfl) rfl
theorem q215 : (Jvm.Cond.static ({ cls := "ErrorCorrection", name := "encodeECC200", desc := "(Ljava/lang/String;LSymbolInfo;)Ljava/lang/String;" } : Jvm.MethodName)) ∈ lw_all := lw_g (lw_at lw_m1 214 rfl) rfl
theorem q216 : (Jvm.Cond.code ({ cls := "ErrorCorrection", name := "encodeECC200", desc := "(Ljava/lang/String;LSymbolInfo;)Ljava/lang/String;" } : Jvm.MethodName) prog_1_method_1_code (11 : Nat) (Option.some (Jvm.ClassFile.FieldType.object "java/lang/String"))) ∈ lw_all := lw_g (lw_at lw_m1 215 rfl) rfl
theorem q217 : (Jvm.Cond.methodLink "ErrorCorrection" (1 : Nat) ({ cls := "java/lang/String", name := "length", desc := "()I" } : Jvm.MethodName)) ∈ lw_all := lw_g (lw_at lw_m1 216 rfl) rfl
theorem q218 : (Jvm.Cond.methodLink "ErrorCorrection" (7 : Nat) ({ cls := "SymbolInfo", name := "getDataCapacity", desc := "()I" } : Jvm.MethodName)) ∈ lw_all := lw_g (lw_at lw_m1 217 rfl) rfl
theorem q222 : (Jvm.Cond.classLink "ErrorCorrection" (12 : Nat) "java/lang/IllegalArgumentException") ∈ lw_all := lw_g (lw_at lw_m1 221 rfl) rfl
theorem q261 : (Jvm.Cond.stringRef "ErrorCorrection" (14 : Nat) "The number of codewords does not match the selected symbol") ∈ lw_tbl := lw_at lw_m2 20 rfl
theorem q262 : (Jvm.Cond.methodLink "ErrorCorrection" (16 : Nat) ({ cls := "java/lang/IllegalArgumentException", name := "<init>", desc := "(Ljava/lang/String;)V" } : Jvm.MethodName)) ∈ lw_all := lw_g (lw_at lw_m2 21 rfl) rfl
theorem q287 : (Jvm.Cond.classLink "ErrorCorrection" (20 : Nat) "java/lang/StringBuilder") ∈ lw_all := lw_g (lw_at lw_m2 46 rfl) rfl
theorem q289 : (Jvm.Cond.methodLink "ErrorCorrection" (22 : Nat) ({ cls := "SymbolInfo", name := "getErrorCodewords", desc := "()I" } : Jvm.MethodName)) ∈ lw_all := lw_g (lw_at lw_m2 48 rfl) rfl
theorem q293 : (Jvm.Cond.methodLink "ErrorCorrection" (25 : Nat) ({ cls := "java/lang/StringBuilder", name := "<init>", desc := "(I)V" } : Jvm.MethodName)) ∈ lw_all := lw_g (lw_at lw_m2 52 rfl) rfl
theorem q316 : (Jvm.Cond.methodLink "ErrorCorrection" (28 : Nat) ({ cls := "java/lang/StringBuilder", name := "append", desc := "(Ljava/lang/String;)Ljava/lang/StringBuilder;" } : Jvm.MethodName)) ∈ lw_all := lw_g (lw_at lw_m2 75 rfl) rfl
theorem q405 : (Jvm.Cond.methodLink "ErrorCorrection" (32 : Nat) ({ cls := "SymbolInfo", name := "getInterleavedBlockCount", desc := "()I" } : Jvm.MethodName)) ∈ lw_all := lw_g (lw_at lw_m2 164 rfl) rfl
theorem q409 : (Jvm.Cond.methodLink "ErrorCorrection" (35 : Nat) ({ cls := "ErrorCorrection", name := "createECCBlock", desc := "(Ljava/lang/CharSequence;I)Ljava/lang/String;" } : Jvm.MethodName)) ∈ lw_all := lw_g (lw_at lw_m2 168 rfl) rfl
theorem q410 : (Jvm.Cond.static ({ cls := "ErrorCorrection", name := "createECCBlock", desc := "(Ljava/lang/CharSequence;I)Ljava/lang/String;" } : Jvm.MethodName)) ∈ lw_all := lw_g (lw_at lw_m2 169 rfl) rfl
theorem q411 : (Jvm.Cond.code ({ cls := "ErrorCorrection", name := "createECCBlock", desc := "(Ljava/lang/CharSequence;I)Ljava/lang/String;" } : Jvm.MethodName) prog_1_method_2_code (8 : Nat) (Option.some (Jvm.ClassFile.FieldType.object "java/lang/String"))) ∈ lw_all := lw_g (lw_at lw_m2 170 rfl) rfl
theorem q412 : (Jvm.Cond.fieldLink "ErrorCorrection" (69 : Nat) "ErrorCorrection" "FACTOR_SETS" "[I") ∈ lw_all := lw_g (lw_at lw_m2 171 rfl) rfl
theorem q413 : (Jvm.Cond.laysStatic "ErrorCorrection" "FACTOR_SETS" "[I") ∈ lw_tbl := lw_at lw_m2 172 rfl
theorem q414 : (Jvm.Cond.stringRef "ErrorCorrection" (73 : Nat) "left out") ∈ lw_tbl := lw_at lw_m2 173 rfl
theorem q415 : (Jvm.Cond.fieldLink "ErrorCorrection" (75 : Nat) "ErrorCorrection" "FACTORS" "[[I") ∈ lw_all := lw_g (lw_at lw_m2 174 rfl) rfl
theorem q416 : (Jvm.Cond.laysStatic "ErrorCorrection" "FACTORS" "[[I") ∈ lw_tbl := lw_at lw_m2 175 rfl
theorem q417 : (Jvm.Cond.interfaceEntry "ErrorCorrection" (79 : Nat)) ∈ lw_tbl := lw_at lw_m2 176 rfl
theorem q418 : (Jvm.Cond.methodLink "ErrorCorrection" (79 : Nat) ({ cls := "java/lang/CharSequence", name := "length", desc := "()I" } : Jvm.MethodName)) ∈ lw_all := lw_g (lw_at lw_m2 177 rfl) rfl
theorem q434 : (Jvm.Cond.interfaceEntry "ErrorCorrection" (82 : Nat)) ∈ lw_tbl := lw_at lw_m2 193 rfl
theorem q435 : (Jvm.Cond.methodLink "ErrorCorrection" (82 : Nat) ({ cls := "java/lang/CharSequence", name := "charAt", desc := "(I)C" } : Jvm.MethodName)) ∈ lw_all := lw_g (lw_at lw_m2 194 rfl) rfl
theorem q452 : (Jvm.Cond.fieldLink "ErrorCorrection" (83 : Nat) "ErrorCorrection" "ALOG" "[I") ∈ lw_all := lw_g (lw_at lw_m2 211 rfl) rfl
theorem q453 : (Jvm.Cond.laysStatic "ErrorCorrection" "ALOG" "[I") ∈ lw_tbl := lw_at lw_m2 212 rfl
theorem q454 : (Jvm.Cond.fieldLink "ErrorCorrection" (86 : Nat) "ErrorCorrection" "LOG" "[I") ∈ lw_all := lw_g (lw_at lw_m2 213 rfl) rfl
theorem q455 : (Jvm.Cond.laysStatic "ErrorCorrection" "LOG" "[I") ∈ lw_tbl := lw_at lw_m2 214 rfl
theorem q456 : (Jvm.Cond.methodLink "ErrorCorrection" (89 : Nat) ({ cls := "java/lang/String", name := "valueOf", desc := "([C)Ljava/lang/String;" } : Jvm.MethodName)) ∈ lw_all := lw_g (lw_at lw_m2 215 rfl) rfl
theorem q463 : (Jvm.Cond.methodLink "ErrorCorrection" (41 : Nat) ({ cls := "java/lang/StringBuilder", name := "capacity", desc := "()I" } : Jvm.MethodName)) ∈ lw_all := lw_g (lw_at lw_m2 222 rfl) rfl
theorem q470 : (Jvm.Cond.methodLink "ErrorCorrection" (44 : Nat) ({ cls := "java/lang/StringBuilder", name := "setLength", desc := "(I)V" } : Jvm.MethodName)) ∈ lw_all := lw_g (lw_at lw_m2 229 rfl) rfl
theorem q490 : (Jvm.Cond.methodLink "ErrorCorrection" (47 : Nat) ({ cls := "SymbolInfo", name := "getDataLengthForInterleavedBlock", desc := "(I)I" } : Jvm.MethodName)) ∈ lw_all := lw_g (lw_at lw_m3 9 rfl) rfl
theorem q494 : (Jvm.Cond.methodLink "ErrorCorrection" (51 : Nat) ({ cls := "SymbolInfo", name := "getErrorLengthForInterleavedBlock", desc := "(I)I" } : Jvm.MethodName)) ∈ lw_all := lw_g (lw_at lw_m3 13 rfl) rfl
theorem q498 : (Jvm.Cond.methodLink "ErrorCorrection" (54 : Nat) ({ cls := "java/lang/String", name := "charAt", desc := "(I)C" } : Jvm.MethodName)) ∈ lw_all := lw_g (lw_at lw_m3 17 rfl) rfl
theorem q499 : (Jvm.Cond.methodLink "ErrorCorrection" (58 : Nat) ({ cls := "java/lang/StringBuilder", name := "append", desc := "(C)Ljava/lang/StringBuilder;" } : Jvm.MethodName)) ∈ lw_all := lw_g (lw_at lw_m3 18 rfl) rfl
theorem q512 : (Jvm.Cond.methodLink "ErrorCorrection" (61 : Nat) ({ cls := "java/lang/StringBuilder", name := "toString", desc := "()Ljava/lang/String;" } : Jvm.MethodName)) ∈ lw_all := lw_g (lw_at lw_m3 31 rfl) rfl
theorem q543 : (Jvm.Cond.methodLink "ErrorCorrection" (65 : Nat) ({ cls := "java/lang/StringBuilder", name := "setCharAt", desc := "(IC)V" } : Jvm.MethodName)) ∈ lw_all := lw_g (lw_at lw_m3 62 rfl) rfl
/-! SquareParityLaw -/
set_option maxRecDepth 100000
def RX0 : String := "SquareParityLaw"
abbrev cX0_cell : ByteArray := method_2_code
def yX0_cell : MethodName := ⟨RX0, "cell", "([II)I"⟩
def dkwX0_cell_0 : List UInt8 := [27, 42, 190, 162, 0, 9, 42, 27, 46, 167, 0, 4, 3, 172]
abbrev dktX0_cell_0 : List UInt8 := dkwX0_cell_0 ++ []
theorem dksX0_cell_0 : cX0_cell.data.toList.drop 0 = dktX0_cell_0 := by decide +kernel
theorem dX0_cell_0 : decode cX0_cell 0 = .ok (.iload_n 1, 1) := dk_27 (dk_at dksX0_cell_0 0 rfl rfl)
theorem dX0_cell_1 : decode cX0_cell 1 = .ok (.aload_n 0, 1) := dk_42 (dk_at dksX0_cell_0 1 rfl rfl)
theorem dX0_cell_2 : decode cX0_cell 2 = .ok (.arraylength, 1) := dk_190 (dk_at dksX0_cell_0 2 rfl rfl)
theorem dX0_cell_3 : decode cX0_cell 3 = .ok (.if_icmp .ge 9, 3) := dk_162 0 9 (dk_at dksX0_cell_0 3 rfl rfl)
theorem dX0_cell_6 : decode cX0_cell 6 = .ok (.aload_n 0, 1) := dk_42 (dk_at dksX0_cell_0 6 rfl rfl)
theorem dX0_cell_7 : decode cX0_cell 7 = .ok (.iload_n 1, 1) := dk_27 (dk_at dksX0_cell_0 7 rfl rfl)
theorem dX0_cell_8 : decode cX0_cell 8 = .ok (.iaload, 1) := dk_46 (dk_at dksX0_cell_0 8 rfl rfl)
theorem dX0_cell_9 : decode cX0_cell 9 = .ok (.goto 4, 3) := dk_167 0 4 (dk_at dksX0_cell_0 9 rfl rfl)
theorem dX0_cell_12 : decode cX0_cell 12 = .ok (.iconst 0, 1) := dk_3 (dk_at dksX0_cell_0 12 rfl rfl)
theorem dX0_cell_13 : decode cX0_cell 13 = .ok (.ireturn, 1) := dk_172 (dk_at dksX0_cell_0 13 rfl rfl)
abbrev cX0_rest : ByteArray := method_3_code
def yX0_rest : MethodName := ⟨RX0, "rest", "(II)I"⟩
def dkwX0_rest_0 : List UInt8 := [26, 18, 7, 126, 27, 112, 172]
abbrev dktX0_rest_0 : List UInt8 := dkwX0_rest_0 ++ []
theorem dksX0_rest_0 : cX0_rest.data.toList.drop 0 = dktX0_rest_0 := by decide +kernel
theorem dX0_rest_0 : decode cX0_rest 0 = .ok (.iload_n 0, 1) := dk_26 (dk_at dksX0_rest_0 0 rfl rfl)
theorem dX0_rest_1 : decode cX0_rest 1 = .ok (.ldc 7, 2) := dk_18 7 (dk_at dksX0_rest_0 1 rfl rfl)
theorem dX0_rest_3 : decode cX0_rest 3 = .ok (.iand, 1) := dk_126 (dk_at dksX0_rest_0 3 rfl rfl)
theorem dX0_rest_4 : decode cX0_rest 4 = .ok (.iload_n 1, 1) := dk_27 (dk_at dksX0_rest_0 4 rfl rfl)
theorem dX0_rest_5 : decode cX0_rest 5 = .ok (.irem, 1) := dk_112 (dk_at dksX0_rest_0 5 rfl rfl)
theorem dX0_rest_6 : decode cX0_rest 6 = .ok (.ireturn, 1) := dk_172 (dk_at dksX0_rest_0 6 rfl rfl)
abbrev cX0_written : ByteArray := method_5_code
def yX0_written : MethodName := ⟨RX0, "written", "(LSquareParity;[II)[I"⟩
def dkwX0_written_7 : List UInt8 := [21, 8, 153, 0, 5, 1, 176, 132, 7, 1, 167, 255, 196, 25, 5, 176]
abbrev dktX0_written_7 : List UInt8 := dkwX0_written_7 ++ []
def dkwX0_written_6 : List UInt8 := [162, 0, 24, 21, 8, 21, 6, 184, 0, 30, 25, 5, 21, 9, 46, 130, 54, 8, 132, 9, 1, 167, 255, 230]
abbrev dktX0_written_6 : List UInt8 := dkwX0_written_6 ++ dktX0_written_7
def dkwX0_written_5 : List UInt8 := [21, 4, 163, 0, 59, 21, 6, 5, 184, 0, 30, 54, 6, 3, 54, 8, 3, 54, 9, 21, 9, 25, 5, 190]
abbrev dktX0_written_5 : List UInt8 := dkwX0_written_5 ++ dktX0_written_6
def dkwX0_written_4 : List UInt8 := [46, 43, 21, 6, 46, 159, 0, 5, 1, 176, 132, 6, 1, 167, 255, 195, 4, 54, 6, 4, 54, 7, 21, 7]
abbrev dktX0_written_4 : List UInt8 := dkwX0_written_4 ++ dktX0_written_5
def dkwX0_written_3 : List UInt8 := [155, 0, 32, 25, 5, 21, 6, 46, 17, 0, 255, 163, 0, 21, 21, 6, 29, 162, 0, 17, 25, 5, 21, 6]
abbrev dktX0_written_3 : List UInt8 := dkwX0_written_3 ++ dktX0_written_4
def dkwX0_written_2 : List UInt8 := [21, 6, 25, 5, 190, 162, 0, 59, 25, 5, 21, 6, 42, 21, 6, 182, 0, 27, 79, 25, 5, 21, 6, 46]
abbrev dktX0_written_2 : List UInt8 := dkwX0_written_2 ++ dktX0_written_3
def dkwX0_written_1 : List UInt8 := [28, 182, 0, 21, 29, 21, 4, 96, 159, 0, 5, 1, 176, 29, 21, 4, 96, 188, 10, 58, 5, 3, 54, 6]
abbrev dktX0_written_1 : List UInt8 := dkwX0_written_1 ++ dktX0_written_2
def dkwX0_written_0 : List UInt8 := [178, 0, 8, 28, 16, 10, 184, 0, 14, 46, 62, 178, 0, 18, 28, 16, 10, 184, 0, 14, 46, 54, 4, 42]
abbrev dktX0_written_0 : List UInt8 := dkwX0_written_0 ++ dktX0_written_1
theorem dksX0_written_0 : cX0_written.data.toList.drop 0 = dktX0_written_0 := by decide +kernel
theorem dksX0_written_1 : cX0_written.data.toList.drop 24 = dktX0_written_1 := dk_seg dksX0_written_0 24 rfl rfl
theorem dksX0_written_2 : cX0_written.data.toList.drop 48 = dktX0_written_2 := dk_seg dksX0_written_1 24 rfl rfl
theorem dksX0_written_3 : cX0_written.data.toList.drop 72 = dktX0_written_3 := dk_seg dksX0_written_2 24 rfl rfl
theorem dksX0_written_4 : cX0_written.data.toList.drop 96 = dktX0_written_4 := dk_seg dksX0_written_3 24 rfl rfl
theorem dksX0_written_5 : cX0_written.data.toList.drop 120 = dktX0_written_5 := dk_seg dksX0_written_4 24 rfl rfl
theorem dksX0_written_6 : cX0_written.data.toList.drop 144 = dktX0_written_6 := dk_seg dksX0_written_5 24 rfl rfl
theorem dksX0_written_7 : cX0_written.data.toList.drop 168 = dktX0_written_7 := dk_seg dksX0_written_6 24 rfl rfl
theorem dX0_written_0 : decode cX0_written 0 = .ok (.getstatic 8, 3) := dk_178 0 8 (dk_at dksX0_written_0 0 rfl rfl)
theorem dX0_written_3 : decode cX0_written 3 = .ok (.iload_n 2, 1) := dk_28 (dk_at dksX0_written_0 3 rfl rfl)
theorem dX0_written_4 : decode cX0_written 4 = .ok (.bipush 10, 2) := dk_16 10 (dk_at dksX0_written_0 4 rfl rfl)
theorem dX0_written_6 : decode cX0_written 6 = .ok (.invokestatic 14, 3) := dk_184 0 14 (dk_at dksX0_written_0 6 rfl rfl)
theorem dX0_written_9 : decode cX0_written 9 = .ok (.iaload, 1) := dk_46 (dk_at dksX0_written_0 9 rfl rfl)
theorem dX0_written_10 : decode cX0_written 10 = .ok (.istore_n 3, 1) := dk_62 (dk_at dksX0_written_0 10 rfl rfl)
theorem dX0_written_11 : decode cX0_written 11 = .ok (.getstatic 18, 3) := dk_178 0 18 (dk_at dksX0_written_0 11 rfl rfl)
theorem dX0_written_14 : decode cX0_written 14 = .ok (.iload_n 2, 1) := dk_28 (dk_at dksX0_written_0 14 rfl rfl)
theorem dX0_written_15 : decode cX0_written 15 = .ok (.bipush 10, 2) := dk_16 10 (dk_at dksX0_written_0 15 rfl rfl)
theorem dX0_written_17 : decode cX0_written 17 = .ok (.invokestatic 14, 3) := dk_184 0 14 (dk_at dksX0_written_0 17 rfl rfl)
theorem dX0_written_20 : decode cX0_written 20 = .ok (.iaload, 1) := dk_46 (dk_at dksX0_written_0 20 rfl rfl)
theorem dX0_written_21 : decode cX0_written 21 = .ok (.istore 4, 2) := dk_54 4 (dk_at dksX0_written_0 21 rfl rfl)
theorem dX0_written_23 : decode cX0_written 23 = .ok (.aload_n 0, 1) := dk_42 (dk_at dksX0_written_0 23 rfl rfl)
theorem dX0_written_24 : decode cX0_written 24 = .ok (.iload_n 2, 1) := dk_28 (dk_at dksX0_written_1 0 rfl rfl)
theorem dX0_written_25 : decode cX0_written 25 = .ok (.invokevirtual 21, 3) := dk_182 0 21 (dk_at dksX0_written_1 1 rfl rfl)
theorem dX0_written_28 : decode cX0_written 28 = .ok (.iload_n 3, 1) := dk_29 (dk_at dksX0_written_1 4 rfl rfl)
theorem dX0_written_29 : decode cX0_written 29 = .ok (.iload 4, 2) := dk_21 4 (dk_at dksX0_written_1 5 rfl rfl)
theorem dX0_written_31 : decode cX0_written 31 = .ok (.iadd, 1) := dk_96 (dk_at dksX0_written_1 7 rfl rfl)
theorem dX0_written_32 : decode cX0_written 32 = .ok (.if_icmp .eq 5, 3) := dk_159 0 5 (dk_at dksX0_written_1 8 rfl rfl)
theorem dX0_written_35 : decode cX0_written 35 = .ok (.aconst_null, 1) := dk_1 (dk_at dksX0_written_1 11 rfl rfl)
theorem dX0_written_36 : decode cX0_written 36 = .ok (.areturn, 1) := dk_176 (dk_at dksX0_written_1 12 rfl rfl)
theorem dX0_written_37 : decode cX0_written 37 = .ok (.iload_n 3, 1) := dk_29 (dk_at dksX0_written_1 13 rfl rfl)
theorem dX0_written_38 : decode cX0_written 38 = .ok (.iload 4, 2) := dk_21 4 (dk_at dksX0_written_1 14 rfl rfl)
theorem dX0_written_40 : decode cX0_written 40 = .ok (.iadd, 1) := dk_96 (dk_at dksX0_written_1 16 rfl rfl)
theorem dX0_written_41 : decode cX0_written 41 = .ok (.newarray .int, 2) := dk_188_10 (dk_at dksX0_written_1 17 rfl rfl)
theorem dX0_written_43 : decode cX0_written 43 = .ok (.astore 5, 2) := dk_58 5 (dk_at dksX0_written_1 19 rfl rfl)
theorem dX0_written_45 : decode cX0_written 45 = .ok (.iconst 0, 1) := dk_3 (dk_at dksX0_written_1 21 rfl rfl)
theorem dX0_written_46 : decode cX0_written 46 = .ok (.istore 6, 2) := dk_54 6 (dk_at dksX0_written_1 22 rfl rfl)
theorem dX0_written_48 : decode cX0_written 48 = .ok (.iload 6, 2) := dk_21 6 (dk_at dksX0_written_2 0 rfl rfl)
theorem dX0_written_50 : decode cX0_written 50 = .ok (.aload 5, 2) := dk_25 5 (dk_at dksX0_written_2 2 rfl rfl)
theorem dX0_written_52 : decode cX0_written 52 = .ok (.arraylength, 1) := dk_190 (dk_at dksX0_written_2 4 rfl rfl)
theorem dX0_written_53 : decode cX0_written 53 = .ok (.if_icmp .ge 59, 3) := dk_162 0 59 (dk_at dksX0_written_2 5 rfl rfl)
theorem dX0_written_56 : decode cX0_written 56 = .ok (.aload 5, 2) := dk_25 5 (dk_at dksX0_written_2 8 rfl rfl)
theorem dX0_written_58 : decode cX0_written 58 = .ok (.iload 6, 2) := dk_21 6 (dk_at dksX0_written_2 10 rfl rfl)
theorem dX0_written_60 : decode cX0_written 60 = .ok (.aload_n 0, 1) := dk_42 (dk_at dksX0_written_2 12 rfl rfl)
theorem dX0_written_61 : decode cX0_written 61 = .ok (.iload 6, 2) := dk_21 6 (dk_at dksX0_written_2 13 rfl rfl)
theorem dX0_written_63 : decode cX0_written 63 = .ok (.invokevirtual 27, 3) := dk_182 0 27 (dk_at dksX0_written_2 15 rfl rfl)
theorem dX0_written_66 : decode cX0_written 66 = .ok (.iastore, 1) := dk_79 (dk_at dksX0_written_2 18 rfl rfl)
theorem dX0_written_67 : decode cX0_written 67 = .ok (.aload 5, 2) := dk_25 5 (dk_at dksX0_written_2 19 rfl rfl)
theorem dX0_written_69 : decode cX0_written 69 = .ok (.iload 6, 2) := dk_21 6 (dk_at dksX0_written_2 21 rfl rfl)
theorem dX0_written_71 : decode cX0_written 71 = .ok (.iaload, 1) := dk_46 (dk_at dksX0_written_2 23 rfl rfl)
theorem dX0_written_72 : decode cX0_written 72 = .ok (.ifCond .lt 32, 3) := dk_155 0 32 (dk_at dksX0_written_3 0 rfl rfl)
theorem dX0_written_75 : decode cX0_written 75 = .ok (.aload 5, 2) := dk_25 5 (dk_at dksX0_written_3 3 rfl rfl)
theorem dX0_written_77 : decode cX0_written 77 = .ok (.iload 6, 2) := dk_21 6 (dk_at dksX0_written_3 5 rfl rfl)
theorem dX0_written_79 : decode cX0_written 79 = .ok (.iaload, 1) := dk_46 (dk_at dksX0_written_3 7 rfl rfl)
theorem dX0_written_80 : decode cX0_written 80 = .ok (.sipush 255, 3) := dk_17 0 255 (dk_at dksX0_written_3 8 rfl rfl)
theorem dX0_written_83 : decode cX0_written 83 = .ok (.if_icmp .gt 21, 3) := dk_163 0 21 (dk_at dksX0_written_3 11 rfl rfl)
theorem dX0_written_86 : decode cX0_written 86 = .ok (.iload 6, 2) := dk_21 6 (dk_at dksX0_written_3 14 rfl rfl)
theorem dX0_written_88 : decode cX0_written 88 = .ok (.iload_n 3, 1) := dk_29 (dk_at dksX0_written_3 16 rfl rfl)
theorem dX0_written_89 : decode cX0_written 89 = .ok (.if_icmp .ge 17, 3) := dk_162 0 17 (dk_at dksX0_written_3 17 rfl rfl)
theorem dX0_written_92 : decode cX0_written 92 = .ok (.aload 5, 2) := dk_25 5 (dk_at dksX0_written_3 20 rfl rfl)
theorem dX0_written_94 : decode cX0_written 94 = .ok (.iload 6, 2) := dk_21 6 (dk_at dksX0_written_3 22 rfl rfl)
theorem dX0_written_96 : decode cX0_written 96 = .ok (.iaload, 1) := dk_46 (dk_at dksX0_written_4 0 rfl rfl)
theorem dX0_written_97 : decode cX0_written 97 = .ok (.aload_n 1, 1) := dk_43 (dk_at dksX0_written_4 1 rfl rfl)
theorem dX0_written_98 : decode cX0_written 98 = .ok (.iload 6, 2) := dk_21 6 (dk_at dksX0_written_4 2 rfl rfl)
theorem dX0_written_100 : decode cX0_written 100 = .ok (.iaload, 1) := dk_46 (dk_at dksX0_written_4 4 rfl rfl)
theorem dX0_written_101 : decode cX0_written 101 = .ok (.if_icmp .eq 5, 3) := dk_159 0 5 (dk_at dksX0_written_4 5 rfl rfl)
theorem dX0_written_104 : decode cX0_written 104 = .ok (.aconst_null, 1) := dk_1 (dk_at dksX0_written_4 8 rfl rfl)
theorem dX0_written_105 : decode cX0_written 105 = .ok (.areturn, 1) := dk_176 (dk_at dksX0_written_4 9 rfl rfl)
theorem dX0_written_106 : decode cX0_written 106 = .ok (.iinc 6 1, 3) := dk_132 6 1 (dk_at dksX0_written_4 10 rfl rfl)
theorem dX0_written_109 : decode cX0_written 109 = .ok (.goto (-61), 3) := dk_167 255 195 (dk_at dksX0_written_4 13 rfl rfl)
theorem dX0_written_112 : decode cX0_written 112 = .ok (.iconst 1, 1) := dk_4 (dk_at dksX0_written_4 16 rfl rfl)
theorem dX0_written_113 : decode cX0_written 113 = .ok (.istore 6, 2) := dk_54 6 (dk_at dksX0_written_4 17 rfl rfl)
theorem dX0_written_115 : decode cX0_written 115 = .ok (.iconst 1, 1) := dk_4 (dk_at dksX0_written_4 19 rfl rfl)
theorem dX0_written_116 : decode cX0_written 116 = .ok (.istore 7, 2) := dk_54 7 (dk_at dksX0_written_4 20 rfl rfl)
theorem dX0_written_118 : decode cX0_written 118 = .ok (.iload 7, 2) := dk_21 7 (dk_at dksX0_written_4 22 rfl rfl)
theorem dX0_written_120 : decode cX0_written 120 = .ok (.iload 4, 2) := dk_21 4 (dk_at dksX0_written_5 0 rfl rfl)
theorem dX0_written_122 : decode cX0_written 122 = .ok (.if_icmp .gt 59, 3) := dk_163 0 59 (dk_at dksX0_written_5 2 rfl rfl)
theorem dX0_written_125 : decode cX0_written 125 = .ok (.iload 6, 2) := dk_21 6 (dk_at dksX0_written_5 5 rfl rfl)
theorem dX0_written_127 : decode cX0_written 127 = .ok (.iconst 2, 1) := dk_5 (dk_at dksX0_written_5 7 rfl rfl)
theorem dX0_written_128 : decode cX0_written 128 = .ok (.invokestatic 30, 3) := dk_184 0 30 (dk_at dksX0_written_5 8 rfl rfl)
theorem dX0_written_131 : decode cX0_written 131 = .ok (.istore 6, 2) := dk_54 6 (dk_at dksX0_written_5 11 rfl rfl)
theorem dX0_written_133 : decode cX0_written 133 = .ok (.iconst 0, 1) := dk_3 (dk_at dksX0_written_5 13 rfl rfl)
theorem dX0_written_134 : decode cX0_written 134 = .ok (.istore 8, 2) := dk_54 8 (dk_at dksX0_written_5 14 rfl rfl)
theorem dX0_written_136 : decode cX0_written 136 = .ok (.iconst 0, 1) := dk_3 (dk_at dksX0_written_5 16 rfl rfl)
theorem dX0_written_137 : decode cX0_written 137 = .ok (.istore 9, 2) := dk_54 9 (dk_at dksX0_written_5 17 rfl rfl)
theorem dX0_written_139 : decode cX0_written 139 = .ok (.iload 9, 2) := dk_21 9 (dk_at dksX0_written_5 19 rfl rfl)
theorem dX0_written_141 : decode cX0_written 141 = .ok (.aload 5, 2) := dk_25 5 (dk_at dksX0_written_5 21 rfl rfl)
theorem dX0_written_143 : decode cX0_written 143 = .ok (.arraylength, 1) := dk_190 (dk_at dksX0_written_5 23 rfl rfl)
theorem dX0_written_144 : decode cX0_written 144 = .ok (.if_icmp .ge 24, 3) := dk_162 0 24 (dk_at dksX0_written_6 0 rfl rfl)
theorem dX0_written_147 : decode cX0_written 147 = .ok (.iload 8, 2) := dk_21 8 (dk_at dksX0_written_6 3 rfl rfl)
theorem dX0_written_149 : decode cX0_written 149 = .ok (.iload 6, 2) := dk_21 6 (dk_at dksX0_written_6 5 rfl rfl)
theorem dX0_written_151 : decode cX0_written 151 = .ok (.invokestatic 30, 3) := dk_184 0 30 (dk_at dksX0_written_6 7 rfl rfl)
theorem dX0_written_154 : decode cX0_written 154 = .ok (.aload 5, 2) := dk_25 5 (dk_at dksX0_written_6 10 rfl rfl)
theorem dX0_written_156 : decode cX0_written 156 = .ok (.iload 9, 2) := dk_21 9 (dk_at dksX0_written_6 12 rfl rfl)
theorem dX0_written_158 : decode cX0_written 158 = .ok (.iaload, 1) := dk_46 (dk_at dksX0_written_6 14 rfl rfl)
theorem dX0_written_159 : decode cX0_written 159 = .ok (.ixor, 1) := dk_130 (dk_at dksX0_written_6 15 rfl rfl)
theorem dX0_written_160 : decode cX0_written 160 = .ok (.istore 8, 2) := dk_54 8 (dk_at dksX0_written_6 16 rfl rfl)
theorem dX0_written_162 : decode cX0_written 162 = .ok (.iinc 9 1, 3) := dk_132 9 1 (dk_at dksX0_written_6 18 rfl rfl)
theorem dX0_written_165 : decode cX0_written 165 = .ok (.goto (-26), 3) := dk_167 255 230 (dk_at dksX0_written_6 21 rfl rfl)
theorem dX0_written_168 : decode cX0_written 168 = .ok (.iload 8, 2) := dk_21 8 (dk_at dksX0_written_7 0 rfl rfl)
theorem dX0_written_170 : decode cX0_written 170 = .ok (.ifCond .eq 5, 3) := dk_153 0 5 (dk_at dksX0_written_7 2 rfl rfl)
theorem dX0_written_173 : decode cX0_written 173 = .ok (.aconst_null, 1) := dk_1 (dk_at dksX0_written_7 5 rfl rfl)
theorem dX0_written_174 : decode cX0_written 174 = .ok (.areturn, 1) := dk_176 (dk_at dksX0_written_7 6 rfl rfl)
theorem dX0_written_175 : decode cX0_written 175 = .ok (.iinc 7 1, 3) := dk_132 7 1 (dk_at dksX0_written_7 7 rfl rfl)
theorem dX0_written_178 : decode cX0_written 178 = .ok (.goto (-60), 3) := dk_167 255 196 (dk_at dksX0_written_7 10 rfl rfl)
theorem dX0_written_181 : decode cX0_written 181 = .ok (.aload 5, 2) := dk_25 5 (dk_at dksX0_written_7 13 rfl rfl)
theorem dX0_written_183 : decode cX0_written 183 = .ok (.areturn, 1) := dk_176 (dk_at dksX0_written_7 15 rfl rfl)
abbrev cX0_product : ByteArray := method_4_code
def yX0_product : MethodName := ⟨RX0, "product", "(II)I"⟩
def dkwX0_product_2 : List UInt8 := [167, 255, 216, 28, 172]
abbrev dktX0_product_2 : List UInt8 := dkwX0_product_2 ++ []
def dkwX0_product_1 : List UInt8 := [29, 4, 120, 62, 29, 17, 0, 255, 164, 0, 9, 29, 17, 1, 45, 130, 62, 21, 4, 4, 122, 54, 4]
abbrev dktX0_product_1 : List UInt8 := dkwX0_product_1 ++ dktX0_product_2
def dkwX0_product_0 : List UInt8 := [3, 61, 26, 62, 27, 54, 4, 21, 4, 153, 0, 41, 21, 4, 4, 126, 4, 160, 0, 7, 28, 29, 130, 61]
abbrev dktX0_product_0 : List UInt8 := dkwX0_product_0 ++ dktX0_product_1
theorem dksX0_product_0 : cX0_product.data.toList.drop 0 = dktX0_product_0 := by decide +kernel
theorem dksX0_product_1 : cX0_product.data.toList.drop 24 = dktX0_product_1 := dk_seg dksX0_product_0 24 rfl rfl
theorem dksX0_product_2 : cX0_product.data.toList.drop 47 = dktX0_product_2 := dk_seg dksX0_product_1 23 rfl rfl
theorem dX0_product_0 : decode cX0_product 0 = .ok (.iconst 0, 1) := dk_3 (dk_at dksX0_product_0 0 rfl rfl)
theorem dX0_product_1 : decode cX0_product 1 = .ok (.istore_n 2, 1) := dk_61 (dk_at dksX0_product_0 1 rfl rfl)
theorem dX0_product_2 : decode cX0_product 2 = .ok (.iload_n 0, 1) := dk_26 (dk_at dksX0_product_0 2 rfl rfl)
theorem dX0_product_3 : decode cX0_product 3 = .ok (.istore_n 3, 1) := dk_62 (dk_at dksX0_product_0 3 rfl rfl)
theorem dX0_product_4 : decode cX0_product 4 = .ok (.iload_n 1, 1) := dk_27 (dk_at dksX0_product_0 4 rfl rfl)
theorem dX0_product_5 : decode cX0_product 5 = .ok (.istore 4, 2) := dk_54 4 (dk_at dksX0_product_0 5 rfl rfl)
theorem dX0_product_7 : decode cX0_product 7 = .ok (.iload 4, 2) := dk_21 4 (dk_at dksX0_product_0 7 rfl rfl)
theorem dX0_product_9 : decode cX0_product 9 = .ok (.ifCond .eq 41, 3) := dk_153 0 41 (dk_at dksX0_product_0 9 rfl rfl)
theorem dX0_product_12 : decode cX0_product 12 = .ok (.iload 4, 2) := dk_21 4 (dk_at dksX0_product_0 12 rfl rfl)
theorem dX0_product_14 : decode cX0_product 14 = .ok (.iconst 1, 1) := dk_4 (dk_at dksX0_product_0 14 rfl rfl)
theorem dX0_product_15 : decode cX0_product 15 = .ok (.iand, 1) := dk_126 (dk_at dksX0_product_0 15 rfl rfl)
theorem dX0_product_16 : decode cX0_product 16 = .ok (.iconst 1, 1) := dk_4 (dk_at dksX0_product_0 16 rfl rfl)
theorem dX0_product_17 : decode cX0_product 17 = .ok (.if_icmp .ne 7, 3) := dk_160 0 7 (dk_at dksX0_product_0 17 rfl rfl)
theorem dX0_product_20 : decode cX0_product 20 = .ok (.iload_n 2, 1) := dk_28 (dk_at dksX0_product_0 20 rfl rfl)
theorem dX0_product_21 : decode cX0_product 21 = .ok (.iload_n 3, 1) := dk_29 (dk_at dksX0_product_0 21 rfl rfl)
theorem dX0_product_22 : decode cX0_product 22 = .ok (.ixor, 1) := dk_130 (dk_at dksX0_product_0 22 rfl rfl)
theorem dX0_product_23 : decode cX0_product 23 = .ok (.istore_n 2, 1) := dk_61 (dk_at dksX0_product_0 23 rfl rfl)
theorem dX0_product_24 : decode cX0_product 24 = .ok (.iload_n 3, 1) := dk_29 (dk_at dksX0_product_1 0 rfl rfl)
theorem dX0_product_25 : decode cX0_product 25 = .ok (.iconst 1, 1) := dk_4 (dk_at dksX0_product_1 1 rfl rfl)
theorem dX0_product_26 : decode cX0_product 26 = .ok (.ishl, 1) := dk_120 (dk_at dksX0_product_1 2 rfl rfl)
theorem dX0_product_27 : decode cX0_product 27 = .ok (.istore_n 3, 1) := dk_62 (dk_at dksX0_product_1 3 rfl rfl)
theorem dX0_product_28 : decode cX0_product 28 = .ok (.iload_n 3, 1) := dk_29 (dk_at dksX0_product_1 4 rfl rfl)
theorem dX0_product_29 : decode cX0_product 29 = .ok (.sipush 255, 3) := dk_17 0 255 (dk_at dksX0_product_1 5 rfl rfl)
theorem dX0_product_32 : decode cX0_product 32 = .ok (.if_icmp .le 9, 3) := dk_164 0 9 (dk_at dksX0_product_1 8 rfl rfl)
theorem dX0_product_35 : decode cX0_product 35 = .ok (.iload_n 3, 1) := dk_29 (dk_at dksX0_product_1 11 rfl rfl)
theorem dX0_product_36 : decode cX0_product 36 = .ok (.sipush 301, 3) := dk_17 1 45 (dk_at dksX0_product_1 12 rfl rfl)
theorem dX0_product_39 : decode cX0_product 39 = .ok (.ixor, 1) := dk_130 (dk_at dksX0_product_1 15 rfl rfl)
theorem dX0_product_40 : decode cX0_product 40 = .ok (.istore_n 3, 1) := dk_62 (dk_at dksX0_product_1 16 rfl rfl)
theorem dX0_product_41 : decode cX0_product 41 = .ok (.iload 4, 2) := dk_21 4 (dk_at dksX0_product_1 17 rfl rfl)
theorem dX0_product_43 : decode cX0_product 43 = .ok (.iconst 1, 1) := dk_4 (dk_at dksX0_product_1 19 rfl rfl)
theorem dX0_product_44 : decode cX0_product 44 = .ok (.ishr, 1) := dk_122 (dk_at dksX0_product_1 20 rfl rfl)
theorem dX0_product_45 : decode cX0_product 45 = .ok (.istore 4, 2) := dk_54 4 (dk_at dksX0_product_1 21 rfl rfl)
theorem dX0_product_47 : decode cX0_product 47 = .ok (.goto (-40), 3) := dk_167 255 216 (dk_at dksX0_product_2 0 rfl rfl)
theorem dX0_product_50 : decode cX0_product 50 = .ok (.iload_n 2, 1) := dk_28 (dk_at dksX0_product_2 3 rfl rfl)
theorem dX0_product_51 : decode cX0_product 51 = .ok (.ireturn, 1) := dk_172 (dk_at dksX0_product_2 4 rfl rfl)
abbrev cX0_stays : ByteArray := method_6_code
def yX0_stays : MethodName := ⟨RX0, "stays", "(LSquareParity;[II)Z"⟩
def dkwX0_stays_2 : List UInt8 := [172]
abbrev dktX0_stays_2 : List UInt8 := dkwX0_stays_2 ++ []
def dkwX0_stays_1 : List UInt8 := [167, 255, 234, 42, 28, 182, 0, 27, 43, 28, 43, 190, 184, 0, 14, 46, 160, 0, 7, 4, 167, 0, 4, 3]
abbrev dktX0_stays_1 : List UInt8 := dkwX0_stays_1 ++ dktX0_stays_2
def dkwX0_stays_0 : List UInt8 := [3, 62, 29, 43, 190, 162, 0, 22, 42, 29, 182, 0, 27, 43, 29, 46, 159, 0, 5, 3, 172, 132, 3, 1]
abbrev dktX0_stays_0 : List UInt8 := dkwX0_stays_0 ++ dktX0_stays_1
theorem dksX0_stays_0 : cX0_stays.data.toList.drop 0 = dktX0_stays_0 := by decide +kernel
theorem dksX0_stays_1 : cX0_stays.data.toList.drop 24 = dktX0_stays_1 := dk_seg dksX0_stays_0 24 rfl rfl
theorem dksX0_stays_2 : cX0_stays.data.toList.drop 48 = dktX0_stays_2 := dk_seg dksX0_stays_1 24 rfl rfl
theorem dX0_stays_0 : decode cX0_stays 0 = .ok (.iconst 0, 1) := dk_3 (dk_at dksX0_stays_0 0 rfl rfl)
theorem dX0_stays_1 : decode cX0_stays 1 = .ok (.istore_n 3, 1) := dk_62 (dk_at dksX0_stays_0 1 rfl rfl)
theorem dX0_stays_2 : decode cX0_stays 2 = .ok (.iload_n 3, 1) := dk_29 (dk_at dksX0_stays_0 2 rfl rfl)
theorem dX0_stays_3 : decode cX0_stays 3 = .ok (.aload_n 1, 1) := dk_43 (dk_at dksX0_stays_0 3 rfl rfl)
theorem dX0_stays_4 : decode cX0_stays 4 = .ok (.arraylength, 1) := dk_190 (dk_at dksX0_stays_0 4 rfl rfl)
theorem dX0_stays_5 : decode cX0_stays 5 = .ok (.if_icmp .ge 22, 3) := dk_162 0 22 (dk_at dksX0_stays_0 5 rfl rfl)
theorem dX0_stays_8 : decode cX0_stays 8 = .ok (.aload_n 0, 1) := dk_42 (dk_at dksX0_stays_0 8 rfl rfl)
theorem dX0_stays_9 : decode cX0_stays 9 = .ok (.iload_n 3, 1) := dk_29 (dk_at dksX0_stays_0 9 rfl rfl)
theorem dX0_stays_10 : decode cX0_stays 10 = .ok (.invokevirtual 27, 3) := dk_182 0 27 (dk_at dksX0_stays_0 10 rfl rfl)
theorem dX0_stays_13 : decode cX0_stays 13 = .ok (.aload_n 1, 1) := dk_43 (dk_at dksX0_stays_0 13 rfl rfl)
theorem dX0_stays_14 : decode cX0_stays 14 = .ok (.iload_n 3, 1) := dk_29 (dk_at dksX0_stays_0 14 rfl rfl)
theorem dX0_stays_15 : decode cX0_stays 15 = .ok (.iaload, 1) := dk_46 (dk_at dksX0_stays_0 15 rfl rfl)
theorem dX0_stays_16 : decode cX0_stays 16 = .ok (.if_icmp .eq 5, 3) := dk_159 0 5 (dk_at dksX0_stays_0 16 rfl rfl)
theorem dX0_stays_19 : decode cX0_stays 19 = .ok (.iconst 0, 1) := dk_3 (dk_at dksX0_stays_0 19 rfl rfl)
theorem dX0_stays_20 : decode cX0_stays 20 = .ok (.ireturn, 1) := dk_172 (dk_at dksX0_stays_0 20 rfl rfl)
theorem dX0_stays_21 : decode cX0_stays 21 = .ok (.iinc 3 1, 3) := dk_132 3 1 (dk_at dksX0_stays_0 21 rfl rfl)
theorem dX0_stays_24 : decode cX0_stays 24 = .ok (.goto (-22), 3) := dk_167 255 234 (dk_at dksX0_stays_1 0 rfl rfl)
theorem dX0_stays_27 : decode cX0_stays 27 = .ok (.aload_n 0, 1) := dk_42 (dk_at dksX0_stays_1 3 rfl rfl)
theorem dX0_stays_28 : decode cX0_stays 28 = .ok (.iload_n 2, 1) := dk_28 (dk_at dksX0_stays_1 4 rfl rfl)
theorem dX0_stays_29 : decode cX0_stays 29 = .ok (.invokevirtual 27, 3) := dk_182 0 27 (dk_at dksX0_stays_1 5 rfl rfl)
theorem dX0_stays_32 : decode cX0_stays 32 = .ok (.aload_n 1, 1) := dk_43 (dk_at dksX0_stays_1 8 rfl rfl)
theorem dX0_stays_33 : decode cX0_stays 33 = .ok (.iload_n 2, 1) := dk_28 (dk_at dksX0_stays_1 9 rfl rfl)
theorem dX0_stays_34 : decode cX0_stays 34 = .ok (.aload_n 1, 1) := dk_43 (dk_at dksX0_stays_1 10 rfl rfl)
theorem dX0_stays_35 : decode cX0_stays 35 = .ok (.arraylength, 1) := dk_190 (dk_at dksX0_stays_1 11 rfl rfl)
theorem dX0_stays_36 : decode cX0_stays 36 = .ok (.invokestatic 14, 3) := dk_184 0 14 (dk_at dksX0_stays_1 12 rfl rfl)
theorem dX0_stays_39 : decode cX0_stays 39 = .ok (.iaload, 1) := dk_46 (dk_at dksX0_stays_1 15 rfl rfl)
theorem dX0_stays_40 : decode cX0_stays 40 = .ok (.if_icmp .ne 7, 3) := dk_160 0 7 (dk_at dksX0_stays_1 16 rfl rfl)
theorem dX0_stays_43 : decode cX0_stays 43 = .ok (.iconst 1, 1) := dk_4 (dk_at dksX0_stays_1 19 rfl rfl)
theorem dX0_stays_44 : decode cX0_stays 44 = .ok (.goto 4, 3) := dk_167 0 4 (dk_at dksX0_stays_1 20 rfl rfl)
theorem dX0_stays_47 : decode cX0_stays 47 = .ok (.iconst 0, 1) := dk_3 (dk_at dksX0_stays_1 23 rfl rfl)
theorem dX0_stays_48 : decode cX0_stays 48 = .ok (.ireturn, 1) := dk_172 (dk_at dksX0_stays_2 0 rfl rfl)
theorem q1 : (Jvm.Cond.initialized "SquareParityLaw") ∈ lw_all := lw_g (lw_at lw_m1 0 rfl) rfl
theorem q19 : (Jvm.Cond.classLink "SquareParityLaw" (22 : Nat) "SquareParity") ∈ lw_all := lw_g (lw_at lw_m1 18 rfl) rfl
theorem q21 : (Jvm.Cond.methodLink "SquareParityLaw" (33 : Nat) ({ cls := "SquareParity", name := "<init>", desc := "()V" } : Jvm.MethodName)) ∈ lw_all := lw_g (lw_at lw_m1 20 rfl) rfl
theorem q37 : (Jvm.Cond.methodLink "SquareParityLaw" (38 : Nat) ({ cls := "SquareParity", name := "letter", desc := "(II)V" } : Jvm.MethodName)) ∈ lw_all := lw_g (lw_at lw_m1 36 rfl) rfl
theorem q42 : (Jvm.Cond.methodLink "SquareParityLaw" (46 : Nat) ({ cls := "SquareParity", name := "fill", desc := "(II)V" } : Jvm.MethodName)) ∈ lw_all := lw_g (lw_at lw_m1 41 rfl) rfl
theorem q46 : (Jvm.Cond.methodLink "SquareParityLaw" (27 : Nat) ({ cls := "SquareParity", name := "whole", desc := "(I)I" } : Jvm.MethodName)) ∈ lw_all := lw_g (lw_at lw_m1 45 rfl) rfl
theorem q98 : (Jvm.Cond.methodLink "SquareParityLaw" (34 : Nat) ({ cls := "SquareParityLaw", name := "cell", desc := "([II)I" } : Jvm.MethodName)) ∈ lw_all := lw_g (lw_at lw_m1 97 rfl) rfl
theorem q99 : (Jvm.Cond.static ({ cls := "SquareParityLaw", name := "cell", desc := "([II)I" } : Jvm.MethodName)) ∈ lw_all := lw_g (lw_at lw_m1 98 rfl) rfl
theorem q100 : (Jvm.Cond.code ({ cls := "SquareParityLaw", name := "cell", desc := "([II)I" } : Jvm.MethodName) method_2_code (2 : Nat) (Option.some Jvm.ClassFile.FieldType.int)) ∈ lw_all := lw_g (lw_at lw_m1 99 rfl) rfl
theorem q101 : (Jvm.Cond.methodLink "SquareParityLaw" (14 : Nat) ({ cls := "SquareParityLaw", name := "rest", desc := "(II)I" } : Jvm.MethodName)) ∈ lw_all := lw_g (lw_at lw_m1 100 rfl) rfl
theorem q102 : (Jvm.Cond.static ({ cls := "SquareParityLaw", name := "rest", desc := "(II)I" } : Jvm.MethodName)) ∈ lw_all := lw_g (lw_at lw_m1 101 rfl) rfl
theorem q103 : (Jvm.Cond.code ({ cls := "SquareParityLaw", name := "rest", desc := "(II)I" } : Jvm.MethodName) method_3_code (2 : Nat) (Option.some Jvm.ClassFile.FieldType.int)) ∈ lw_all := lw_g (lw_at lw_m1 102 rfl) rfl
theorem q104 : (Jvm.Cond.constant "SquareParityLaw" (7 : Nat) (2147483647 : Int32)) ∈ lw_all := lw_g (lw_at lw_m1 103 rfl) rfl
theorem q105 : (Jvm.Cond.methodLink "SquareParityLaw" (42 : Nat) ({ cls := "SquareParityLaw", name := "written", desc := "(LSquareParity;[II)[I" } : Jvm.MethodName)) ∈ lw_all := lw_g (lw_at lw_m1 104 rfl) rfl
theorem q106 : (Jvm.Cond.static ({ cls := "SquareParityLaw", name := "written", desc := "(LSquareParity;[II)[I" } : Jvm.MethodName)) ∈ lw_all := lw_g (lw_at lw_m1 105 rfl) rfl
theorem q107 : (Jvm.Cond.code ({ cls := "SquareParityLaw", name := "written", desc := "(LSquareParity;[II)[I" } : Jvm.MethodName) method_5_code (10 : Nat) (Option.some (Jvm.ClassFile.FieldType.array Jvm.ClassFile.FieldType.int))) ∈ lw_all := lw_g (lw_at lw_m1 106 rfl) rfl
theorem q108 : (Jvm.Cond.fieldLink "SquareParityLaw" (8 : Nat) "SquareParityLaw" "ROOM" "[I") ∈ lw_all := lw_g (lw_at lw_m1 107 rfl) rfl
theorem q109 : (Jvm.Cond.laysStatic "SquareParityLaw" "ROOM" "[I") ∈ lw_tbl := lw_at lw_m1 108 rfl
theorem q110 : (Jvm.Cond.fieldLink "SquareParityLaw" (18 : Nat) "SquareParityLaw" "CHECKS" "[I") ∈ lw_all := lw_g (lw_at lw_m1 109 rfl) rfl
theorem q111 : (Jvm.Cond.laysStatic "SquareParityLaw" "CHECKS" "[I") ∈ lw_tbl := lw_at lw_m1 110 rfl
theorem q112 : (Jvm.Cond.methodLink "SquareParityLaw" (21 : Nat) ({ cls := "SquareParity", name := "write", desc := "(I)I" } : Jvm.MethodName)) ∈ lw_all := lw_g (lw_at lw_m1 111 rfl) rfl
theorem q550 : (Jvm.Cond.methodLink "SquareParityLaw" (30 : Nat) ({ cls := "SquareParityLaw", name := "product", desc := "(II)I" } : Jvm.MethodName)) ∈ lw_all := lw_g (lw_at lw_m3 69 rfl) rfl
theorem q551 : (Jvm.Cond.static ({ cls := "SquareParityLaw", name := "product", desc := "(II)I" } : Jvm.MethodName)) ∈ lw_all := lw_g (lw_at lw_m3 70 rfl) rfl
theorem q552 : (Jvm.Cond.code ({ cls := "SquareParityLaw", name := "product", desc := "(II)I" } : Jvm.MethodName) method_4_code (5 : Nat) (Option.some Jvm.ClassFile.FieldType.int)) ∈ lw_all := lw_g (lw_at lw_m3 71 rfl) rfl
theorem q554 : (Jvm.Cond.methodLink "SquareParityLaw" (49 : Nat) ({ cls := "SquareParityLaw", name := "stays", desc := "(LSquareParity;[II)Z" } : Jvm.MethodName)) ∈ lw_all := lw_g (lw_at lw_m3 73 rfl) rfl
theorem q555 : (Jvm.Cond.static ({ cls := "SquareParityLaw", name := "stays", desc := "(LSquareParity;[II)Z" } : Jvm.MethodName)) ∈ lw_all := lw_g (lw_at lw_m3 74 rfl) rfl
theorem q556 : (Jvm.Cond.code ({ cls := "SquareParityLaw", name := "stays", desc := "(LSquareParity;[II)Z" } : Jvm.MethodName) method_6_code (4 : Nat) (Option.some Jvm.ClassFile.FieldType.boolean)) ∈ lw_all := lw_g (lw_at lw_m3 75 rfl) rfl
/-! the law's own entry -/
set_option maxRecDepth 100000
abbrev cL_law : ByteArray := code
def dkwL_law_13 : List UInt8 := [178, 0, 18, 28, 16, 10, 184, 0, 14, 46, 164, 0, 7, 4, 167, 0, 4, 3, 172]
abbrev dktL_law_13 : List UInt8 := dkwL_law_13 ++ []
def dkwL_law_12 : List UInt8 := [21, 9, 46, 159, 0, 6, 132, 8, 1, 132, 9, 1, 167, 255, 229, 21, 8, 153, 0, 18, 21, 8]
abbrev dktL_law_12 : List UInt8 := dkwL_law_12 ++ dktL_law_13
def dkwL_law_11 : List UInt8 := [3, 172, 3, 54, 8, 3, 54, 9, 21, 9, 25, 4, 190, 162, 0, 25, 25, 4, 21, 9, 46, 25, 7]
abbrev dktL_law_11 : List UInt8 := dkwL_law_11 ++ dktL_law_12
def dkwL_law_10 : List UInt8 := [184, 0, 42, 58, 7, 25, 7, 198, 0, 17, 43, 25, 7, 42, 4, 184, 0, 34, 184, 0, 49, 154, 0, 5]
abbrev dktL_law_10 : List UInt8 := dkwL_law_10 ++ dktL_law_11
def dkwL_law_9 : List UInt8 := [167, 255, 203, 43, 25, 4, 42, 4, 184, 0, 34, 184, 0, 49, 154, 0, 5, 3, 172, 43, 45, 28]
abbrev dktL_law_9 : List UInt8 := dkwL_law_9 ++ dktL_law_10
def dkwL_law_8 : List UInt8 := [79, 43, 42, 21, 7, 184, 0, 34, 42, 21, 7, 4, 96, 184, 0, 34, 182, 0, 38, 132, 7, 2]
abbrev dktL_law_8 : List UInt8 := dkwL_law_8 ++ dktL_law_9
def dkwL_law_7 : List UInt8 := [45, 42, 21, 7, 184, 0, 34, 16, 62, 184, 0, 14, 42, 21, 7, 4, 96, 184, 0, 34, 17, 0, 255, 126]
abbrev dktL_law_7 : List UInt8 := dkwL_law_7 ++ dktL_law_8
def dkwL_law_6 : List UInt8 := [104, 96, 17, 0, 255, 126, 79, 132, 7, 1, 167, 255, 230, 16, 66, 54, 7, 21, 7, 16, 96, 162, 0, 52]
abbrev dktL_law_6 : List UInt8 := dkwL_law_6 ++ dktL_law_7
def dkwL_law_5 : List UInt8 := [21, 6, 182, 0, 46, 3, 54, 7, 21, 7, 16, 62, 162, 0, 25, 45, 21, 7, 21, 5, 21, 6, 21, 7]
abbrev dktL_law_5 : List UInt8 := dkwL_law_5 ++ dktL_law_6
def dkwL_law_4 : List UInt8 := [199, 0, 5, 3, 172, 42, 16, 64, 184, 0, 34, 54, 5, 42, 16, 65, 184, 0, 34, 54, 6, 43, 21, 5]
abbrev dktL_law_4 : List UInt8 := dkwL_law_4 ++ dktL_law_5
def dkwL_law_3 : List UInt8 := [184, 0, 34, 182, 0, 38, 132, 4, 1, 167, 255, 216, 43, 45, 28, 184, 0, 42, 58, 4, 25, 4]
abbrev dktL_law_3 : List UInt8 := dkwL_law_3 ++ dktL_law_4
def dkwL_law_2 : List UInt8 := [21, 4, 42, 5, 21, 4, 96, 184, 0, 34, 17, 0, 255, 126, 79, 43, 21, 4, 42, 5, 21, 4, 96]
abbrev dktL_law_2 : List UInt8 := dkwL_law_2 ++ dktL_law_3
def dkwL_law_1 : List UInt8 := [184, 0, 34, 182, 0, 27, 2, 159, 0, 5, 3, 172, 3, 54, 4, 21, 4, 16, 62, 162, 0, 39, 45]
abbrev dktL_law_1 : List UInt8 := dkwL_law_1 ++ dktL_law_2
def dkwL_law_0 : List UInt8 := [187, 0, 22, 89, 183, 0, 33, 76, 42, 3, 184, 0, 34, 61, 16, 62, 188, 10, 78, 43, 42, 4]
abbrev dktL_law_0 : List UInt8 := dkwL_law_0 ++ dktL_law_1
theorem dksL_law_0 : cL_law.data.toList.drop 0 = dktL_law_0 := by decide +kernel
theorem dksL_law_1 : cL_law.data.toList.drop 22 = dktL_law_1 := dk_seg dksL_law_0 22 rfl rfl
theorem dksL_law_2 : cL_law.data.toList.drop 45 = dktL_law_2 := dk_seg dksL_law_1 23 rfl rfl
theorem dksL_law_3 : cL_law.data.toList.drop 68 = dktL_law_3 := dk_seg dksL_law_2 23 rfl rfl
theorem dksL_law_4 : cL_law.data.toList.drop 90 = dktL_law_4 := dk_seg dksL_law_3 22 rfl rfl
theorem dksL_law_5 : cL_law.data.toList.drop 114 = dktL_law_5 := dk_seg dksL_law_4 24 rfl rfl
theorem dksL_law_6 : cL_law.data.toList.drop 138 = dktL_law_6 := dk_seg dksL_law_5 24 rfl rfl
theorem dksL_law_7 : cL_law.data.toList.drop 162 = dktL_law_7 := dk_seg dksL_law_6 24 rfl rfl
theorem dksL_law_8 : cL_law.data.toList.drop 186 = dktL_law_8 := dk_seg dksL_law_7 24 rfl rfl
theorem dksL_law_9 : cL_law.data.toList.drop 208 = dktL_law_9 := dk_seg dksL_law_8 22 rfl rfl
theorem dksL_law_10 : cL_law.data.toList.drop 230 = dktL_law_10 := dk_seg dksL_law_9 22 rfl rfl
theorem dksL_law_11 : cL_law.data.toList.drop 254 = dktL_law_11 := dk_seg dksL_law_10 24 rfl rfl
theorem dksL_law_12 : cL_law.data.toList.drop 277 = dktL_law_12 := dk_seg dksL_law_11 23 rfl rfl
theorem dksL_law_13 : cL_law.data.toList.drop 299 = dktL_law_13 := dk_seg dksL_law_12 22 rfl rfl
theorem dL_law_0 : decode cL_law 0 = .ok (.new 22, 3) := dk_187 0 22 (dk_at dksL_law_0 0 rfl rfl)
theorem dL_law_3 : decode cL_law 3 = .ok (.dup, 1) := dk_89 (dk_at dksL_law_0 3 rfl rfl)
theorem dL_law_4 : decode cL_law 4 = .ok (.invokespecial 33, 3) := dk_183 0 33 (dk_at dksL_law_0 4 rfl rfl)
theorem dL_law_7 : decode cL_law 7 = .ok (.astore_n 1, 1) := dk_76 (dk_at dksL_law_0 7 rfl rfl)
theorem dL_law_8 : decode cL_law 8 = .ok (.aload_n 0, 1) := dk_42 (dk_at dksL_law_0 8 rfl rfl)
theorem dL_law_9 : decode cL_law 9 = .ok (.iconst 0, 1) := dk_3 (dk_at dksL_law_0 9 rfl rfl)
theorem dL_law_10 : decode cL_law 10 = .ok (.invokestatic 34, 3) := dk_184 0 34 (dk_at dksL_law_0 10 rfl rfl)
theorem dL_law_13 : decode cL_law 13 = .ok (.istore_n 2, 1) := dk_61 (dk_at dksL_law_0 13 rfl rfl)
theorem dL_law_14 : decode cL_law 14 = .ok (.bipush 62, 2) := dk_16 62 (dk_at dksL_law_0 14 rfl rfl)
theorem dL_law_16 : decode cL_law 16 = .ok (.newarray .int, 2) := dk_188_10 (dk_at dksL_law_0 16 rfl rfl)
theorem dL_law_18 : decode cL_law 18 = .ok (.astore_n 3, 1) := dk_78 (dk_at dksL_law_0 18 rfl rfl)
theorem dL_law_19 : decode cL_law 19 = .ok (.aload_n 1, 1) := dk_43 (dk_at dksL_law_0 19 rfl rfl)
theorem dL_law_20 : decode cL_law 20 = .ok (.aload_n 0, 1) := dk_42 (dk_at dksL_law_0 20 rfl rfl)
theorem dL_law_21 : decode cL_law 21 = .ok (.iconst 1, 1) := dk_4 (dk_at dksL_law_0 21 rfl rfl)
theorem dL_law_22 : decode cL_law 22 = .ok (.invokestatic 34, 3) := dk_184 0 34 (dk_at dksL_law_1 0 rfl rfl)
theorem dL_law_25 : decode cL_law 25 = .ok (.invokevirtual 27, 3) := dk_182 0 27 (dk_at dksL_law_1 3 rfl rfl)
theorem dL_law_28 : decode cL_law 28 = .ok (.iconst (-1), 1) := dk_2 (dk_at dksL_law_1 6 rfl rfl)
theorem dL_law_29 : decode cL_law 29 = .ok (.if_icmp .eq 5, 3) := dk_159 0 5 (dk_at dksL_law_1 7 rfl rfl)
theorem dL_law_32 : decode cL_law 32 = .ok (.iconst 0, 1) := dk_3 (dk_at dksL_law_1 10 rfl rfl)
theorem dL_law_33 : decode cL_law 33 = .ok (.ireturn, 1) := dk_172 (dk_at dksL_law_1 11 rfl rfl)
theorem dL_law_34 : decode cL_law 34 = .ok (.iconst 0, 1) := dk_3 (dk_at dksL_law_1 12 rfl rfl)
theorem dL_law_35 : decode cL_law 35 = .ok (.istore 4, 2) := dk_54 4 (dk_at dksL_law_1 13 rfl rfl)
theorem dL_law_37 : decode cL_law 37 = .ok (.iload 4, 2) := dk_21 4 (dk_at dksL_law_1 15 rfl rfl)
theorem dL_law_39 : decode cL_law 39 = .ok (.bipush 62, 2) := dk_16 62 (dk_at dksL_law_1 17 rfl rfl)
theorem dL_law_41 : decode cL_law 41 = .ok (.if_icmp .ge 39, 3) := dk_162 0 39 (dk_at dksL_law_1 19 rfl rfl)
theorem dL_law_44 : decode cL_law 44 = .ok (.aload_n 3, 1) := dk_45 (dk_at dksL_law_1 22 rfl rfl)
theorem dL_law_45 : decode cL_law 45 = .ok (.iload 4, 2) := dk_21 4 (dk_at dksL_law_2 0 rfl rfl)
theorem dL_law_47 : decode cL_law 47 = .ok (.aload_n 0, 1) := dk_42 (dk_at dksL_law_2 2 rfl rfl)
theorem dL_law_48 : decode cL_law 48 = .ok (.iconst 2, 1) := dk_5 (dk_at dksL_law_2 3 rfl rfl)
theorem dL_law_49 : decode cL_law 49 = .ok (.iload 4, 2) := dk_21 4 (dk_at dksL_law_2 4 rfl rfl)
theorem dL_law_51 : decode cL_law 51 = .ok (.iadd, 1) := dk_96 (dk_at dksL_law_2 6 rfl rfl)
theorem dL_law_52 : decode cL_law 52 = .ok (.invokestatic 34, 3) := dk_184 0 34 (dk_at dksL_law_2 7 rfl rfl)
theorem dL_law_55 : decode cL_law 55 = .ok (.sipush 255, 3) := dk_17 0 255 (dk_at dksL_law_2 10 rfl rfl)
theorem dL_law_58 : decode cL_law 58 = .ok (.iand, 1) := dk_126 (dk_at dksL_law_2 13 rfl rfl)
theorem dL_law_59 : decode cL_law 59 = .ok (.iastore, 1) := dk_79 (dk_at dksL_law_2 14 rfl rfl)
theorem dL_law_60 : decode cL_law 60 = .ok (.aload_n 1, 1) := dk_43 (dk_at dksL_law_2 15 rfl rfl)
theorem dL_law_61 : decode cL_law 61 = .ok (.iload 4, 2) := dk_21 4 (dk_at dksL_law_2 16 rfl rfl)
theorem dL_law_63 : decode cL_law 63 = .ok (.aload_n 0, 1) := dk_42 (dk_at dksL_law_2 18 rfl rfl)
theorem dL_law_64 : decode cL_law 64 = .ok (.iconst 2, 1) := dk_5 (dk_at dksL_law_2 19 rfl rfl)
theorem dL_law_65 : decode cL_law 65 = .ok (.iload 4, 2) := dk_21 4 (dk_at dksL_law_2 20 rfl rfl)
theorem dL_law_67 : decode cL_law 67 = .ok (.iadd, 1) := dk_96 (dk_at dksL_law_2 22 rfl rfl)
theorem dL_law_68 : decode cL_law 68 = .ok (.invokestatic 34, 3) := dk_184 0 34 (dk_at dksL_law_3 0 rfl rfl)
theorem dL_law_71 : decode cL_law 71 = .ok (.invokevirtual 38, 3) := dk_182 0 38 (dk_at dksL_law_3 3 rfl rfl)
theorem dL_law_74 : decode cL_law 74 = .ok (.iinc 4 1, 3) := dk_132 4 1 (dk_at dksL_law_3 6 rfl rfl)
theorem dL_law_77 : decode cL_law 77 = .ok (.goto (-40), 3) := dk_167 255 216 (dk_at dksL_law_3 9 rfl rfl)
theorem dL_law_80 : decode cL_law 80 = .ok (.aload_n 1, 1) := dk_43 (dk_at dksL_law_3 12 rfl rfl)
theorem dL_law_81 : decode cL_law 81 = .ok (.aload_n 3, 1) := dk_45 (dk_at dksL_law_3 13 rfl rfl)
theorem dL_law_82 : decode cL_law 82 = .ok (.iload_n 2, 1) := dk_28 (dk_at dksL_law_3 14 rfl rfl)
theorem dL_law_83 : decode cL_law 83 = .ok (.invokestatic 42, 3) := dk_184 0 42 (dk_at dksL_law_3 15 rfl rfl)
theorem dL_law_86 : decode cL_law 86 = .ok (.astore 4, 2) := dk_58 4 (dk_at dksL_law_3 18 rfl rfl)
theorem dL_law_88 : decode cL_law 88 = .ok (.aload 4, 2) := dk_25 4 (dk_at dksL_law_3 20 rfl rfl)
theorem dL_law_90 : decode cL_law 90 = .ok (.ifnonnull 5, 3) := dk_199 0 5 (dk_at dksL_law_4 0 rfl rfl)
theorem dL_law_93 : decode cL_law 93 = .ok (.iconst 0, 1) := dk_3 (dk_at dksL_law_4 3 rfl rfl)
theorem dL_law_94 : decode cL_law 94 = .ok (.ireturn, 1) := dk_172 (dk_at dksL_law_4 4 rfl rfl)
theorem dL_law_95 : decode cL_law 95 = .ok (.aload_n 0, 1) := dk_42 (dk_at dksL_law_4 5 rfl rfl)
theorem dL_law_96 : decode cL_law 96 = .ok (.bipush 64, 2) := dk_16 64 (dk_at dksL_law_4 6 rfl rfl)
theorem dL_law_98 : decode cL_law 98 = .ok (.invokestatic 34, 3) := dk_184 0 34 (dk_at dksL_law_4 8 rfl rfl)
theorem dL_law_101 : decode cL_law 101 = .ok (.istore 5, 2) := dk_54 5 (dk_at dksL_law_4 11 rfl rfl)
theorem dL_law_103 : decode cL_law 103 = .ok (.aload_n 0, 1) := dk_42 (dk_at dksL_law_4 13 rfl rfl)
theorem dL_law_104 : decode cL_law 104 = .ok (.bipush 65, 2) := dk_16 65 (dk_at dksL_law_4 14 rfl rfl)
theorem dL_law_106 : decode cL_law 106 = .ok (.invokestatic 34, 3) := dk_184 0 34 (dk_at dksL_law_4 16 rfl rfl)
theorem dL_law_109 : decode cL_law 109 = .ok (.istore 6, 2) := dk_54 6 (dk_at dksL_law_4 19 rfl rfl)
theorem dL_law_111 : decode cL_law 111 = .ok (.aload_n 1, 1) := dk_43 (dk_at dksL_law_4 21 rfl rfl)
theorem dL_law_112 : decode cL_law 112 = .ok (.iload 5, 2) := dk_21 5 (dk_at dksL_law_4 22 rfl rfl)
theorem dL_law_114 : decode cL_law 114 = .ok (.iload 6, 2) := dk_21 6 (dk_at dksL_law_5 0 rfl rfl)
theorem dL_law_116 : decode cL_law 116 = .ok (.invokevirtual 46, 3) := dk_182 0 46 (dk_at dksL_law_5 2 rfl rfl)
theorem dL_law_119 : decode cL_law 119 = .ok (.iconst 0, 1) := dk_3 (dk_at dksL_law_5 5 rfl rfl)
theorem dL_law_120 : decode cL_law 120 = .ok (.istore 7, 2) := dk_54 7 (dk_at dksL_law_5 6 rfl rfl)
theorem dL_law_122 : decode cL_law 122 = .ok (.iload 7, 2) := dk_21 7 (dk_at dksL_law_5 8 rfl rfl)
theorem dL_law_124 : decode cL_law 124 = .ok (.bipush 62, 2) := dk_16 62 (dk_at dksL_law_5 10 rfl rfl)
theorem dL_law_126 : decode cL_law 126 = .ok (.if_icmp .ge 25, 3) := dk_162 0 25 (dk_at dksL_law_5 12 rfl rfl)
theorem dL_law_129 : decode cL_law 129 = .ok (.aload_n 3, 1) := dk_45 (dk_at dksL_law_5 15 rfl rfl)
theorem dL_law_130 : decode cL_law 130 = .ok (.iload 7, 2) := dk_21 7 (dk_at dksL_law_5 16 rfl rfl)
theorem dL_law_132 : decode cL_law 132 = .ok (.iload 5, 2) := dk_21 5 (dk_at dksL_law_5 18 rfl rfl)
theorem dL_law_134 : decode cL_law 134 = .ok (.iload 6, 2) := dk_21 6 (dk_at dksL_law_5 20 rfl rfl)
theorem dL_law_136 : decode cL_law 136 = .ok (.iload 7, 2) := dk_21 7 (dk_at dksL_law_5 22 rfl rfl)
theorem dL_law_138 : decode cL_law 138 = .ok (.imul, 1) := dk_104 (dk_at dksL_law_6 0 rfl rfl)
theorem dL_law_139 : decode cL_law 139 = .ok (.iadd, 1) := dk_96 (dk_at dksL_law_6 1 rfl rfl)
theorem dL_law_140 : decode cL_law 140 = .ok (.sipush 255, 3) := dk_17 0 255 (dk_at dksL_law_6 2 rfl rfl)
theorem dL_law_143 : decode cL_law 143 = .ok (.iand, 1) := dk_126 (dk_at dksL_law_6 5 rfl rfl)
theorem dL_law_144 : decode cL_law 144 = .ok (.iastore, 1) := dk_79 (dk_at dksL_law_6 6 rfl rfl)
theorem dL_law_145 : decode cL_law 145 = .ok (.iinc 7 1, 3) := dk_132 7 1 (dk_at dksL_law_6 7 rfl rfl)
theorem dL_law_148 : decode cL_law 148 = .ok (.goto (-26), 3) := dk_167 255 230 (dk_at dksL_law_6 10 rfl rfl)
theorem dL_law_151 : decode cL_law 151 = .ok (.bipush 66, 2) := dk_16 66 (dk_at dksL_law_6 13 rfl rfl)
theorem dL_law_153 : decode cL_law 153 = .ok (.istore 7, 2) := dk_54 7 (dk_at dksL_law_6 15 rfl rfl)
theorem dL_law_155 : decode cL_law 155 = .ok (.iload 7, 2) := dk_21 7 (dk_at dksL_law_6 17 rfl rfl)
theorem dL_law_157 : decode cL_law 157 = .ok (.bipush 96, 2) := dk_16 96 (dk_at dksL_law_6 19 rfl rfl)
theorem dL_law_159 : decode cL_law 159 = .ok (.if_icmp .ge 52, 3) := dk_162 0 52 (dk_at dksL_law_6 21 rfl rfl)
theorem dL_law_162 : decode cL_law 162 = .ok (.aload_n 3, 1) := dk_45 (dk_at dksL_law_7 0 rfl rfl)
theorem dL_law_163 : decode cL_law 163 = .ok (.aload_n 0, 1) := dk_42 (dk_at dksL_law_7 1 rfl rfl)
theorem dL_law_164 : decode cL_law 164 = .ok (.iload 7, 2) := dk_21 7 (dk_at dksL_law_7 2 rfl rfl)
theorem dL_law_166 : decode cL_law 166 = .ok (.invokestatic 34, 3) := dk_184 0 34 (dk_at dksL_law_7 4 rfl rfl)
theorem dL_law_169 : decode cL_law 169 = .ok (.bipush 62, 2) := dk_16 62 (dk_at dksL_law_7 7 rfl rfl)
theorem dL_law_171 : decode cL_law 171 = .ok (.invokestatic 14, 3) := dk_184 0 14 (dk_at dksL_law_7 9 rfl rfl)
theorem dL_law_174 : decode cL_law 174 = .ok (.aload_n 0, 1) := dk_42 (dk_at dksL_law_7 12 rfl rfl)
theorem dL_law_175 : decode cL_law 175 = .ok (.iload 7, 2) := dk_21 7 (dk_at dksL_law_7 13 rfl rfl)
theorem dL_law_177 : decode cL_law 177 = .ok (.iconst 1, 1) := dk_4 (dk_at dksL_law_7 15 rfl rfl)
theorem dL_law_178 : decode cL_law 178 = .ok (.iadd, 1) := dk_96 (dk_at dksL_law_7 16 rfl rfl)
theorem dL_law_179 : decode cL_law 179 = .ok (.invokestatic 34, 3) := dk_184 0 34 (dk_at dksL_law_7 17 rfl rfl)
theorem dL_law_182 : decode cL_law 182 = .ok (.sipush 255, 3) := dk_17 0 255 (dk_at dksL_law_7 20 rfl rfl)
theorem dL_law_185 : decode cL_law 185 = .ok (.iand, 1) := dk_126 (dk_at dksL_law_7 23 rfl rfl)
theorem dL_law_186 : decode cL_law 186 = .ok (.iastore, 1) := dk_79 (dk_at dksL_law_8 0 rfl rfl)
theorem dL_law_187 : decode cL_law 187 = .ok (.aload_n 1, 1) := dk_43 (dk_at dksL_law_8 1 rfl rfl)
theorem dL_law_188 : decode cL_law 188 = .ok (.aload_n 0, 1) := dk_42 (dk_at dksL_law_8 2 rfl rfl)
theorem dL_law_189 : decode cL_law 189 = .ok (.iload 7, 2) := dk_21 7 (dk_at dksL_law_8 3 rfl rfl)
theorem dL_law_191 : decode cL_law 191 = .ok (.invokestatic 34, 3) := dk_184 0 34 (dk_at dksL_law_8 5 rfl rfl)
theorem dL_law_194 : decode cL_law 194 = .ok (.aload_n 0, 1) := dk_42 (dk_at dksL_law_8 8 rfl rfl)
theorem dL_law_195 : decode cL_law 195 = .ok (.iload 7, 2) := dk_21 7 (dk_at dksL_law_8 9 rfl rfl)
theorem dL_law_197 : decode cL_law 197 = .ok (.iconst 1, 1) := dk_4 (dk_at dksL_law_8 11 rfl rfl)
theorem dL_law_198 : decode cL_law 198 = .ok (.iadd, 1) := dk_96 (dk_at dksL_law_8 12 rfl rfl)
theorem dL_law_199 : decode cL_law 199 = .ok (.invokestatic 34, 3) := dk_184 0 34 (dk_at dksL_law_8 13 rfl rfl)
theorem dL_law_202 : decode cL_law 202 = .ok (.invokevirtual 38, 3) := dk_182 0 38 (dk_at dksL_law_8 16 rfl rfl)
theorem dL_law_205 : decode cL_law 205 = .ok (.iinc 7 2, 3) := dk_132 7 2 (dk_at dksL_law_8 19 rfl rfl)
theorem dL_law_208 : decode cL_law 208 = .ok (.goto (-53), 3) := dk_167 255 203 (dk_at dksL_law_9 0 rfl rfl)
theorem dL_law_211 : decode cL_law 211 = .ok (.aload_n 1, 1) := dk_43 (dk_at dksL_law_9 3 rfl rfl)
theorem dL_law_212 : decode cL_law 212 = .ok (.aload 4, 2) := dk_25 4 (dk_at dksL_law_9 4 rfl rfl)
theorem dL_law_214 : decode cL_law 214 = .ok (.aload_n 0, 1) := dk_42 (dk_at dksL_law_9 6 rfl rfl)
theorem dL_law_215 : decode cL_law 215 = .ok (.iconst 1, 1) := dk_4 (dk_at dksL_law_9 7 rfl rfl)
theorem dL_law_216 : decode cL_law 216 = .ok (.invokestatic 34, 3) := dk_184 0 34 (dk_at dksL_law_9 8 rfl rfl)
theorem dL_law_219 : decode cL_law 219 = .ok (.invokestatic 49, 3) := dk_184 0 49 (dk_at dksL_law_9 11 rfl rfl)
theorem dL_law_222 : decode cL_law 222 = .ok (.ifCond .ne 5, 3) := dk_154 0 5 (dk_at dksL_law_9 14 rfl rfl)
theorem dL_law_225 : decode cL_law 225 = .ok (.iconst 0, 1) := dk_3 (dk_at dksL_law_9 17 rfl rfl)
theorem dL_law_226 : decode cL_law 226 = .ok (.ireturn, 1) := dk_172 (dk_at dksL_law_9 18 rfl rfl)
theorem dL_law_227 : decode cL_law 227 = .ok (.aload_n 1, 1) := dk_43 (dk_at dksL_law_9 19 rfl rfl)
theorem dL_law_228 : decode cL_law 228 = .ok (.aload_n 3, 1) := dk_45 (dk_at dksL_law_9 20 rfl rfl)
theorem dL_law_229 : decode cL_law 229 = .ok (.iload_n 2, 1) := dk_28 (dk_at dksL_law_9 21 rfl rfl)
theorem dL_law_230 : decode cL_law 230 = .ok (.invokestatic 42, 3) := dk_184 0 42 (dk_at dksL_law_10 0 rfl rfl)
theorem dL_law_233 : decode cL_law 233 = .ok (.astore 7, 2) := dk_58 7 (dk_at dksL_law_10 3 rfl rfl)
theorem dL_law_235 : decode cL_law 235 = .ok (.aload 7, 2) := dk_25 7 (dk_at dksL_law_10 5 rfl rfl)
theorem dL_law_237 : decode cL_law 237 = .ok (.ifnull 17, 3) := dk_198 0 17 (dk_at dksL_law_10 7 rfl rfl)
theorem dL_law_240 : decode cL_law 240 = .ok (.aload_n 1, 1) := dk_43 (dk_at dksL_law_10 10 rfl rfl)
theorem dL_law_241 : decode cL_law 241 = .ok (.aload 7, 2) := dk_25 7 (dk_at dksL_law_10 11 rfl rfl)
theorem dL_law_243 : decode cL_law 243 = .ok (.aload_n 0, 1) := dk_42 (dk_at dksL_law_10 13 rfl rfl)
theorem dL_law_244 : decode cL_law 244 = .ok (.iconst 1, 1) := dk_4 (dk_at dksL_law_10 14 rfl rfl)
theorem dL_law_245 : decode cL_law 245 = .ok (.invokestatic 34, 3) := dk_184 0 34 (dk_at dksL_law_10 15 rfl rfl)
theorem dL_law_248 : decode cL_law 248 = .ok (.invokestatic 49, 3) := dk_184 0 49 (dk_at dksL_law_10 18 rfl rfl)
theorem dL_law_251 : decode cL_law 251 = .ok (.ifCond .ne 5, 3) := dk_154 0 5 (dk_at dksL_law_10 21 rfl rfl)
theorem dL_law_254 : decode cL_law 254 = .ok (.iconst 0, 1) := dk_3 (dk_at dksL_law_11 0 rfl rfl)
theorem dL_law_255 : decode cL_law 255 = .ok (.ireturn, 1) := dk_172 (dk_at dksL_law_11 1 rfl rfl)
theorem dL_law_256 : decode cL_law 256 = .ok (.iconst 0, 1) := dk_3 (dk_at dksL_law_11 2 rfl rfl)
theorem dL_law_257 : decode cL_law 257 = .ok (.istore 8, 2) := dk_54 8 (dk_at dksL_law_11 3 rfl rfl)
theorem dL_law_259 : decode cL_law 259 = .ok (.iconst 0, 1) := dk_3 (dk_at dksL_law_11 5 rfl rfl)
theorem dL_law_260 : decode cL_law 260 = .ok (.istore 9, 2) := dk_54 9 (dk_at dksL_law_11 6 rfl rfl)
theorem dL_law_262 : decode cL_law 262 = .ok (.iload 9, 2) := dk_21 9 (dk_at dksL_law_11 8 rfl rfl)
theorem dL_law_264 : decode cL_law 264 = .ok (.aload 4, 2) := dk_25 4 (dk_at dksL_law_11 10 rfl rfl)
theorem dL_law_266 : decode cL_law 266 = .ok (.arraylength, 1) := dk_190 (dk_at dksL_law_11 12 rfl rfl)
theorem dL_law_267 : decode cL_law 267 = .ok (.if_icmp .ge 25, 3) := dk_162 0 25 (dk_at dksL_law_11 13 rfl rfl)
theorem dL_law_270 : decode cL_law 270 = .ok (.aload 4, 2) := dk_25 4 (dk_at dksL_law_11 16 rfl rfl)
theorem dL_law_272 : decode cL_law 272 = .ok (.iload 9, 2) := dk_21 9 (dk_at dksL_law_11 18 rfl rfl)
theorem dL_law_274 : decode cL_law 274 = .ok (.iaload, 1) := dk_46 (dk_at dksL_law_11 20 rfl rfl)
theorem dL_law_275 : decode cL_law 275 = .ok (.aload 7, 2) := dk_25 7 (dk_at dksL_law_11 21 rfl rfl)
theorem dL_law_277 : decode cL_law 277 = .ok (.iload 9, 2) := dk_21 9 (dk_at dksL_law_12 0 rfl rfl)
theorem dL_law_279 : decode cL_law 279 = .ok (.iaload, 1) := dk_46 (dk_at dksL_law_12 2 rfl rfl)
theorem dL_law_280 : decode cL_law 280 = .ok (.if_icmp .eq 6, 3) := dk_159 0 6 (dk_at dksL_law_12 3 rfl rfl)
theorem dL_law_283 : decode cL_law 283 = .ok (.iinc 8 1, 3) := dk_132 8 1 (dk_at dksL_law_12 6 rfl rfl)
theorem dL_law_286 : decode cL_law 286 = .ok (.iinc 9 1, 3) := dk_132 9 1 (dk_at dksL_law_12 9 rfl rfl)
theorem dL_law_289 : decode cL_law 289 = .ok (.goto (-27), 3) := dk_167 255 229 (dk_at dksL_law_12 12 rfl rfl)
theorem dL_law_292 : decode cL_law 292 = .ok (.iload 8, 2) := dk_21 8 (dk_at dksL_law_12 15 rfl rfl)
theorem dL_law_294 : decode cL_law 294 = .ok (.ifCond .eq 18, 3) := dk_153 0 18 (dk_at dksL_law_12 17 rfl rfl)
theorem dL_law_297 : decode cL_law 297 = .ok (.iload 8, 2) := dk_21 8 (dk_at dksL_law_12 20 rfl rfl)
theorem dL_law_299 : decode cL_law 299 = .ok (.getstatic 18, 3) := dk_178 0 18 (dk_at dksL_law_13 0 rfl rfl)
theorem dL_law_302 : decode cL_law 302 = .ok (.iload_n 2, 1) := dk_28 (dk_at dksL_law_13 3 rfl rfl)
theorem dL_law_303 : decode cL_law 303 = .ok (.bipush 10, 2) := dk_16 10 (dk_at dksL_law_13 4 rfl rfl)
theorem dL_law_305 : decode cL_law 305 = .ok (.invokestatic 14, 3) := dk_184 0 14 (dk_at dksL_law_13 6 rfl rfl)
theorem dL_law_308 : decode cL_law 308 = .ok (.iaload, 1) := dk_46 (dk_at dksL_law_13 9 rfl rfl)
theorem dL_law_309 : decode cL_law 309 = .ok (.if_icmp .le 7, 3) := dk_164 0 7 (dk_at dksL_law_13 10 rfl rfl)
theorem dL_law_312 : decode cL_law 312 = .ok (.iconst 1, 1) := dk_4 (dk_at dksL_law_13 13 rfl rfl)
theorem dL_law_313 : decode cL_law 313 = .ok (.goto 4, 3) := dk_167 0 4 (dk_at dksL_law_13 14 rfl rfl)
theorem dL_law_316 : decode cL_law 316 = .ok (.iconst 0, 1) := dk_3 (dk_at dksL_law_13 17 rfl rfl)
theorem dL_law_317 : decode cL_law 317 = .ok (.ireturn, 1) := dk_172 (dk_at dksL_law_13 18 rfl rfl)
theorem q35 : (Jvm.Cond.arrayClass Jvm.ClassFile.FieldType.char) ∈ lw_all := lw_g (lw_at lw_m1 34 rfl) rfl
set_option maxRecDepth 100000
theorem q36 : (Jvm.Cond.arrayClass Jvm.ClassFile.FieldType.byte) ∈ lw_all := lw_g (lw_at lw_m1 35 rfl) rfl
theorem q553 : (Jvm.Cond.arrayClass Jvm.ClassFile.FieldType.int) ∈ lw_all := lw_g (lw_at lw_m3 72 rfl) rfl
theorem q573 : (Jvm.Cond.arrayOver (Jvm.ClassFile.FieldType.array Jvm.ClassFile.FieldType.int)) ∈ lw_tbl := lw_at lw_m3 92 rfl
end
section
/-! GLUE: one environment for all methods, contracts in numbers, calls in one row -/
set_option maxRecDepth 100000
def yCS_length : MethodName := ⟨"java/lang/CharSequence", "length", "()I"⟩
def yCS_charAt : MethodName := ⟨"java/lang/CharSequence", "charAt", "(I)C"⟩
-- the words, with what is chosen for StringBuilder among the private methods of its superclass
def zq_sel : List Cond := [.selects RJ9 yJ8_ensureCapacityInternal yJ8_ensureCapacityInternal, .selects RJ9 yJ8_putStringAt yJ8_putStringAt, .selects RJ9 yJ8_inflateIfNeededFor yJ8_inflateIfNeededFor]
def zq_all : List Cond := zq_sel ++ lw_all
theorem zq_in {w : Cond} (h : w ∈ lw_all) : w ∈ zq_all := List.mem_append_right _ h
theorem zq_self : GoodIn zq_all zq_all := by
  intro w h
  rcases List.mem_append.mp h with h1 | h1
  · refine ⟨h, ?_⟩
    simp only [zq_sel, List.mem_cons, List.not_mem_nil, or_false] at h1
    rcases h1 with e | e | e <;> rw [e] <;> exact good_of_word rfl
  · exact ⟨h, (lw_self w h1).2⟩
theorem zq_s0 : Cond.selects RJ9 yJ8_ensureCapacityInternal yJ8_ensureCapacityInternal ∈ zq_all := List.mem_append_left _ (List.mem_of_getElem? (i := 0) rfl)
theorem zq_s1 : Cond.selects RJ9 yJ8_putStringAt yJ8_putStringAt ∈ zq_all := List.mem_append_left _ (List.mem_of_getElem? (i := 1) rfl)
theorem zq_s2 : Cond.selects RJ9 yJ8_inflateIfNeededFor yJ8_inflateIfNeededFor ∈ zq_all := List.mem_append_left _ (List.mem_of_getElem? (i := 2) rfl)
/-- the words of a contract -/
abbrev wz_ (y : MethodName) (b : ByteArray) (L : Nat) (r : Option FieldType) : List Cond := Cond.code y b L r :: zq_all
theorem z_meth {y : MethodName} {b : ByteArray} {L : Nat} {r : Option FieldType} (h : Cond.code y b L r ∈ lw_all) : GoodIn zq_all (wz_ y b L r) := by
  intro w hw
  rcases List.mem_cons.mp hw with e | e
  · rw [e]
    exact zq_self _ (zq_in h)
  · exact zq_self _ e
theorem z_app {a c : List Cond} (ha : ∀ w ∈ a, w ∈ zq_all) (hc : GoodIn zq_all c) : GoodIn zq_all (a ++ c) := by
  intro w hw
  rcases List.mem_append.mp hw with e | e
  · exact zq_self w (ha w e)
  · exact hc w e
theorem z_V {own : String} {idx : Nat} {C : String} {y : MethodName} {b : ByteArray} {L : Nat} {r : Option FieldType} (h1 : Cond.methodLink own idx y ∈ lw_all) (h2 : Cond.instanceMethod y ∈ lw_all) (h3 : Cond.selects C y y ∈ lw_all) (h4 : Cond.initialized C ∈ lw_all) (h5 : Cond.code y b L r ∈ lw_all) : GoodIn zq_all (wsV own idx C y (wz_ y b L r)) := by
  refine z_app ?_ (z_meth h5)
  intro w hw
  simp only [List.mem_cons, List.not_mem_nil, or_false] at hw
  rcases hw with e | e | e | e
  · rw [e]; exact zq_in h1
  · rw [e]; exact zq_in h2
  · rw [e]; exact zq_in h3
  · rw [e]; exact zq_in h4
theorem z_S {own : String} {idx : Nat} {y : MethodName} {b : ByteArray} {L : Nat} {r : Option FieldType} (h1 : Cond.methodLink own idx y ∈ lw_all) (h2 : Cond.static y ∈ lw_all) (h3 : Cond.initialized y.cls ∈ lw_all) (h4 : Cond.code y b L r ∈ lw_all) : GoodIn zq_all (va_wsS own idx y (wz_ y b L r)) := by
  refine z_app ?_ (z_meth h4)
  intro w hw
  simp only [List.mem_cons, List.not_mem_nil, or_false] at hw
  rcases hw with e | e | e
  · rw [e]; exact zq_in h1
  · rw [e]; exact zq_in h2
  · rw [e]; exact zq_in h3
theorem z_U {own : String} {idx : Nat} {C owner : String} {x y : MethodName} {b : ByteArray} {L : Nat} {r : Option FieldType} (h1 : Cond.methodLink own idx x ∈ lw_all) (h2 : Cond.sameMethod x.cls owner x.name x.desc ∈ lw_all) (h3 : Cond.selects C x y ∈ zq_all) (h4 : Cond.instanceMethod y ∈ lw_all) (h5 : Cond.initialized y.cls ∈ lw_all) (h6 : Cond.code y b L r ∈ lw_all) : GoodIn zq_all (va_wsU own idx C owner x y (wz_ y b L r)) := by
  refine z_app ?_ (z_meth h6)
  intro w hw
  simp only [List.mem_cons, List.not_mem_nil, or_false] at hw
  rcases hw with e | e | e | e | e
  · rw [e]; exact zq_in h1
  · rw [e]; exact zq_in h2
  · rw [e]; exact h3
  · rw [e]; exact zq_in h4
  · rw [e]; exact zq_in h5
theorem z_O {own : String} {idx : Nat} {C owner : String} {x y : MethodName} {b : ByteArray} {L : Nat} {r : Option FieldType} (h1 : Cond.methodLink own idx x ∈ lw_all) (h2 : Cond.sameMethod x.cls owner x.name x.desc ∈ lw_all) (h0 : Cond.instanceMethod ⟨owner, x.name, x.desc⟩ ∈ lw_all) (h3 : Cond.selects C x y ∈ lw_all) (h4 : Cond.instanceMethod y ∈ lw_all) (h5 : Cond.initialized y.cls ∈ lw_all) (h6 : Cond.code y b L r ∈ lw_all) : GoodIn zq_all (va_wsO own idx C owner x y (wz_ y b L r)) := by
  refine z_app ?_ (z_meth h6)
  intro w hw
  simp only [List.mem_cons, List.not_mem_nil, or_false] at hw
  rcases hw with e | e | e | e | e | e
  · rw [e]; exact zq_in h1
  · rw [e]; exact zq_in h2
  · rw [e]; exact zq_in h0
  · rw [e]; exact zq_in h3
  · rw [e]; exact zq_in h4
  · rw [e]; exact zq_in h5
theorem z_F {own : String} {idx : Nat} {C : String} {x y : MethodName} {b : ByteArray} {L : Nat} {r : Option FieldType} (h1 : Cond.methodLink own idx x ∈ lw_all) (h3 : Cond.selects C x y ∈ lw_all) (h4 : Cond.instanceMethod y ∈ lw_all) (h5 : Cond.initialized y.cls ∈ lw_all) (h6 : Cond.code y b L r ∈ lw_all) : GoodIn zq_all (va_wsF own idx C x y (wz_ y b L r)) := by
  refine z_app ?_ (z_meth h6)
  intro w hw
  simp only [List.mem_cons, List.not_mem_nil, or_false] at hw
  rcases hw with e | e | e | e
  · rw [e]; exact zq_in h1
  · rw [e]; exact zq_in h3
  · rw [e]; exact zq_in h4
  · rw [e]; exact zq_in h5
theorem z_SU {own : String} {idx : Nat} {y : MethodName} {b : ByteArray} {L : Nat} {r : Option FieldType} (h1 : Cond.methodLink own idx y ∈ lw_all) (h2 : Cond.sameMethod y.cls y.cls y.name y.desc ∈ lw_all) (h3 : Cond.superclass own y.cls ∈ lw_all) (h4 : Cond.instanceMethod y ∈ lw_all) (h5 : Cond.initialized y.cls ∈ lw_all) (h6 : Cond.code y b L r ∈ lw_all) : GoodIn zq_all (va_wsSU own idx y (wz_ y b L r)) := by
  refine z_app ?_ (z_meth h6)
  intro w hw
  simp only [List.mem_cons, List.not_mem_nil, or_false] at hw
  rcases hw with e | e | e | e | e
  · rw [e]; exact zq_in h1
  · rw [e]; exact zq_in h2
  · rw [e]; exact zq_in h3
  · rw [e]; exact zq_in h4
  · rw [e]; exact zq_in h5
-- the classes whose objects the worlds hold, and the array classes
abbrev sqCl : List vw_C := [(RJ0, TJ0, 4), (RJ9, TJ9, 4), (RX2, TX2, 8), (RX1, TX1, 2)]
abbrev sqT (dB dH dN : ClassId) : List (ClassId × FieldType) := [(dB, .byte), (dH, .char), (dN, .int)]
abbrev eB (dB : ClassId) (n : Nat) (t : Nat → Nat) : va_E := .inl (dB, n, .inl (fun j => sb_b (t j)))
abbrev eN (d : ClassId) (n : Nat) (t : Nat → Nat) : va_E := .inl (d, n, .inl (fun j => nI (t j)))
abbrev eS (v : Nat) : va_E := .inr (0, [.ref v, .int 0, .int 0, .int 0])
abbrev eS0 : va_E := .inr (0, [.null, .int 0, .int 0, .int 0])
abbrev eU (v c : Nat) : va_E := .inr (1, [.ref v, .int 0, .int 0, .int (nI c)])
abbrev eI (d e : Nat) : va_E := .inr (2, [.int 0, .int (nI d), .int (nI e), .int 8, .int 8, .int 1, .int (nI d), .int (nI e)])
abbrev eQ (a w : Nat) : va_E := .inr (3, [.ref a, .ref w])
-- the environment
def sq_Z (ro : Option Nat) (ad : Nat → Nat) : List (String × String × String × Value) := [
  ("java/lang/String", "COMPACT_STRINGS", "Z", .int 1),
  ("jdk/internal/util/Preconditions", "SIOOBE_FORMATTER", "Ljava/util/function/BiFunction;", va_rf ro),
  ("SquareParityLaw", "ROOM", "[I", .ref (ad 0)),
  ("SquareParityLaw", "CHECKS", "[I", .ref (ad 1)),
  ("SquareParity", "ROOM", "[I", .ref (ad 2)),
  ("SquareParity", "CHECKS", "[I", .ref (ad 3)),
  ("ErrorCorrection", "FACTOR_SETS", "[I", .ref (ad 4)),
  ("ErrorCorrection", "FACTORS", "[[I", .ref (ad 5)),
  ("ErrorCorrection", "LOG", "[I", .ref (ad 6)),
  ("ErrorCorrection", "ALOG", "[I", .ref (ad 7))]
def sq_tab : List (Nat × List Nat) := [(0, gf_RL), (1, gf_CL), (2, gf_RL), (3, gf_CL), (4, gf_SL), (6, gf_LL), (7, gf_AL)]
abbrev sq_z0 : Nat × List Nat := (0, gf_RL)
abbrev sq_z1 : Nat × List Nat := (1, gf_CL)
abbrev sq_z2 : Nat × List Nat := (2, gf_RL)
abbrev sq_z3 : Nat × List Nat := (3, gf_CL)
abbrev sq_z4 : Nat × List Nat := (4, gf_SL)
abbrev sq_z5 : Nat × List Nat := (6, gf_LL)
abbrev sq_z6 : Nat × List Nat := (7, gf_AL)
def sq_E (ro : Option Nat) (ad : Nat → Nat) (b L : Nat) (xs : Nat → Int32) (A : Nat → Prop) (U : State) (H : Heap) : Prop :=
  ((∀ z ∈ sq_Z ro ad, va_Z z.1 z.2.1 z.2.2.1 z.2.2.2 A U H) ∧ (∀ z ∈ sq_tab, va_T .int (ad z.1) z.2.length (fun j => .int (nI (z.2.getD j 0))) A U H)) ∧
  (va_T (.array .int) (ad 5) 16 (fun j => .ref (ad (16 + j))) A U H ∧ ∀ i, i < 16 → va_T .int (ad (16 + i)) (gf_FL.getD i []).length (fun j => .int (nI (gf_P i j))) A U H) ∧
  va_T .int b L (fun j => .int (xs j)) A U H ∧
  (va_O "java/lang/String" (ad 8) A U H ∧ va_OF "java/lang/String" "coder" "B" (.int 0) (ad 8) A U H ∧ va_OF "java/lang/String" "value" "[B" (.ref (ad 9)) (ad 8) A U H ∧ va_T .byte (ad 9) 0 (fun _ => .int 0) A U H) ∧
  (va_Fw "java/lang/String" yCS_length yJ0_length U ∧ va_Fw "java/lang/String" yCS_charAt yJ0_charAt U ∧ va_Nw (.castable "[B" "java/lang/Cloneable") U ∧ vk_R "SquareParity" 13 "" (ad 8) U)
theorem sq_E.kept {ro : Option Nat} {ad : Nat → Nat} {b L : Nat} {xs : Nat → Int32} {A : Nat → Prop} {U : State} {H H1 : Heap} (h : sq_E ro ad b L xs A U H) (hq : ∀ a : Nat, a < H.size → ¬ A a → H1[a]? = H[a]?) : sq_E ro ad b L xs A U H1 := by
  obtain ⟨⟨h1, h2⟩, ⟨h3, h4⟩, h5, ⟨h6, h7, h8, h9⟩, h10⟩ := h
  exact ⟨⟨fun z hz => (h1 z hz).kept hq, fun z hz => (h2 z hz).kept hq⟩, ⟨h3.kept hq, fun i hi => (h4 i hi).kept hq⟩, h5.kept hq, ⟨h6.kept hq, h7.kept hq, h8.kept hq, h9.kept hq⟩, h10⟩
theorem sq_E.narrow {ro : Option Nat} {ad : Nat → Nat} {b L : Nat} {xs : Nat → Int32} {A B : Nat → Prop} {U : State} {H : Heap} (h : sq_E ro ad b L xs A U H) (hAB : ∀ q, B q → A q) : sq_E ro ad b L xs B U H := by
  obtain ⟨⟨h1, h2⟩, ⟨h3, h4⟩, h5, ⟨h6, h7, h8, h9⟩, h10⟩ := h
  exact ⟨⟨fun z hz => (h1 z hz).narrow hAB, fun z hz => (h2 z hz).narrow hAB⟩, ⟨h3.narrow hAB, fun i hi => (h4 i hi).narrow hAB⟩, h5.narrow hAB, ⟨h6.narrow hAB, h7.narrow hAB, h8.narrow hAB, h9.narrow hAB⟩, h10⟩
theorem sq_E.moved {ro : Option Nat} {ad : Nat → Nat} {b L : Nat} {xs : Nat → Int32} {A : Nat → Prop} {u U : State} {H : Heap} (h : sq_E ro ad b L xs A u H) (hvm : u.vm.Alike U.vm) (h3 : va_Nw (.castable "[B" "java/lang/Cloneable") U) (h4 : vk_R "SquareParity" 13 "" (ad 8) U) : sq_E ro ad b L xs A U H := by
  obtain ⟨⟨h1, h2⟩, ⟨h3', h4'⟩, h5, ⟨h6, h7, h8, h9⟩, ⟨k1, k2, -, -⟩⟩ := h
  exact ⟨⟨fun z hz => (h1 z hz).moved hvm, fun z hz => (h2 z hz).moved hvm⟩, ⟨h3'.moved hvm, fun i hi => (h4' i hi).moved hvm⟩, h5.moved hvm, ⟨h6.moved hvm, h7.moved hvm, h8.moved hvm, h9.moved hvm⟩, ⟨k1.moved ⟨by decide, by decide⟩ hvm, k2.moved ⟨by decide, by decide⟩ hvm, h3, h4⟩⟩
theorem sq_E.warm {ro : Option Nat} {ad : Nat → Nat} {b L : Nat} {xs : Nat → Int32} {A : Nat → Prop} {s U : State} {H : Heap} (h : sq_E ro ad b L xs A s H) (hW : s.WarmedH U.vm) : sq_E ro ad b L xs A U H :=
  h.moved hW.alike (va_Nw.warmC hW h.2.2.2.2.2.2.1) (vk_R.warm hW h.2.2.2.2.2.2.2)
theorem sq_E.same {ro : Option Nat} {ad : Nat → Nat} {b L : Nat} {xs : Nat → Int32} {A : Nat → Prop} {u U : State} {H : Heap} (h : sq_E ro ad b L xs A u H) (hv : U.vm = u.vm) : sq_E ro ad b L xs A U H :=
  h.moved (by rw [hv]; exact Vm.Alike.refl _) (va_Nw.same rfl hv.symm h.2.2.2.2.2.2.1) (vk_R.same hv h.2.2.2.2.2.2.2)
-- contracts
def sq_I (D : va_G) (T : List (ClassId × FieldType)) (ro : Option Nat) (ad : Nat → Nat) (b L : Nat) (xs : Nat → Int32) (sz : Nat) (w : va_W) (U : State) : Prop := U.heap.size = sz ∧ va_P D sqCl w U.heap ∧ va_K D sqCl T U ∧ va_D (fun _ => True) w ∧ sq_E ro ad b L xs (va_A w sz) U U.heap
abbrev sq_Pc (D : va_G) (T : List (ClassId × FieldType)) (ro : Option Nat) (ad : Nat → Nat) (b L : Nat) (xs : Nat → Int32) (as : List Value) (sz : Nat) (w : va_W) : Array Value → State → Prop := va_Pc as (sq_I D T ro ad b L xs sz w)
def sq_B {S : Type} (D : va_G) (A : Nat → Prop) (w1 : S → va_W) (u : S) (t : State) : Prop := va_P D sqCl (w1 u) t.heap ∧ va_D A (w1 u)
def sq_X {S : Type} (D : va_G) (A : Nat → Prop) (v : Nat) (w1 : S → va_W) (u : S) (a : Nat) (t : State) : Prop := a = v ∧ va_P D sqCl (w1 u) t.heap ∧ va_D A (w1 u)
def sq_R {S : Type} (D : va_G) (A : Nat → Prop) (w1 : S → Nat → va_W) (u : S) (a : Nat) (t : State) : Prop := va_P D sqCl (w1 u a) t.heap ∧ va_D A (w1 u a)
theorem sq_met {l : Launch} {y : MethodName} {cc : ByteArray} {maxL : Nat} {ret : Option FieldType} {rm : Room} {mc ms : Nat} {as : List Value} {D : va_G} {T : List (ClassId × FieldType)} {ro : Option Nat} {ad : Nat → Nat} {b L : Nat} {xs : Nat → Int32} {sz : Nat} {w : va_W}
    (QA : (Nat → Prop) → Array Value → State → Outcome → State → Prop) (hy : plainName y.cls = true) (hlen : (lg_sl as).length ≤ maxL)
    (body : ∀ (p : Program) (e : Env) (s : State) (m : MethodId) (below : List Frame) (meth : Method) (c : Code) (A : Nat → Prop), p.tables.exec = Jvm.exec → c.code = cc → meth.sig.returnType = ret → meth.locks = false → c.maxLocals = maxL → s.vm.findClass y.cls = some m.cls → meth.name = y.name → (∀ w ∈ zq_all, w.before as.toArray s = true) →
      va_P D sqCl w s.heap → va_K D sqCl T s → va_D A w → sq_E ro ad b L xs A s s.heap → va_S A s.heap s.heap [] → (∀ q : Nat, s.heap.size ≤ q → A q) → ∀ ls : Array Slot, lv_has ls maxL (lv_args 0 as) →
      W p l e rm s m as.toArray below meth c s.heap [] 0 0 (MQ below (QA A) as.toArray s mc ms A) (F0 m 0 ls [])) :
    Met l y (wz_ y cc maxL ret) rm (sq_Pc D T ro ad b L xs as sz w) (QA (va_A w sz)) mc ms (va_A w sz) := by
  refine Met.ofW (cc := cc) (maxL := maxL) (ret := ret) hy rfl ?_
  intro p e s m args below meth c s₁ B hml hv
  obtain ⟨rfl, hsz, hP, hK, hD0, hE⟩ := hv
  have hts := atoms_spec (ws := wz_ y cc maxL ret) B.pre
  subst hsz
  rw [lg_entry_eq]
  exact body p e s m below meth c (va_A w s.heap.size) B.exec B.bytes B.returns B.notSynchronized hml (findClass_of_methodNamed B.named) (name_of_methodNamed B.named B.method).1 (fun w h => hts w (List.mem_cons_of_mem _ h)) hP hK hD0.self hE va_S.rf (fun q h => Or.inr h) _ (lv_entry as hlen)
theorem sq_pick {ws wc : va_W} {isC : List Nat} (hC : isC.map (fun i => ws[i]?) = wc.map some) {k : Nat} {q : Nat × va_E} (hk : wc[k]? = some q) : ∃ i, isC[k]? = some i ∧ ws[i]? = some q := by
  have h1 : (isC.map (fun i => ws[i]?))[k]? = some (some q) := by rw [hC, List.getElem?_map, hk]; rfl
  rw [List.getElem?_map] at h1
  cases hi : isC[k]? with
  | none => rw [hi] at h1; cases h1
  | some i => rw [hi] at h1; exact ⟨i, rfl, Option.some.inj h1⟩
theorem nx_and (a b : Nat) : nI a &&& nI b = nI (a &&& b) := by
  apply Int32.toBitVec_inj.1
  show BitVec.ofNat 32 a &&& BitVec.ofNat 32 b = BitVec.ofNat 32 (a &&& b)
  apply BitVec.eq_of_getLsbD_eq
  intro i hi
  simp [hi]
theorem nx_xor (a b : Nat) : nI a ^^^ nI b = nI (a ^^^ b) := by
  apply Int32.toBitVec_inj.1
  show BitVec.ofNat 32 a ^^^ BitVec.ofNat 32 b = BitVec.ofNat 32 (a ^^^ b)
  apply BitVec.eq_of_getLsbD_eq
  intro i hi
  simp [hi]
theorem nx_or (a b : Nat) : nI a ||| nI b = nI (a ||| b) := by
  apply Int32.toBitVec_inj.1
  show BitVec.ofNat 32 a ||| BitVec.ofNat 32 b = BitVec.ofNat 32 (a ||| b)
  apply BitVec.eq_of_getLsbD_eq
  intro i hi
  simp [hi]
/-- the first i of t, then 0 -/
def zc (i : Nat) (t : Nat → Nat) : Nat → Nat := fun j => if j < i then t j else 0
theorem zc_up (i : Nat) (t : Nat → Nat) (j : Nat) : va_up (zc i t) i (t i) j = zc (i + 1) t j := by
  unfold va_up zc
  by_cases h : j = i
  · rw [if_pos h, if_pos (by omega), h]
  · rw [if_neg h]
    by_cases h2 : j < i
    · rw [if_pos h2, if_pos (by omega)]
    · rw [if_neg h2, if_neg (by omega)]
theorem zc_all {i n : Nat} {t : Nat → Nat} (h : n ≤ i) (j : Nat) (hj : j < n) : zc i t j = t j := by
  unfold zc
  rw [if_pos (by omega)]
theorem zc_0 (t : Nat → Nat) (j : Nat) : 0 = zc 0 t j := by
  unfold zc
  rw [if_neg (by omega)]
/-- n of t laid into f from p on -/
def zp (p n : Nat) (t f : Nat → Nat) : Nat → Nat := fun j => if p ≤ j ∧ j < p + n then t (j - p) else f j
theorem zp_cpy (p n : Nat) (t f : Nat → Nat) (j : Nat) : va_cpy (fun j => sb_b (t j)) (fun j => sb_b (f j)) 0 p n j = sb_b (zp p n t f j) := by
  unfold va_cpy zp
  by_cases h : p ≤ j ∧ j < p + n
  · rw [if_pos h, if_pos h, Nat.zero_add]
  · rw [if_neg h, if_neg h]
section SQA
variable {p : Program} {l : Launch} {e : Env} {R : Room} {s : State} {m : MethodId} {args : Array Value} {below : List Frame} {meth : Method} {c : Code} {H : Heap} {locs : List Loc} {cells slots : Nat} {Q : State → Prop}
variable {cc : ByteArray} {pc : Nat} {ls : Array Slot} {rest st0 : List Value} {D : va_G} {A : Nat → Prop} {ws wc wr : va_W} {T : List (ClassId × FieldType)} {ro : Option Nat} {ad : Nat → Nat} {b L : Nat} {xs : Nat → Int32} {mc ms : Nat} {a : Array Value}
theorem sq_preS {As : List Value} (hP : va_P D sqCl ws H) (hD : va_D A ws) (hK : va_K D sqCl T s) (hE : sq_E ro ad b L xs A s s.heap) (hS : va_S A s.heap H locs) (hA : ∀ q : Nat, s.heap.size ≤ q → A q) (isC : List Nat) (hC : isC.map (fun i => ws[i]?) = wc.map some) (hn : va_nd isC = true) : PreS s H (sq_Pc D T ro ad b L xs As H.size wc) As := by
  have hF := va_free hD hS hA isC hC
  have hPc : va_P D sqCl wc H := fun k q hk => by
    obtain ⟨i, -, h2⟩ := sq_pick hC hk
    exact hP i q h2
  have hDc := hD.sub isC hn hC
  refine ⟨fun a U g mk q => ?_, fun U hU hW => ?_⟩
  · obtain ⟨q0, q1, qP, qK, qD, qE⟩ := q
    exact ⟨q0, q1, qP, va_K.moved (u := U) (U := U.calling g mk a) (Vm.Alike.refl U.vm) qK, qD, qE.same rfl⟩
  · refine ⟨rfl, by rw [hU], by rw [hU]; exact hPc, va_K.moved hW.alike hK, hDc.weaken (fun _ _ _ _ => trivial), ?_⟩
    rw [hU]
    exact ((hE.kept hS.2.1).narrow hF).warm hW
theorem sq_preV {C : String} {o : Nat} {As : List Value} (hr : ∃ cell : Cell, H[o]? = some cell ∧ cell.vm.isStatics = false ∧ s.vm.findClass C = some cell.cls) (hP : va_P D sqCl ws H) (hD : va_D A ws) (hK : va_K D sqCl T s) (hE : sq_E ro ad b L xs A s s.heap) (hS : va_S A s.heap H locs) (hA : ∀ q : Nat, s.heap.size ≤ q → A q) (isC : List Nat) (hC : isC.map (fun i => ws[i]?) = wc.map some) (hn : va_nd isC = true) : PreV s H C o (sq_Pc D T ro ad b L xs (.ref o :: As) H.size wc) As := by
  obtain ⟨h1, h2⟩ := sq_preS (As := .ref o :: As) hP hD hK hE hS hA isC hC hn
  exact ⟨h1, hr, h2⟩
theorem sq_reti {S : Type} {post : Int32 → S → Prop} {w1 : S → va_W} (hP : va_P D sqCl ws H) (hD : va_D A ws) (hS : va_S A s.heap H locs) (hA : ∀ q : Nat, s.heap.size ≤ q → A q) (isC isR : List Nat) (hC : isC.map (fun i => ws[i]?) = wc.map some) (hR : isR.map (fun i => ws[i]?) = wr.map some) (hn : va_nd isR = true) (hdis : ∀ i ∈ isR, i ∉ isC)
    (hr : va_Run p l e R s m args below meth c H locs cells slots mc ms (F0 m pc ls st0) rest (va_Qi post (sq_B D (va_A wc H.size) w1) (va_A wc H.size) a) (va_A wc H.size))
    (kk : ∀ (r : Int32) (u : S) (H1 : Heap) (locs1 : List Loc), post r u → va_P D sqCl (wr ++ w1 u) H1 → va_D A (wr ++ w1 u) → va_S A s.heap H1 locs1 → W p l e R s m args below meth c H1 locs1 (cells + mc) (slots + ms) Q (F0 m (pc + 3) ls (.int r :: rest))) : W p l e R s m args below meth c H locs cells slots Q (F0 m pc ls st0) := by
  have hF := va_free hD hS hA isC hC
  refine va_calli hr hS (fun q _ h => hF q h) hF (fun r u t H1 locs1 ht hvm hp hB hz hk hS1 => ?_)
  obtain ⟨hP1, hD1⟩ := hB
  rw [ht] at hP1
  obtain ⟨hP2, hD2⟩ := va_join hP hD isC isR hC hR hn hdis hk hF hP1 hD1
  exact kk r u H1 locs1 hp hP2 hD2 hS1
theorem sq_retv {S : Type} {post : S → Prop} {w1 : S → va_W} (hP : va_P D sqCl ws H) (hD : va_D A ws) (hS : va_S A s.heap H locs) (hA : ∀ q : Nat, s.heap.size ≤ q → A q) (isC isR : List Nat) (hC : isC.map (fun i => ws[i]?) = wc.map some) (hR : isR.map (fun i => ws[i]?) = wr.map some) (hn : va_nd isR = true) (hdis : ∀ i ∈ isR, i ∉ isC)
    (hr : va_Run p l e R s m args below meth c H locs cells slots mc ms (F0 m pc ls st0) rest (va_Qv post (sq_B D (va_A wc H.size) w1) (va_A wc H.size) a) (va_A wc H.size))
    (kk : ∀ (u : S) (H1 : Heap) (locs1 : List Loc), post u → va_P D sqCl (wr ++ w1 u) H1 → va_D A (wr ++ w1 u) → va_S A s.heap H1 locs1 → W p l e R s m args below meth c H1 locs1 (cells + mc) (slots + ms) Q (F0 m (pc + 3) ls rest)) : W p l e R s m args below meth c H locs cells slots Q (F0 m pc ls st0) := by
  have hF := va_free hD hS hA isC hC
  refine va_callv hr hS (fun q _ h => hF q h) hF (fun u t H1 locs1 ht hvm hp hB hz hk hS1 => ?_)
  obtain ⟨hP1, hD1⟩ := hB
  rw [ht] at hP1
  obtain ⟨hP2, hD2⟩ := va_join hP hD isC isR hC hR hn hdis hk hF hP1 hD1
  exact kk u H1 locs1 hp hP2 hD2 hS1
theorem sq_retr {S : Type} {post : S → Prop} {w1 : S → Nat → va_W} (hP : va_P D sqCl ws H) (hD : va_D A ws) (hS : va_S A s.heap H locs) (hA : ∀ q : Nat, s.heap.size ≤ q → A q) (isC isR : List Nat) (hC : isC.map (fun i => ws[i]?) = wc.map some) (hR : isR.map (fun i => ws[i]?) = wr.map some) (hn : va_nd isR = true) (hdis : ∀ i ∈ isR, i ∉ isC)
    (hr : va_Run p l e R s m args below meth c H locs cells slots mc ms (F0 m pc ls st0) rest (va_Qr post (sq_R D (va_A wc H.size) w1) (va_A wc H.size) a) (va_A wc H.size))
    (kk : ∀ (u : S) (ra : Nat) (H1 : Heap) (locs1 : List Loc), post u → va_P D sqCl (wr ++ w1 u ra) H1 → va_D A (wr ++ w1 u ra) → va_S A s.heap H1 locs1 → W p l e R s m args below meth c H1 locs1 (cells + mc) (slots + ms) Q (F0 m (pc + 3) ls (.ref ra :: rest))) : W p l e R s m args below meth c H locs cells slots Q (F0 m pc ls st0) := by
  have hF := va_free hD hS hA isC hC
  refine va_callr hr hS (fun q _ h => hF q h) hF (fun u ra t H1 locs1 ht hvm hp hB hz hk hS1 => ?_)
  obtain ⟨hP1, hD1⟩ := hB
  rw [ht] at hP1
  obtain ⟨hP2, hD2⟩ := va_join hP hD isC isR hC hR hn hdis hk hF hP1 hD1
  exact kk u ra H1 locs1 hp hP2 hD2 hS1
theorem sq_rete {S : Type} {post : S → Prop} {v : Nat} {w1 : S → va_W} (hP : va_P D sqCl ws H) (hD : va_D A ws) (hS : va_S A s.heap H locs) (hA : ∀ q : Nat, s.heap.size ≤ q → A q) (isC isR : List Nat) (hC : isC.map (fun i => ws[i]?) = wc.map some) (hR : isR.map (fun i => ws[i]?) = wr.map some) (hn : va_nd isR = true) (hdis : ∀ i ∈ isR, i ∉ isC)
    (hr : va_Run p l e R s m args below meth c H locs cells slots mc ms (F0 m pc ls st0) rest (va_Qr post (sq_X D (va_A wc H.size) v w1) (va_A wc H.size) a) (va_A wc H.size))
    (kk : ∀ (u : S) (H1 : Heap) (locs1 : List Loc), post u → va_P D sqCl (wr ++ w1 u) H1 → va_D A (wr ++ w1 u) → va_S A s.heap H1 locs1 → W p l e R s m args below meth c H1 locs1 (cells + mc) (slots + ms) Q (F0 m (pc + 3) ls (.ref v :: rest))) : W p l e R s m args below meth c H locs cells slots Q (F0 m pc ls st0) := by
  have hF := va_free hD hS hA isC hC
  refine va_callr hr hS (fun q _ h => hF q h) hF (fun u ra t H1 locs1 ht hvm hp hB hz hk hS1 => ?_)
  obtain ⟨rfl, hP1, hD1⟩ := hB
  rw [ht] at hP1
  obtain ⟨hP2, hD2⟩ := va_join hP hD isC isR hC hR hn hdis hk hF hP1 hD1
  exact kk u H1 locs1 hp hP2 hD2 hS1
theorem sq_retq {S : Type} {post : Option Nat → S → Prop} {w1 : S → va_W} (hP : va_P D sqCl ws H) (hD : va_D A ws) (hS : va_S A s.heap H locs) (hA : ∀ q : Nat, s.heap.size ≤ q → A q) (isC isR : List Nat) (hC : isC.map (fun i => ws[i]?) = wc.map some) (hR : isR.map (fun i => ws[i]?) = wr.map some) (hn : va_nd isR = true) (hdis : ∀ i ∈ isR, i ∉ isC)
    (hr : va_Run p l e R s m args below meth c H locs cells slots mc ms (F0 m pc ls st0) rest (va_Qq post (sq_B D (va_A wc H.size) w1) (va_A wc H.size) a) (va_A wc H.size))
    (kk : ∀ (r : Option Nat) (u : S) (H1 : Heap) (locs1 : List Loc), post r u → va_P D sqCl (wr ++ w1 u) H1 → va_D A (wr ++ w1 u) → va_S A s.heap H1 locs1 → W p l e R s m args below meth c H1 locs1 (cells + mc) (slots + ms) Q (F0 m (pc + 3) ls (va_rf r :: rest))) : W p l e R s m args below meth c H locs cells slots Q (F0 m pc ls st0) := by
  have hF := va_free hD hS hA isC hC
  refine va_callq hr hS (fun q _ h => hF q h) hF (fun r u t H1 locs1 ht hvm hp hB hz hk hS1 => ?_)
  obtain ⟨hP1, hD1⟩ := hB
  rw [ht] at hP1
  obtain ⟨hP2, hD2⟩ := va_join hP hD isC isR hC hR hn hdis hk hF hP1 hD1
  exact kk r u H1 locs1 hp hP2 hD2 hS1
theorem sq_retFi {S : Type} {post : Int32 → S → Prop} {w1 : S → va_W} (hP : va_P D sqCl ws H) (hD : va_D A ws) (hS : va_S A s.heap H locs) (hA : ∀ q : Nat, s.heap.size ≤ q → A q) (isC isR : List Nat) (hC : isC.map (fun i => ws[i]?) = wc.map some) (hR : isR.map (fun i => ws[i]?) = wr.map some) (hn : va_nd isR = true) (hdis : ∀ i ∈ isR, i ∉ isC)
    (hr : va_Run5 p l e R s m args below meth c H locs cells slots mc ms (F0 m pc ls st0) rest (va_Qi post (sq_B D (va_A wc H.size) w1) (va_A wc H.size) a) (va_A wc H.size))
    (kk : ∀ (r : Int32) (u : S) (H1 : Heap) (locs1 : List Loc), post r u → va_P D sqCl (wr ++ w1 u) H1 → va_D A (wr ++ w1 u) → va_S A s.heap H1 locs1 → W p l e R s m args below meth c H1 locs1 (cells + mc) (slots + ms) Q (F0 m (pc + 5) ls (.int r :: rest))) : W p l e R s m args below meth c H locs cells slots Q (F0 m pc ls st0) := by
  have hF := va_free hD hS hA isC hC
  refine va_callFi hr hS (fun q _ h => hF q h) hF (fun r u t H1 locs1 ht hvm hp hB hz hk hS1 => ?_)
  obtain ⟨hP1, hD1⟩ := hB
  rw [ht] at hP1
  obtain ⟨hP2, hD2⟩ := va_join hP hD isC isR hC hR hn hdis hk hF hP1 hD1
  exact kk r u H1 locs1 hp hP2 hD2 hS1
-- ends
theorem sq_iret {S : Type} {post : Int32 → S → Prop} {w1 : S → va_W} {v : Int32} {ty : FieldType} (u : S) (hx : p.tables.exec = Jvm.exec) (hb : c.code = cc) (hr : meth.sig.returnType = some ty) (hlocks : meth.locks = false) (hn : narrow ty (.int v) = .int v) (hp : post v u) (hP : va_P D sqCl (w1 u) H) (hD : va_D A (w1 u)) (hS : va_S A s.heap H locs) (hdg : decode cc pc = .ok (.ireturn, 1)) :
    W p l e R s m args below meth c H locs cells slots (MQ below (va_Qi post (sq_B D A w1) A) args s cells slots A) (F0 m pc ls [.int v]) :=
  W.zret (v := v) hx hb hr hn (fun t ht _ => ⟨⟨v, u, rfl, hp, by rw [ht]; exact hP, hD⟩, hS.F ht⟩) hS.2.2 hdg hlocks
theorem sq_vret {S : Type} {post : S → Prop} {w1 : S → va_W} (u : S) (hx : p.tables.exec = Jvm.exec) (hb : c.code = cc) (hr : meth.sig.returnType = none) (hlocks : meth.locks = false) (hp : post u) (hP : va_P D sqCl (w1 u) H) (hD : va_D A (w1 u)) (hS : va_S A s.heap H locs) (hdg : decode cc pc = .ok (.return_, 1)) :
    W p l e R s m args below meth c H locs cells slots (MQ below (va_Qv post (sq_B D A w1) A) args s cells slots A) (F0 m pc ls []) :=
  W.vret hx hb hr (fun t ht _ => ⟨⟨u, rfl, hp, by rw [ht]; exact hP, hD⟩, hS.F ht⟩) hS.2.2 hdg hlocks
theorem sq_aret {S : Type} {post : S → Prop} {w1 : S → Nat → va_W} {q : Nat} {rt : FieldType} (u : S) (hx : p.tables.exec = Jvm.exec) (hb : c.code = cc) (hr : meth.sig.returnType = some rt) (hlocks : meth.locks = false) (hrt : (∃ n, rt = .object n) ∨ ∃ t, rt = .array t) (hp : post u) (hP : va_P D sqCl (w1 u q) H) (hD : va_D A (w1 u q)) (hS : va_S A s.heap H locs) (hdg : decode cc pc = .ok (.areturn, 1)) :
    W p l e R s m args below meth c H locs cells slots (MQ below (va_Qr post (sq_R D A w1) A) args s cells slots A) (F0 m pc ls [.ref q]) :=
  W.aret (v := .ref q) hx hb hr hrt (Or.inr ⟨q, rfl⟩) (fun t ht _ => ⟨⟨u, q, rfl, hp, by rw [ht]; exact hP, hD⟩, hS.F ht⟩) hS.2.2 hdg hlocks
theorem sq_eret {S : Type} {post : S → Prop} {w1 : S → va_W} {q : Nat} {rt : FieldType} (u : S) (hx : p.tables.exec = Jvm.exec) (hb : c.code = cc) (hr : meth.sig.returnType = some rt) (hlocks : meth.locks = false) (hrt : (∃ n, rt = .object n) ∨ ∃ t, rt = .array t) (hp : post u) (hP : va_P D sqCl (w1 u) H) (hD : va_D A (w1 u)) (hS : va_S A s.heap H locs) (hdg : decode cc pc = .ok (.areturn, 1)) :
    W p l e R s m args below meth c H locs cells slots (MQ below (va_Qr post (sq_X D A q w1) A) args s cells slots A) (F0 m pc ls [.ref q]) :=
  W.aret (v := .ref q) hx hb hr hrt (Or.inr ⟨q, rfl⟩) (fun t ht _ => ⟨⟨u, q, rfl, hp, rfl, by rw [ht]; exact hP, hD⟩, hS.F ht⟩) hS.2.2 hdg hlocks
theorem sq_nret {S : Type} {post : Option Nat → S → Prop} {w1 : S → va_W} {rt : FieldType} (u : S) (hx : p.tables.exec = Jvm.exec) (hb : c.code = cc) (hr : meth.sig.returnType = some rt) (hlocks : meth.locks = false) (hrt : (∃ n, rt = .object n) ∨ ∃ t, rt = .array t) (hp : post none u) (hP : va_P D sqCl (w1 u) H) (hD : va_D A (w1 u)) (hS : va_S A s.heap H locs) (hdg : decode cc pc = .ok (.areturn, 1)) :
    W p l e R s m args below meth c H locs cells slots (MQ below (va_Qq post (sq_B D A w1) A) args s cells slots A) (F0 m pc ls [.null]) :=
  W.aret (v := .null) hx hb hr hrt (Or.inl rfl) (fun t ht _ => ⟨⟨none, u, rfl, hp, by rw [ht]; exact hP, hD⟩, hS.F ht⟩) hS.2.2 hdg hlocks
-- numbers
theorem sq_top {x y : Int32} (h : x = y) (k : W p l e R s m args below meth c H locs cells slots Q (F0 m pc ls (.int y :: rest))) : W p l e R s m args below meth c H locs cells slots Q (F0 m pc ls (.int x :: rest)) := by rw [h]; exact k
theorem sq_ge (hx : p.tables.exec = Jvm.exec) (hb : c.code = cc) {x y : Nat} {off : Int} {tgt : Nat} (hdg : decode cc pc = .ok (.if_icmp .ge off, 3)) (ht : (pc : Int) + off = (tgt : Int)) (h1 : x < 2 ^ 31) (h2 : y < 2 ^ 31)
    (kt : y ≤ x → W p l e R s m args below meth c H locs cells slots Q (F0 m tgt ls rest)) (kf : x < y → W p l e R s m args below meth c H locs cells slots Q (F0 m (pc + 3) ls rest)) : W p l e R s m args below meth c H locs cells slots Q (F0 m pc ls (.int (nI y) :: .int (nI x) :: rest)) :=
  lv_icmp_ge hx hb hdg ht (fun h => kt ((nI_leI h2 h1).mp h)) (fun h => kf (Nat.not_le.mp fun q => h ((nI_leI h2 h1).mpr q)))
theorem sq_gt (hx : p.tables.exec = Jvm.exec) (hb : c.code = cc) {x y : Nat} {off : Int} {tgt : Nat} (hdg : decode cc pc = .ok (.if_icmp .gt off, 3)) (ht : (pc : Int) + off = (tgt : Int)) (h1 : x < 2 ^ 31) (h2 : y < 2 ^ 31)
    (kt : y < x → W p l e R s m args below meth c H locs cells slots Q (F0 m tgt ls rest)) (kf : x ≤ y → W p l e R s m args below meth c H locs cells slots Q (F0 m (pc + 3) ls rest)) : W p l e R s m args below meth c H locs cells slots Q (F0 m pc ls (.int (nI y) :: .int (nI x) :: rest)) :=
  lv_icmp_gt hx hb hdg ht (fun h => kt ((nI_ltI h2 h1).mp h)) (fun h => kf (Nat.not_lt.mp fun q => h ((nI_ltI h2 h1).mpr q)))
theorem sq_le (hx : p.tables.exec = Jvm.exec) (hb : c.code = cc) {x y : Nat} {off : Int} {tgt : Nat} (hdg : decode cc pc = .ok (.if_icmp .le off, 3)) (ht : (pc : Int) + off = (tgt : Int)) (h1 : x < 2 ^ 31) (h2 : y < 2 ^ 31)
    (kt : x ≤ y → W p l e R s m args below meth c H locs cells slots Q (F0 m tgt ls rest)) (kf : y < x → W p l e R s m args below meth c H locs cells slots Q (F0 m (pc + 3) ls rest)) : W p l e R s m args below meth c H locs cells slots Q (F0 m pc ls (.int (nI y) :: .int (nI x) :: rest)) :=
  lv_icmp_le hx hb hdg ht (fun h => kt ((nI_leI h1 h2).mp h)) (fun h => kf (Nat.not_le.mp fun q => h ((nI_leI h1 h2).mpr q)))
theorem sq_lt (hx : p.tables.exec = Jvm.exec) (hb : c.code = cc) {x y : Nat} {off : Int} {tgt : Nat} (hdg : decode cc pc = .ok (.if_icmp .lt off, 3)) (ht : (pc : Int) + off = (tgt : Int)) (h1 : x < 2 ^ 31) (h2 : y < 2 ^ 31)
    (kt : x < y → W p l e R s m args below meth c H locs cells slots Q (F0 m tgt ls rest)) (kf : y ≤ x → W p l e R s m args below meth c H locs cells slots Q (F0 m (pc + 3) ls rest)) : W p l e R s m args below meth c H locs cells slots Q (F0 m pc ls (.int (nI y) :: .int (nI x) :: rest)) :=
  lv_icmp_lt hx hb hdg ht (fun h => kt ((nI_ltI h1 h2).mp h)) (fun h => kf (Nat.not_lt.mp fun q => h ((nI_ltI h1 h2).mpr q)))
theorem sq_eq (hx : p.tables.exec = Jvm.exec) (hb : c.code = cc) {x y : Nat} {off : Int} {tgt : Nat} (hdg : decode cc pc = .ok (.if_icmp .eq off, 3)) (ht : (pc : Int) + off = (tgt : Int)) (h1 : x < 2 ^ 31) (h2 : y < 2 ^ 31)
    (kt : x = y → W p l e R s m args below meth c H locs cells slots Q (F0 m tgt ls rest)) (kf : x ≠ y → W p l e R s m args below meth c H locs cells slots Q (F0 m (pc + 3) ls rest)) : W p l e R s m args below meth c H locs cells slots Q (F0 m pc ls (.int (nI y) :: .int (nI x) :: rest)) :=
  lv_icmp_eq hx hb hdg ht (fun h => kt ((nI_eq h1 h2).mp h)) (fun h => kf (fun q => h (by rw [q])))
theorem sq_ne (hx : p.tables.exec = Jvm.exec) (hb : c.code = cc) {x y : Nat} {off : Int} {tgt : Nat} (hdg : decode cc pc = .ok (.if_icmp .ne off, 3)) (ht : (pc : Int) + off = (tgt : Int)) (h1 : x < 2 ^ 31) (h2 : y < 2 ^ 31)
    (kt : x ≠ y → W p l e R s m args below meth c H locs cells slots Q (F0 m tgt ls rest)) (kf : x = y → W p l e R s m args below meth c H locs cells slots Q (F0 m (pc + 3) ls rest)) : W p l e R s m args below meth c H locs cells slots Q (F0 m pc ls (.int (nI y) :: .int (nI x) :: rest)) :=
  lv_icmp_ne hx hb hdg ht (fun h => kt (fun q => h (by rw [q]))) (fun h => kf ((nI_eq h1 h2).mp h))
theorem sq_if_eq (hx : p.tables.exec = Jvm.exec) (hb : c.code = cc) {x : Nat} {off : Int} {tgt : Nat} (hdg : decode cc pc = .ok (.ifCond .eq off, 3)) (ht : (pc : Int) + off = (tgt : Int)) (h1 : x < 2 ^ 31)
    (kt : x = 0 → W p l e R s m args below meth c H locs cells slots Q (F0 m tgt ls rest)) (kf : x ≠ 0 → W p l e R s m args below meth c H locs cells slots Q (F0 m (pc + 3) ls rest)) : W p l e R s m args below meth c H locs cells slots Q (F0 m pc ls (.int (nI x) :: rest)) :=
  lv_if_eq hx hb hdg ht (fun h => kt ((nI_eq h1 (by decide)).mp (h.trans nI_0.symm))) (fun h => kf (fun q => h (by rw [q]; exact nI_0)))
theorem sq_if_ne (hx : p.tables.exec = Jvm.exec) (hb : c.code = cc) {x : Nat} {off : Int} {tgt : Nat} (hdg : decode cc pc = .ok (.ifCond .ne off, 3)) (ht : (pc : Int) + off = (tgt : Int)) (h1 : x < 2 ^ 31)
    (kt : x ≠ 0 → W p l e R s m args below meth c H locs cells slots Q (F0 m tgt ls rest)) (kf : x = 0 → W p l e R s m args below meth c H locs cells slots Q (F0 m (pc + 3) ls rest)) : W p l e R s m args below meth c H locs cells slots Q (F0 m pc ls (.int (nI x) :: rest)) :=
  lv_if_ne hx hb hdg ht (fun h => kt (fun q => h (by rw [q]; exact nI_0))) (fun h => kf ((nI_eq h1 (by decide)).mp (h.trans nI_0.symm)))
theorem sq_if_lt (hx : p.tables.exec = Jvm.exec) (hb : c.code = cc) {x : Nat} {off : Int} {tgt : Nat} (hdg : decode cc pc = .ok (.ifCond .lt off, 3)) (ht : (pc : Int) + off = (tgt : Int)) (h1 : x < 2 ^ 31)
    (kf : W p l e R s m args below meth c H locs cells slots Q (F0 m (pc + 3) ls rest)) : W p l e R s m args below meth c H locs cells slots Q (F0 m pc ls (.int (nI x) :: rest)) :=
  lv_if_lt hx hb hdg ht (fun h => absurd h (nI_pos h1)) (fun _ => kf)
theorem sq_if_ge (hx : p.tables.exec = Jvm.exec) (hb : c.code = cc) {x : Nat} {off : Int} {tgt : Nat} (hdg : decode cc pc = .ok (.ifCond .ge off, 3)) (ht : (pc : Int) + off = (tgt : Int)) (h1 : x < 2 ^ 31)
    (kt : W p l e R s m args below meth c H locs cells slots Q (F0 m tgt ls rest)) : W p l e R s m args below meth c H locs cells slots Q (F0 m pc ls (.int (nI x) :: rest)) :=
  lv_if_ge hx hb hdg ht (fun _ => kt) (fun h => absurd (nI_pos' h1) h)
theorem sq_if_le (hx : p.tables.exec = Jvm.exec) (hb : c.code = cc) {x : Nat} {off : Int} {tgt : Nat} (hdg : decode cc pc = .ok (.ifCond .le off, 3)) (ht : (pc : Int) + off = (tgt : Int)) (h1 : x < 2 ^ 31)
    (kt : x = 0 → W p l e R s m args below meth c H locs cells slots Q (F0 m tgt ls rest)) (kf : x ≠ 0 → W p l e R s m args below meth c H locs cells slots Q (F0 m (pc + 3) ls rest)) : W p l e R s m args below meth c H locs cells slots Q (F0 m pc ls (.int (nI x) :: rest)) := by
  refine lv_if_le hx hb hdg ht (fun h => kt ?_) (fun h => kf (fun q => h ?_))
  · exact Nat.eq_zero_of_not_pos (fun q => nI_nle q h1 h)
  · rw [q]; decide
theorem sq_x16 {n : Nat} (h : n < 65536) : vp_nar .char (nI n) = nI n := by
  have h1 := (pk_charN h).1
  unfold vp_nar
  rw [h1]
theorem sq_c16 {n : Nat} (h : n < 65536) : ((nI n).toUInt32 % 65536).toInt32 = nI n := by
  rw [pk_char, pk_tn (by omega), Nat.mod_eq_of_lt h]
theorem sq_upN {t : Nat → Nat} {i x : Nat} (hi : i < 2 ^ 31) : upd (fun j => nI (t j)) (nI i).toNatClampNeg (nI x) = fun j => nI (va_up t i x j) := by
  rw [nI_clamp hi]
  funext j
  unfold upd va_up
  split <;> rfl
theorem sq_upB {t : Nat → Nat} {i x : Nat} (hi : i < 2 ^ 31) : upd (fun j => sb_b (t j)) (nI i).toNatClampNeg (vp_nar .byte (sb_b x)) = fun j => sb_b (va_up t i x j) := by
  rw [nI_clamp hi, show vp_nar .byte (sb_b x) = sb_b x from pk_vb _]
  funext j
  unfold upd va_up
  split <;> rfl
theorem sq_i2b {x : Nat} (hx : p.tables.exec = Jvm.exec) (hb : c.code = cc) (hdg : decode cc pc = .ok (.i2b, 1)) (k : W p l e R s m args below meth c H locs cells slots Q (F0 m (pc + 1) ls (.int (sb_b x) :: rest))) : W p l e R s m args below meth c H locs cells slots Q (F0 m pc ls (.int (nI x) :: rest)) := lv_i2b hx hb hdg rfl k
theorem sq_i2c {x : Nat} (hx : p.tables.exec = Jvm.exec) (hb : c.code = cc) (hdg : decode cc pc = .ok (.i2c, 1)) (h : x < 65536) (k : W p l e R s m args below meth c H locs cells slots Q (F0 m (pc + 1) ls (.int (nI x) :: rest))) : W p l e R s m args below meth c H locs cells slots Q (F0 m pc ls (.int (nI x) :: rest)) := lv_i2c hx hb hdg (sq_c16 h) k
theorem sq_irem {x y : Nat} (hx : p.tables.exec = Jvm.exec) (hb : c.code = cc) (hdg : decode cc pc = .ok (.irem, 1)) (h1 : x < 2 ^ 31) (h2 : 0 < y) (h3 : y < 2 ^ 31) (k : W p l e R s m args below meth c H locs cells slots Q (F0 m (pc + 1) ls (.int (nI (x % y)) :: rest))) : W p l e R s m args below meth c H locs cells slots Q (F0 m pc ls (.int (nI y) :: .int (nI x) :: rest)) :=
  lv_irem hx hb hdg (nI_ne0 h2 h3) (sq_top (pk_rem h1 h2 h3) k)
theorem sq_ixor {x y : Nat} (hx : p.tables.exec = Jvm.exec) (hb : c.code = cc) (hdg : decode cc pc = .ok (.ixor, 1)) (k : W p l e R s m args below meth c H locs cells slots Q (F0 m (pc + 1) ls (.int (nI (x ^^^ y)) :: rest))) : W p l e R s m args below meth c H locs cells slots Q (F0 m pc ls (.int (nI y) :: .int (nI x) :: rest)) :=
  lv_ixor hx hb hdg (sq_top (nx_xor x y) k)
theorem sq_iadd {x y : Nat} (hx : p.tables.exec = Jvm.exec) (hb : c.code = cc) (hdg : decode cc pc = .ok (.iadd, 1)) (k : W p l e R s m args below meth c H locs cells slots Q (F0 m (pc + 1) ls (.int (nI (x + y)) :: rest))) : W p l e R s m args below meth c H locs cells slots Q (F0 m pc ls (.int (nI y) :: .int (nI x) :: rest)) :=
  lv_iadd hx hb hdg (sq_top (nI_add x y) k)
theorem sq_isub {x y : Nat} (hx : p.tables.exec = Jvm.exec) (hb : c.code = cc) (hdg : decode cc pc = .ok (.isub, 1)) (h : y ≤ x) (k : W p l e R s m args below meth c H locs cells slots Q (F0 m (pc + 1) ls (.int (nI (x - y)) :: rest))) : W p l e R s m args below meth c H locs cells slots Q (F0 m pc ls (.int (nI y) :: .int (nI x) :: rest)) :=
  lv_isub hx hb hdg (sq_top (pk_sub h) k)
theorem sq_sh0 {x : Nat} (hx : p.tables.exec = Jvm.exec) (hb : c.code = cc) (hdg : decode cc pc = .ok (.ishr, 1)) (k : W p l e R s m args below meth c H locs cells slots Q (F0 m (pc + 1) ls (.int (nI x) :: rest))) : W p l e R s m args below meth c H locs cells slots Q (F0 m pc ls (.int 0 :: .int (nI x) :: rest)) :=
  lv_ishr hx hb hdg (sq_top (sb_shr0 _) k)
theorem sq_ior {x y : Nat} (hx : p.tables.exec = Jvm.exec) (hb : c.code = cc) (hdg : decode cc pc = .ok (.ior, 1)) (k : W p l e R s m args below meth c H locs cells slots Q (F0 m (pc + 1) ls (.int (nI (x ||| y)) :: rest))) : W p l e R s m args below meth c H locs cells slots Q (F0 m pc ls (.int (nI y) :: .int (nI x) :: rest)) :=
  lv_ior hx hb hdg (sq_top (nx_or x y) k)
/-- a loop: n rounds from its head, by an invariant -/
theorem sq_loop {hd : Nat} (I : Nat → Heap → List Loc → Array Slot → Prop) (n : Nat) (step : ∀ (i : Nat) (H : Heap) (locs : List Loc) (ls : Array Slot), i ≤ n → I i H locs ls → (∀ (H1 : Heap) (locs1 : List Loc) (ls1 : Array Slot), i < n → I (i + 1) H1 locs1 ls1 → W p l e R s m args below meth c H1 locs1 cells slots Q (F0 m hd ls1 [])) → W p l e R s m args below meth c H locs cells slots Q (F0 m hd ls [])) :
    ∀ (i : Nat) (H : Heap) (locs : List Loc) (ls : Array Slot), i ≤ n → I i H locs ls → W p l e R s m args below meth c H locs cells slots Q (F0 m hd ls []) := by
  have key : ∀ (k i : Nat) (H : Heap) (locs : List Loc) (ls : Array Slot), n - i ≤ k → i ≤ n → I i H locs ls → W p l e R s m args below meth c H locs cells slots Q (F0 m hd ls []) := by
    intro k
    induction k with
    | zero =>
      intro i H locs ls h1 h2 hI
      exact step i H locs ls h2 hI (fun _ _ _ h _ => absurd h (by omega))
    | succ k ih =>
      intro i H locs ls h1 h2 hI
      exact step i H locs ls h2 hI (fun H1 locs1 ls1 h hI1 => ih (i + 1) H1 locs1 ls1 (by omega) (by omega) hI1)
  exact fun i H locs ls h hI => key (n - i) i H locs ls (Nat.le_refl _) h hI
-- arrays of the worlds, in numbers
theorem sq_cald {dB dH dN : ClassId} {o n i : Nat} {t : Nat → Nat} (hx : p.tables.exec = Jvm.exec) (hb : c.code = cc) (hK : va_K D sqCl (sqT dB dH dN) s) (hP : va_P D sqCl ws H) (q0 : Nat) (ha : ws[q0]? = some (o, eN dH n t)) (hi : i < n) (hn : n < 2 ^ 31) (hdg : decode cc pc = .ok (.caload, 1))
    (kk : W p l e R s m args below meth c H locs cells slots Q (F0 m (pc + 1) ls (.int (nI (t i)) :: rest))) : W p l e R s m args below meth c H locs cells slots Q (F0 m pc ls (.int (nI i) :: .ref o :: rest)) := by
  refine va_cald hx hb hK hP q0 1 ha rfl (vp_in_nI hi hn) hdg ?_
  rw [nI_clamp (by omega)]
  exact kk
theorem sq_iald {dB dH dN : ClassId} {o n i : Nat} {t : Nat → Nat} (hx : p.tables.exec = Jvm.exec) (hb : c.code = cc) (hK : va_K D sqCl (sqT dB dH dN) s) (hP : va_P D sqCl ws H) (q0 : Nat) (ha : ws[q0]? = some (o, eN dN n t)) (hi : i < n) (hn : n < 2 ^ 31) (hdg : decode cc pc = .ok (.iaload, 1))
    (kk : W p l e R s m args below meth c H locs cells slots Q (F0 m (pc + 1) ls (.int (nI (t i)) :: rest))) : W p l e R s m args below meth c H locs cells slots Q (F0 m pc ls (.int (nI i) :: .ref o :: rest)) := by
  refine va_iald hx hb hK hP q0 2 ha rfl (vp_in_nI hi hn) hdg ?_
  rw [nI_clamp (by omega)]
  exact kk
theorem sq_bald {dB dH dN : ClassId} {o n i : Nat} {t : Nat → Nat} (hx : p.tables.exec = Jvm.exec) (hb : c.code = cc) (hK : va_K D sqCl (sqT dB dH dN) s) (hP : va_P D sqCl ws H) (q0 : Nat) (ha : ws[q0]? = some (o, eB dB n t)) (hi : i < n) (hn : n < 2 ^ 31) (hdg : decode cc pc = .ok (.baload, 1))
    (kk : W p l e R s m args below meth c H locs cells slots Q (F0 m (pc + 1) ls (.int (sb_b (t i)) :: rest))) : W p l e R s m args below meth c H locs cells slots Q (F0 m pc ls (.int (nI i) :: .ref o :: rest)) := by
  refine va_bald hx hb hK hP q0 0 ha rfl (vp_in_nI hi hn) hdg ?_
  rw [nI_clamp (by omega)]
  exact kk
theorem sq_cast {dB dH dN : ClassId} {H0 : Heap} {o n i x : Nat} {t : Nat → Nat} (hx : p.tables.exec = Jvm.exec) (hb : c.code = cc) (hK : va_K D sqCl (sqT dB dH dN) s) (hP : va_P D sqCl ws H) (hD : va_D A ws) (hS : va_S A H0 H locs) (q0 : Nat) (ha : ws[q0]? = some (o, eN dH n t)) (hi : i < n) (hn : n < 2 ^ 31) (hc : x < 65536) (hdg : decode cc pc = .ok (.castore, 1))
    (kk : ∀ (H1 : Heap) (locs1 : List Loc), va_P D sqCl (ws.set q0 (o, eN dH n (va_up t i x))) H1 → va_D A (ws.set q0 (o, eN dH n (va_up t i x))) → va_S A H0 H1 locs1 → W p l e R s m args below meth c H1 locs1 cells slots Q (F0 m (pc + 1) ls rest)) : W p l e R s m args below meth c H locs cells slots Q (F0 m pc ls (.int (nI x) :: .int (nI i) :: .ref o :: rest)) := by
  refine va_cast hx hb hK hP hD hS q0 1 ha rfl (vp_in_nI hi hn) hdg (fun H1 locs1 h1 h2 h3 => ?_)
  rw [sq_x16 hc, sq_upN (by omega)] at h1 h2
  exact kk H1 locs1 h1 h2 h3
theorem sq_iast {dB dH dN : ClassId} {H0 : Heap} {o n i x : Nat} {t : Nat → Nat} (hx : p.tables.exec = Jvm.exec) (hb : c.code = cc) (hK : va_K D sqCl (sqT dB dH dN) s) (hP : va_P D sqCl ws H) (hD : va_D A ws) (hS : va_S A H0 H locs) (q0 : Nat) (ha : ws[q0]? = some (o, eN dN n t)) (hi : i < n) (hn : n < 2 ^ 31) (hdg : decode cc pc = .ok (.iastore, 1))
    (kk : ∀ (H1 : Heap) (locs1 : List Loc), va_P D sqCl (ws.set q0 (o, eN dN n (va_up t i x))) H1 → va_D A (ws.set q0 (o, eN dN n (va_up t i x))) → va_S A H0 H1 locs1 → W p l e R s m args below meth c H1 locs1 cells slots Q (F0 m (pc + 1) ls rest)) : W p l e R s m args below meth c H locs cells slots Q (F0 m pc ls (.int (nI x) :: .int (nI i) :: .ref o :: rest)) := by
  refine va_iast hx hb hK hP hD hS q0 2 ha rfl (vp_in_nI hi hn) hdg (fun H1 locs1 h1 h2 h3 => ?_)
  rw [sq_upN (by omega)] at h1 h2
  exact kk H1 locs1 h1 h2 h3
theorem sq_bast {dB dH dN : ClassId} {H0 : Heap} {o n i x : Nat} {t : Nat → Nat} (hx : p.tables.exec = Jvm.exec) (hb : c.code = cc) (hK : va_K D sqCl (sqT dB dH dN) s) (hP : va_P D sqCl ws H) (hD : va_D A ws) (hS : va_S A H0 H locs) (q0 : Nat) (ha : ws[q0]? = some (o, eB dB n t)) (hi : i < n) (hn : n < 2 ^ 31) (hdg : decode cc pc = .ok (.bastore, 1))
    (kk : ∀ (H1 : Heap) (locs1 : List Loc), va_P D sqCl (ws.set q0 (o, eB dB n (va_up t i x))) H1 → va_D A (ws.set q0 (o, eB dB n (va_up t i x))) → va_S A H0 H1 locs1 → W p l e R s m args below meth c H1 locs1 cells slots Q (F0 m (pc + 1) ls rest)) : W p l e R s m args below meth c H locs cells slots Q (F0 m pc ls (.int (sb_b x) :: .int (nI i) :: .ref o :: rest)) := by
  refine va_bast hx hb hK hP hD hS q0 0 ha rfl (vp_in_nI hi hn) hdg (fun H1 locs1 h1 h2 h3 => ?_)
  rw [sq_upB (by omega)] at h1 h2
  exact kk H1 locs1 h1 h2 h3
theorem sq_arrEq {cA : ClassId} {n : Nat} {f g : Nat → Value} (h : ∀ j, j < n → f j = g j) : arrV cA n f = arrV cA n g := by
  have e : (fun j : Fin n => f j.val) = fun j : Fin n => g j.val := funext fun j => h j.val j.isLt
  unfold arrV
  rw [e]
/-- a cell's contents, said otherwise -/
theorem sq_cg {d : ClassId} {o n : Nat} {f g : Nat → Int32} (hP : va_P D sqCl ws H) (hD : va_D A ws) (q0 : Nat) (ha : ws[q0]? = some (o, .inl (d, n, .inl f))) (h : ∀ j, j < n → f j = g j) : va_P D sqCl (ws.set q0 (o, .inl (d, n, .inl g))) H ∧ va_D A (ws.set q0 (o, .inl (d, n, .inl g))) := by
  refine ⟨?_, va_D.set hD ha⟩
  refine va_P.set hP hD ha ?_ (fun q _ => rfl)
  have h1 : H[o]? = some (vp_cell d (n, .inl f)) := hP q0 _ ha
  show H[o]? = some (vp_cell d (n, .inl g))
  rw [h1]
  congr 1
  show arrV d n (fun j => Value.int (f j)) = arrV d n (fun j => Value.int (g j))
  exact sq_arrEq (fun j hj => by rw [h j hj])
theorem sq_cls {dB dH dN : ClassId} {cA : ClassId} {ty : FieldType} (hK : va_K D sqCl (sqT dB dH dN) s) (hK1 : va_K D sqCl (sqT dB dH dN ++ [(cA, ty)]) s) (t0 : Nat) {d : ClassId} (ht : (sqT dB dH dN)[t0]? = some (d, ty)) (hty : ty = .byte ∨ ty = .char ∨ ty = .int) : cA = d := by
  have h1 := (hK1.2 3 (cA, ty) rfl).2
  have h2 := (hK.2 t0 (d, ty) ht).2
  rcases hty with rfl | rfl | rfl <;> exact Option.some.inj (h1.symm.trans h2)
theorem sq_newH {dB dH dN : ClassId} {H0 : Heap} {n : Nat} (hx : p.tables.exec = Jvm.exec) (hb : c.code = cc) (harr : (Cond.arrayClass .char).before args s = true) (hK : va_K D sqCl (sqT dB dH dN) s) (hP : va_P D sqCl ws H) (hD : va_D A ws) (hS : va_S A H0 H locs) (hA : ∀ q : Nat, H0.size ≤ q → A q) (k n' : Nat) (hn : n ≤ 1000) (h1 : cells + 1 ≤ k) (h2 : slots + n ≤ n') (h3 : k ≤ R.cells) (h4 : n' ≤ R.slots) (hdg : decode cc pc = .ok (.newarray .char, 2))
    (kk : ∀ (q : Nat) (H1 : Heap), va_P D sqCl (ws ++ [(q, eN dH n (fun _ => 0))]) H1 → va_D A (ws ++ [(q, eN dH n (fun _ => 0))]) → va_S A H0 H1 locs → W p l e R s m args below meth c H1 locs k n' Q (F0 m (pc + 2) ls (.ref q :: rest))) : W p l e R s m args below meth c H locs cells slots Q (F0 m pc ls (.int (nI n) :: rest)) := by
  refine va_newa (atype := .char) (ty := .char) (N' := n) (a0 := (n, .inl (fun _ => nI 0))) hx hb harr rfl hK hP hD hS hA (fun cA => rfl) (nI_pos (by omega)) (nI_clamp (by omega)) (by show n * 2 ≤ _; omega) (by omega) (by omega) hdg (fun q cA H1 hK1 hP1 hD1 hS1 => ?_)
  obtain rfl := sq_cls hK hK1 1 rfl (Or.inr (Or.inl rfl))
  exact W.widen h1 h2 (kk q H1 hP1 hD1 hS1)
theorem sq_newN {dB dH dN : ClassId} {H0 : Heap} {n : Nat} (hx : p.tables.exec = Jvm.exec) (hb : c.code = cc) (harr : (Cond.arrayClass .int).before args s = true) (hK : va_K D sqCl (sqT dB dH dN) s) (hP : va_P D sqCl ws H) (hD : va_D A ws) (hS : va_S A H0 H locs) (hA : ∀ q : Nat, H0.size ≤ q → A q) (k n' : Nat) (hn : n ≤ 1000) (h1 : cells + 1 ≤ k) (h2 : slots + n ≤ n') (h3 : k ≤ R.cells) (h4 : n' ≤ R.slots) (hdg : decode cc pc = .ok (.newarray .int, 2))
    (kk : ∀ (q : Nat) (H1 : Heap), va_P D sqCl (ws ++ [(q, eN dN n (fun _ => 0))]) H1 → va_D A (ws ++ [(q, eN dN n (fun _ => 0))]) → va_S A H0 H1 locs → W p l e R s m args below meth c H1 locs k n' Q (F0 m (pc + 2) ls (.ref q :: rest))) : W p l e R s m args below meth c H locs cells slots Q (F0 m pc ls (.int (nI n) :: rest)) := by
  refine va_newa (atype := .int) (ty := .int) (N' := n) (a0 := (n, .inl (fun _ => nI 0))) hx hb harr rfl hK hP hD hS hA (fun cA => rfl) (nI_pos (by omega)) (nI_clamp (by omega)) (by show n * 4 ≤ _; omega) (by omega) (by omega) hdg (fun q cA H1 hK1 hP1 hD1 hS1 => ?_)
  obtain rfl := sq_cls hK hK1 2 rfl (Or.inr (Or.inr rfl))
  exact W.widen h1 h2 (kk q H1 hP1 hD1 hS1)
theorem sq_newB {dB dH dN : ClassId} {H0 : Heap} {n : Nat} (hx : p.tables.exec = Jvm.exec) (hb : c.code = cc) (harr : (Cond.arrayClass .byte).before args s = true) (hK : va_K D sqCl (sqT dB dH dN) s) (hP : va_P D sqCl ws H) (hD : va_D A ws) (hS : va_S A H0 H locs) (hA : ∀ q : Nat, H0.size ≤ q → A q) (k n' : Nat) (hn : n ≤ 1000) (h1 : cells + 1 ≤ k) (h2 : slots + n ≤ n') (h3 : k ≤ R.cells) (h4 : n' ≤ R.slots) (hdg : decode cc pc = .ok (.newarray .byte, 2))
    (kk : ∀ (q : Nat) (H1 : Heap), va_P D sqCl (ws ++ [(q, eB dB n (fun _ => 0))]) H1 → va_D A (ws ++ [(q, eB dB n (fun _ => 0))]) → va_S A H0 H1 locs → W p l e R s m args below meth c H1 locs k n' Q (F0 m (pc + 2) ls (.ref q :: rest))) : W p l e R s m args below meth c H locs cells slots Q (F0 m pc ls (.int (nI n) :: rest)) := by
  refine va_newa (atype := .byte) (ty := .byte) (N' := n) (a0 := (n, .inl (fun _ => sb_b 0))) hx hb harr rfl hK hP hD hS hA (fun cA => rfl) (nI_pos (by omega)) (nI_clamp (by omega)) (by show n * 1 ≤ _; omega) (by omega) (by omega) hdg (fun q cA H1 hK1 hP1 hD1 hS1 => ?_)
  obtain rfl := sq_cls hK hK1 0 rfl (Or.inl rfl)
  exact W.widen h1 h2 (kk q H1 hP1 hD1 hS1)
/-- System.arraycopy of n bytes of text, from the first on, to place p -/
theorem sq_copy {dB dH dN : ClassId} {H0 : Heap} {o1 o2 n N k : Nat} {t f : Nat → Nat} (hx : p.tables.exec = Jvm.exec) (hb : c.code = cc) (hml : c.maxLocals = ls.size) {own : String} {index : Nat} (hown : s.vm.findClass own = some m.cls) (hlink : (Cond.methodLink own index arraycopyName).before args s = true) (hnat : (Cond.native arraycopyName).before args s = true) (hstat : (Cond.static arraycopyName).before args s = true) (hini : (Cond.initialized "java/lang/System").before args s = true)
    (hK : va_K D sqCl (sqT dB dH dN) s) (hP : va_P D sqCl ws H) (hD : va_D A ws) (hS : va_S A H0 H locs) (q0 q1 : Nat) (ha0 : ws[q0]? = some (o1, eB dB n t)) (ha1 : ws[q1]? = some (o2, eB dB N f)) (h1 : k + n ≤ N) (h2 : N < 2 ^ 31)
    (hframes : 1 ≤ R.frames) (hlocals : (rest.map fun v => v.category).sum + (nativeFrameWords "java/lang/System" "arraycopy" 5 + 11) ≤ R.locals) (hdg : decode cc pc = .ok (.invokestatic index, 3))
    (kk : ∀ (H1 : Heap) (locs1 : List Loc), va_P D sqCl (ws.set q1 (o2, eB dB N (zp k n t f))) H1 → va_D A (ws.set q1 (o2, eB dB N (zp k n t f))) → va_S A H0 H1 locs1 → W p l e R s m args below meth c H1 locs1 cells slots Q (F0 m (pc + 3) ls rest)) : W p l e R s m args below meth c H locs cells slots Q (F0 m pc ls (.int (nI n) :: .int (nI k) :: .ref o2 :: .int (nI 0) :: .ref o1 :: rest)) := by
  refine va_copyi hx hb hml hown hlink hnat hstat hini hK hP hD hS q0 q1 0 0 ha0 ha1 rfl rfl rfl (nI_pos (by decide)) (nI_pos (by omega)) (nI_pos (by omega)) (by rw [nI_clamp (by decide), nI_clamp (by omega)]; omega) (by rw [nI_clamp (by omega), nI_clamp (by omega)]; omega) (fun i _ => sb_fitB _) hframes hlocals hdg (fun H1 locs1 hP1 hD1 hS1 => ?_)
  rw [nI_clamp (n := 0) (by decide), nI_clamp (n := k) (by omega), nI_clamp (n := n) (by omega), show va_cpy (fun j => sb_b (t j)) (fun j => sb_b (f j)) 0 k n = fun j => sb_b (zp k n t f j) from funext fun j => zp_cpy k n t f j] at hP1 hD1
  exact kk H1 locs1 hP1 hD1 hS1
theorem sq_fitB {dB : ClassId} {n : Nat} {t : Nat → Nat} (i : Nat) (v : Value) (h : (vp_cell dB (n, .inl (fun j => sb_b (t j)))).slots[i]? = some v) : fits .byte v = true := by
  have h0 : (arrV dB n (fun j => Value.int (sb_b (t j)))).slots[i]? = some v := h
  by_cases hi : i < n
  · rw [arrV_read dB _ hi] at h0
    cases h0
    exact sb_fitB _
  · have hl := (Array.getElem?_eq_some_iff.mp h0).1
    rw [arrV_size] at hl
    exact absurd hl hi
/-- byte[].clone() -/
theorem sq_clone {dB dH dN : ClassId} {H0 : Heap} {o n : Nat} {t : Nat → Nat} (hx : p.tables.exec = Jvm.exec) (hb : c.code = cc) (hml : c.maxLocals = ls.size) {own : String} {index : Nat} (hown : s.vm.findClass own = some m.cls)
    (hlink : (Cond.methodLink own index ⟨"[B", "clone", "()Ljava/lang/Object;"⟩).before args s = true) (hsame : (Cond.sameMethod "[B" "java/lang/Object" "clone" "()Ljava/lang/Object;").before args s = true)
    (hnat : (Cond.native ⟨"java/lang/Object", "clone", "()Ljava/lang/Object;"⟩).before args s = true) (hinst : (Cond.instanceMethod ⟨"java/lang/Object", "clone", "()Ljava/lang/Object;"⟩).before args s = true)
    (hsel : (Cond.selects "[B" ⟨"[B", "clone", "()Ljava/lang/Object;"⟩ ⟨"java/lang/Object", "clone", "()Ljava/lang/Object;"⟩).before args s = true) (hcl : va_Nw (.castable "[B" "java/lang/Cloneable") s)
    (hK : va_K D sqCl (sqT dB dH dN) s) (hP : va_P D sqCl ws H) (hD : va_D A ws) (hS : va_S A H0 H locs) (hA : ∀ q, H0.size ≤ q → A q) (q0 : Nat) (ha : ws[q0]? = some (o, eB dB n t))
    (hframes : 1 ≤ R.frames) (hlocals : (rest.map fun v => v.category).sum + 14 ≤ R.locals) (k n' : Nat) (h1 : cells + 1 ≤ k) (h2 : slots + n ≤ n') (h3 : k ≤ R.cells) (h4 : n' ≤ R.slots) (hdg : decode cc pc = .ok (.invokevirtual index, 3))
    (kk : ∀ (q : Nat) (H1 : Heap), va_P D sqCl (ws ++ [(q, eB dB n t)]) H1 → va_D A (ws ++ [(q, eB dB n t)]) → va_S A H0 H1 locs → W p l e R s m args below meth c H1 locs k n' Q (F0 m (pc + 3) ls (.ref q :: rest))) : W p l e R s m args below meth c H locs cells slots Q (F0 m pc ls (.ref o :: rest)) := by
  refine va_clone hx hb hml hown hlink hsame hnat hinst hsel hcl hK hP hD hS hA q0 0 ha rfl (show s.vm.findClass "[B" = some dB from (hK.2 0 _ rfl).2) sq_fitB hframes hlocals (by omega) (by show slots + n ≤ _; omega) hdg (fun q H1 _ hP1 hD1 hS1 => ?_)
  exact W.widen h1 h2 (kk q H1 hP1 hD1 hS1)
-- tables of the start
theorem sq_ti {z : Nat × List Nat} {i : Nat} (hx : p.tables.exec = Jvm.exec) (hb : c.code = cc) (hE : sq_E ro ad b L xs A s s.heap) (hS : va_S A s.heap H locs) (hz : z ∈ sq_tab) (hi : i < z.2.length) (hn : z.2.length < 2 ^ 31) (hdg : decode cc pc = .ok (.iaload, 1))
    (kk : W p l e R s m args below meth c H locs cells slots Q (F0 m (pc + 1) ls (.int (nI (z.2.getD i 0)) :: rest))) : W p l e R s m args below meth c H locs cells slots Q (F0 m pc ls (.int (nI i) :: .ref (ad z.1) :: rest)) := by
  refine va_ti hx hb (hE.1.2 z hz) hS (vp_in_nI hi hn) (v := .int (nI (z.2.getD i 0))) ?_ hdg kk
  rw [nI_clamp (by omega)]
theorem sq_tl {z : Nat × List Nat} (hx : p.tables.exec = Jvm.exec) (hb : c.code = cc) (hE : sq_E ro ad b L xs A s s.heap) (hS : va_S A s.heap H locs) (hz : z ∈ sq_tab) (hdg : decode cc pc = .ok (.arraylength, 1))
    (kk : W p l e R s m args below meth c H locs cells slots Q (F0 m (pc + 1) ls (.int (nI z.2.length) :: rest))) : W p l e R s m args below meth c H locs cells slots Q (F0 m pc ls (.ref (ad z.1) :: rest)) :=
  va_tlen hx hb (hE.1.2 z hz) hS rfl hdg kk
theorem sq_tf {i j : Nat} (hx : p.tables.exec = Jvm.exec) (hb : c.code = cc) (hE : sq_E ro ad b L xs A s s.heap) (hS : va_S A s.heap H locs) (hi : i < 16) (hj : j < (gf_FL.getD i []).length) (hn : (gf_FL.getD i []).length < 2 ^ 31) (hdg : decode cc pc = .ok (.iaload, 1))
    (kk : W p l e R s m args below meth c H locs cells slots Q (F0 m (pc + 1) ls (.int (nI (gf_P i j)) :: rest))) : W p l e R s m args below meth c H locs cells slots Q (F0 m pc ls (.int (nI j) :: .ref (ad (16 + i)) :: rest)) := by
  refine va_ti hx hb (hE.2.1.2 i hi) hS (vp_in_nI hj hn) (v := .int (nI (gf_P i j))) ?_ hdg kk
  rw [nI_clamp (by omega)]
theorem sq_tq {i : Nat} (hx : p.tables.exec = Jvm.exec) (hb : c.code = cc) (hE : sq_E ro ad b L xs A s s.heap) (hS : va_S A s.heap H locs) (hi : i < 16) (hdg : decode cc pc = .ok (.aaload, 1))
    (kk : W p l e R s m args below meth c H locs cells slots Q (F0 m (pc + 1) ls (.ref (ad (16 + i)) :: rest))) : W p l e R s m args below meth c H locs cells slots Q (F0 m pc ls (.int (nI i) :: .ref (ad 5) :: rest)) := by
  obtain ⟨cell, h1, h2, h3, h4, h5, h6, h7⟩ := hE.2.1.1
  have hlt : (nI i).toNatClampNeg < 16 := by rw [nI_clamp (by omega)]; exact hi
  have hin : ¬ (nI i < 0 ∨ cell.slots.size ≤ (nI i).toNatClampNeg) := by
    intro q
    rcases q with q | q
    · exact nI_pos (by omega) q
    · omega
  refine W.aald (v := .ref (ad (16 + i))) (ty := .array .int) hx hb (by rw [hS.2.1 _ (Array.getElem?_eq_some_iff.mp h1).1 h7]; exact h1) h2 rfl h3 hin ?_ rfl rfl hdg kk
  rw [h6 _ hlt, nI_clamp (by omega)]
theorem sq_gs {C n d own ref : String} {v : Value} {index : Nat} (k : Nat) (hk : (sq_Z ro ad)[k]? = some (C, n, d, v)) (hx : p.tables.exec = Jvm.exec) (hb : c.code = cc) (hE : sq_E ro ad b L xs A s s.heap) (hS : va_S A s.heap H locs) (hown : s.vm.findClass own = some m.cls) (hlink : (Cond.fieldLink own index ref n d).before args s = true) (hsame : ∀ x, s.fieldFound? C n d = some x → s.fieldFound? ref n d = some x) (hdg : decode cc pc = .ok (.getstatic index, 3))
    (kk : W p l e R s m args below meth c H locs cells slots Q (F0 m (pc + 3) ls (v :: rest))) : W p l e R s m args below meth c H locs cells slots Q (F0 m pc ls rest) :=
  va_gets hx hb (hE.1.1 _ (List.mem_of_getElem? hk)) hS hown hlink hsame hdg kk
/-- the script -/
theorem sq_sc {i : Nat} (hx : p.tables.exec = Jvm.exec) (hb : c.code = cc) (hE : sq_E ro ad b L xs A s s.heap) (hS : va_S A s.heap H locs) (hi : i < L) (hn : L < 2 ^ 31) (hdg : decode cc pc = .ok (.iaload, 1))
    (kk : W p l e R s m args below meth c H locs cells slots Q (F0 m (pc + 1) ls (.int (xs i) :: rest))) : W p l e R s m args below meth c H locs cells slots Q (F0 m pc ls (.int (nI i) :: .ref b :: rest)) := by
  refine va_ti hx hb hE.2.2.1 hS (vp_in_nI hi hn) (v := .int (xs i)) ?_ hdg kk
  rw [nI_clamp (by omega)]
theorem sq_sl (hx : p.tables.exec = Jvm.exec) (hb : c.code = cc) (hE : sq_E ro ad b L xs A s s.heap) (hS : va_S A s.heap H locs) (hdg : decode cc pc = .ok (.arraylength, 1))
    (kk : W p l e R s m args below meth c H locs cells slots Q (F0 m (pc + 1) ls (.int (nI L) :: rest))) : W p l e R s m args below meth c H locs cells slots Q (F0 m pc ls (.ref b :: rest)) :=
  va_tlen hx hb hE.2.2.1 hS rfl hdg kk
end SQA
end
section
/-! JDK 1: indices, Latin-1 text: length, charAt -/
set_option maxRecDepth 100000
section SQJ1
variable (l : Launch) {D : va_G} {dB dH dN : ClassId} {ro : Option Nat} {ad : Nat → Nat} {b L : Nat} {xs : Nat → Int32}
set_option maxHeartbeats 4000000 in
set_option maxRecDepth 100000 in
theorem mt_preIndex (sz : Nat) (i n : Nat) (hi : i < n) (hn : n < 2 ^ 31) : Met l yJ2_checkIndex (wz_ yJ2_checkIndex cJ2_checkIndex 3 (some .int)) ({ frames := 0, cells := 0, slots := 0, locals := 0 }) (sq_Pc D (sqT dB dH dN) ro ad b L xs [.int (nI i), .int (nI n), va_rf ro] sz []) (va_Qi (fun (r : Int32) (u : Unit) => r = nI i) (sq_B D (va_A [] sz) (fun (u : Unit) => [])) (va_A [] sz)) 0 0 (va_A [] sz) := by
  refine sq_met (fun A => va_Qi (fun (r : Int32) (u : Unit) => r = nI i) (sq_B D A (fun (u : Unit) => [])) A) (by decide) (by cases ro <;> exact Nat.le_of_ble_eq_true rfl) ?_
  intro p e s m below meth c A hx hb hr hlocks hml hown hin htz hP hK hD hE hS hA ls hl
  have hts : ∀ w ∈ lw_all, w.before _ s = true := fun w h => htz w (zq_in h)
  have hl : lv_has ls 3 [(0, .int (nI i)), (1, .int (nI n)), (2, va_rf ro)] := hl
  refine lv_iload_n hx hb dJ2_checkIndex_0 rfl (lv_at hl 0 rfl) ?_
  refine sq_if_lt (tgt := 9) hx hb dJ2_checkIndex_1 (by decide) (by omega) ?_
  refine lv_iload_n hx hb dJ2_checkIndex_4 rfl (lv_at hl 0 rfl) ?_
  refine lv_iload_n hx hb dJ2_checkIndex_5 rfl (lv_at hl 1 rfl) ?_
  refine sq_lt (tgt := 16) hx hb dJ2_checkIndex_6 (by decide) (by omega) (by omega) (fun hc => ?_) (fun hc => by exfalso; omega)
  refine lv_iload_n hx hb dJ2_checkIndex_16 rfl (lv_at hl 0 rfl) ?_
  exact sq_iret () hx hb hr hlocks (rfl) (rfl) (hP.sub [] rfl) (hD.sub [] (by decide) rfl) hS dJ2_checkIndex_17
set_option maxHeartbeats 4000000 in
set_option maxRecDepth 100000 in
theorem mt_strIndex (sz : Nat) (i n : Nat) (hi : i < n) (hn : n < 2 ^ 31) : Met l yJ0_checkIndex (wz_ yJ0_checkIndex cJ0_checkIndex 2 none) ({ frames := 1, cells := 0, slots := 0, locals := 22 }) (sq_Pc D (sqT dB dH dN) ro ad b L xs [.int (nI i), .int (nI n)] sz []) (va_Qv (fun (u : Unit) => True) (sq_B D (va_A [] sz) (fun (u : Unit) => [])) (va_A [] sz)) 0 0 (va_A [] sz) := by
  refine sq_met (fun A => va_Qv (fun (u : Unit) => True) (sq_B D A (fun (u : Unit) => [])) A) (by decide) (Nat.le_of_ble_eq_true rfl) ?_
  intro p e s m below meth c A hx hb hr hlocks hml hown hin htz hP hK hD hE hS hA ls hl
  have hts : ∀ w ∈ lw_all, w.before _ s = true := fun w h => htz w (zq_in h)
  have hl : lv_has ls 2 [(0, .int (nI i)), (1, .int (nI n))] := hl
  refine lv_iload_n hx hb dJ0_checkIndex_0 rfl (lv_at hl 0 rfl) ?_
  refine lv_iload_n hx hb dJ0_checkIndex_1 rfl (lv_at hl 1 rfl) ?_
  refine sq_gs (v := va_rf ro) 1 rfl hx hb hE hS hown (hts _ q74) (fun _ h9 => h9) dJ0_checkIndex_2 ?_
  refine sq_reti (wc := []) (wr := []) hP hD hS hA [] [] rfl rfl (by decide) (by decide) (va_runS (As := [.int (nI i), .int (nI n), va_rf ro]) (rest := []) ⟨hx, hb, hml, hown, htz⟩ (mt_preIndex l s.heap.size i n hi hn) (va_cwS 3 htz (z_S q76 q77 q5 q78) rfl rfl rfl (by decide +kernel) ⟨(Nat.le_of_ble_eq_true rfl), (Nat.le_of_ble_eq_true rfl)⟩) (sq_preS (wc := []) hP hD hK hE hS hA [] rfl (by decide)) rfl rfl hl.1 rfl (lv_room (Nat.le_of_ble_eq_true rfl)) dJ0_checkIndex_5 ⟨(Nat.le_of_ble_eq_true rfl), (Nat.le_of_ble_eq_true rfl)⟩) (fun r u H locs hw hP hD hS => ?_)
  rw [hw]
  have hP : va_P D sqCl [] H := hP
  have hD : va_D A [] := hD
  refine lv_pop hx hb dJ0_checkIndex_8 rfl ?_
  exact sq_vret () hx hb hr hlocks (trivial) (hP.sub [] rfl) (hD.sub [] (by decide) rfl) hS dJ0_checkIndex_9
set_option maxHeartbeats 4000000 in
set_option maxRecDepth 100000 in
theorem mt_latCharAt (sz : Nat) (v n i : Nat) (t : Nat → Nat) (hi : i < n) (hn : n < 2 ^ 31) (ht : ∀ j, t j < 256) : Met l yJ1_charAt (wz_ yJ1_charAt cJ1_charAt 2 (some .char)) ({ frames := 2, cells := 0, slots := 0, locals := 43 }) (sq_Pc D (sqT dB dH dN) ro ad b L xs [.ref v, .int (nI i)] sz [(v, eB dB n t)]) (va_Qi (fun (r : Int32) (u : Unit) => r = nI (t i)) (sq_B D (va_A [(v, eB dB n t)] sz) (fun (u : Unit) => [(v, eB dB n t)])) (va_A [(v, eB dB n t)] sz)) 0 0 (va_A [(v, eB dB n t)] sz) := by
  refine sq_met (fun A => va_Qi (fun (r : Int32) (u : Unit) => r = nI (t i)) (sq_B D A (fun (u : Unit) => [(v, eB dB n t)])) A) (by decide) (Nat.le_of_ble_eq_true rfl) ?_
  intro p e s m below meth c A hx hb hr hlocks hml hown hin htz hP hK hD hE hS hA ls hl
  have hts : ∀ w ∈ lw_all, w.before _ s = true := fun w h => htz w (zq_in h)
  have hl : lv_has ls 2 [(0, .ref v), (1, .int (nI i))] := hl
  refine lv_iload_n hx hb dJ1_charAt_0 rfl (lv_at hl 1 rfl) ?_
  refine lv_aload_n hx hb dJ1_charAt_1 rfl (lv_at hl 0 rfl) ?_
  refine va_alen (v := nI n) hx hb hK hP 0 0 rfl rfl rfl dJ1_charAt_2 ?_
  refine sq_retv (wc := []) (wr := [(v, eB dB n t)]) hP hD hS hA [] [0] rfl rfl (by decide) (by decide) (va_runS (As := [.int (nI i), .int (nI n)]) (rest := []) ⟨hx, hb, hml, hown, htz⟩ (mt_strIndex l s.heap.size i n hi hn) (va_cwS 2 htz (z_S q71 q72 q3 q73) rfl rfl rfl (by decide +kernel) ⟨(Nat.le_of_ble_eq_true rfl), (Nat.le_of_ble_eq_true rfl)⟩) (sq_preS (wc := []) hP hD hK hE hS hA [] rfl (by decide)) rfl rfl hl.1 rfl (lv_room (Nat.le_of_ble_eq_true rfl)) dJ1_charAt_3 ⟨(Nat.le_of_ble_eq_true rfl), (Nat.le_of_ble_eq_true rfl)⟩) (fun u H locs _ hP hD hS => ?_)
  have hP : va_P D sqCl [(v, eB dB n t)] H := hP
  have hD : va_D A [(v, eB dB n t)] := hD
  refine lv_aload_n hx hb dJ1_charAt_6 rfl (lv_at hl 0 rfl) ?_
  refine lv_iload_n hx hb dJ1_charAt_7 rfl (lv_at hl 1 rfl) ?_
  refine sq_bald hx hb hK hP 0 rfl (hi) (hn) dJ1_charAt_8 ?_
  refine lv_sipush (v := nI 255) hx hb dJ1_charAt_9 (by decide) ?_
  refine lv_iand hx hb dJ1_charAt_12 ?_
  have e1 : sb_b (t i) &&& nI 255 = nI (t i) := (sb_byte (t i) (ht i)).1
  refine sq_top (y := nI (t i)) (e1) ?_
  refine sq_i2c hx hb dJ1_charAt_13 (by have := ht i; omega) ?_
  exact sq_iret () hx hb hr hlocks ((pk_charN (by have := ht i; omega)).1) (rfl) (hP.sub [0] rfl) (hD.sub [0] (by decide) rfl) hS dJ1_charAt_14
set_option maxHeartbeats 4000000 in
set_option maxRecDepth 100000 in
theorem mt_coder (sz : Nat) (q v n : Nat) (t : Nat → Nat)  : Met l yJ0_coder (wz_ yJ0_coder cJ0_coder 1 (some .byte)) ({ frames := 0, cells := 0, slots := 0, locals := 0 }) (sq_Pc D (sqT dB dH dN) ro ad b L xs [.ref q] sz [(q, .inr (0, [.ref v, .int 0, .int 0, .int 0])), (v, eB dB n t)]) (va_Qi (fun (r : Int32) (u : Unit) => r = 0) (sq_B D (va_A [(q, .inr (0, [.ref v, .int 0, .int 0, .int 0])), (v, eB dB n t)] sz) (fun (u : Unit) => [(q, .inr (0, [.ref v, .int 0, .int 0, .int 0])), (v, eB dB n t)])) (va_A [(q, .inr (0, [.ref v, .int 0, .int 0, .int 0])), (v, eB dB n t)] sz)) 0 0 (va_A [(q, .inr (0, [.ref v, .int 0, .int 0, .int 0])), (v, eB dB n t)] sz) := by
  refine sq_met (fun A => va_Qi (fun (r : Int32) (u : Unit) => r = 0) (sq_B D A (fun (u : Unit) => [(q, .inr (0, [.ref v, .int 0, .int 0, .int 0])), (v, eB dB n t)])) A) (by decide) (Nat.le_of_ble_eq_true rfl) ?_
  intro p e s m below meth c A hx hb hr hlocks hml hown hin htz hP hK hD hE hS hA ls hl
  have hts : ∀ w ∈ lw_all, w.before _ s = true := fun w h => htz w (zq_in h)
  have hl : lv_has ls 1 [(0, .ref q)] := hl
  refine sq_gs (v := .int 1) 0 rfl hx hb hE hS hown (hts _ q58) (fun _ h9 => h9) dJ0_coder_0 ?_
  refine lv_if_eq (tgt := 13) hx hb dJ0_coder_3 (by decide) (fun hc => absurd hc (by decide)) (fun _ => ?_)
  refine lv_aload_n hx hb dJ0_coder_6 rfl (lv_at hl 0 rfl) ?_
  refine va_get (D := D) (ci := 0) (v := .int 0) (C := RJ0) (T := TJ0) (N := 4) hx hb hts in_J0 hown hK hP 0 rfl rfl 1 (by decide) (hts _ q168) (fun _ h9 => h9) rfl dJ0_coder_7 ?_
  refine lv_goto (tgt := 14) hx hb dJ0_coder_10 (by decide) ?_
  exact sq_iret () hx hb hr hlocks (rfl) (rfl) (hP.sub [0, 1] rfl) (hD.sub [0, 1] (by decide) rfl) hS dJ0_coder_14
set_option maxHeartbeats 4000000 in
set_option maxRecDepth 100000 in
theorem mt_isLatin1 (sz : Nat) (q v n : Nat) (t : Nat → Nat)  : Met l yJ0_isLatin1 (wz_ yJ0_isLatin1 cJ0_isLatin1 1 (some .boolean)) ({ frames := 0, cells := 0, slots := 0, locals := 0 }) (sq_Pc D (sqT dB dH dN) ro ad b L xs [.ref q] sz [(q, .inr (0, [.ref v, .int 0, .int 0, .int 0])), (v, eB dB n t)]) (va_Qi (fun (r : Int32) (u : Unit) => r = nI 1) (sq_B D (va_A [(q, .inr (0, [.ref v, .int 0, .int 0, .int 0])), (v, eB dB n t)] sz) (fun (u : Unit) => [(q, .inr (0, [.ref v, .int 0, .int 0, .int 0])), (v, eB dB n t)])) (va_A [(q, .inr (0, [.ref v, .int 0, .int 0, .int 0])), (v, eB dB n t)] sz)) 0 0 (va_A [(q, .inr (0, [.ref v, .int 0, .int 0, .int 0])), (v, eB dB n t)] sz) := by
  refine sq_met (fun A => va_Qi (fun (r : Int32) (u : Unit) => r = nI 1) (sq_B D A (fun (u : Unit) => [(q, .inr (0, [.ref v, .int 0, .int 0, .int 0])), (v, eB dB n t)])) A) (by decide) (Nat.le_of_ble_eq_true rfl) ?_
  intro p e s m below meth c A hx hb hr hlocks hml hown hin htz hP hK hD hE hS hA ls hl
  have hts : ∀ w ∈ lw_all, w.before _ s = true := fun w h => htz w (zq_in h)
  have hl : lv_has ls 1 [(0, .ref q)] := hl
  refine sq_gs (v := .int 1) 0 rfl hx hb hE hS hown (hts _ q58) (fun _ h9 => h9) dJ0_isLatin1_0 ?_
  refine lv_if_eq (tgt := 17) hx hb dJ0_isLatin1_3 (by decide) (fun hc => absurd hc (by decide)) (fun _ => ?_)
  refine lv_aload_n hx hb dJ0_isLatin1_6 rfl (lv_at hl 0 rfl) ?_
  refine va_get (D := D) (ci := 0) (v := .int 0) (C := RJ0) (T := TJ0) (N := 4) hx hb hts in_J0 hown hK hP 0 rfl rfl 1 (by decide) (hts _ q168) (fun _ h9 => h9) rfl dJ0_isLatin1_7 ?_
  refine lv_if_ne (tgt := 17) hx hb dJ0_isLatin1_10 (by decide) (fun hc => absurd rfl hc) (fun _ => ?_)
  refine lv_iconst (v := nI 1) hx hb dJ0_isLatin1_13 (by decide) ?_
  refine lv_goto (tgt := 18) hx hb dJ0_isLatin1_14 (by decide) ?_
  exact sq_iret () hx hb hr hlocks (by decide) (rfl) (hP.sub [0, 1] rfl) (hD.sub [0, 1] (by decide) rfl) hS dJ0_isLatin1_18
set_option maxHeartbeats 4000000 in
set_option maxRecDepth 100000 in
theorem mt_length (sz : Nat) (q v n : Nat) (t : Nat → Nat)  : Met l yJ0_length (wz_ yJ0_length cJ0_length 1 (some .int)) ({ frames := 1, cells := 0, slots := 0, locals := 20 }) (sq_Pc D (sqT dB dH dN) ro ad b L xs [.ref q] sz [(q, .inr (0, [.ref v, .int 0, .int 0, .int 0])), (v, eB dB n t)]) (va_Qi (fun (r : Int32) (u : Unit) => r = nI n) (sq_B D (va_A [(q, .inr (0, [.ref v, .int 0, .int 0, .int 0])), (v, eB dB n t)] sz) (fun (u : Unit) => [(q, .inr (0, [.ref v, .int 0, .int 0, .int 0])), (v, eB dB n t)])) (va_A [(q, .inr (0, [.ref v, .int 0, .int 0, .int 0])), (v, eB dB n t)] sz)) 0 0 (va_A [(q, .inr (0, [.ref v, .int 0, .int 0, .int 0])), (v, eB dB n t)] sz) := by
  refine sq_met (fun A => va_Qi (fun (r : Int32) (u : Unit) => r = nI n) (sq_B D A (fun (u : Unit) => [(q, .inr (0, [.ref v, .int 0, .int 0, .int 0])), (v, eB dB n t)])) A) (by decide) (Nat.le_of_ble_eq_true rfl) ?_
  intro p e s m below meth c A hx hb hr hlocks hml hown hin htz hP hK hD hE hS hA ls hl
  have hts : ∀ w ∈ lw_all, w.before _ s = true := fun w h => htz w (zq_in h)
  have hl : lv_has ls 1 [(0, .ref q)] := hl
  refine lv_aload_n hx hb dJ0_length_0 rfl (lv_at hl 0 rfl) ?_
  refine va_get (D := D) (ci := 0) (v := .ref v) (C := RJ0) (T := TJ0) (N := 4) hx hb hts in_J0 hown hK hP 0 rfl rfl 0 (by decide) (hts _ q167) (fun _ h9 => h9) rfl dJ0_length_1 ?_
  refine va_alen (v := nI n) hx hb hK hP 1 0 rfl rfl rfl dJ0_length_4 ?_
  refine lv_aload_n hx hb dJ0_length_5 rfl (lv_at hl 0 rfl) ?_
  refine sq_reti (wc := [(q, .inr (0, [.ref v, .int 0, .int 0, .int 0])), (v, eB dB n t)]) (wr := []) hP hD hS hA [0, 1] [] rfl rfl (by decide) (by decide) (va_runV (As := []) (rest := [.int (nI n)]) ⟨hx, hb, hml, hown, htz⟩ (mt_coder l s.heap.size q v n t) (cwV 0 htz (z_V q54 q55 q56 q3 q57) rfl rfl rfl (by decide +kernel) ⟨(Nat.le_of_ble_eq_true rfl), (Nat.le_of_ble_eq_true rfl)⟩) (sq_preV (wc := [(q, .inr (0, [.ref v, .int 0, .int 0, .int 0])), (v, eB dB n t)]) (va_recv hK hP (ci := 0) (q0 := 0) rfl rfl) hP hD hK hE hS hA [0, 1] rfl (by decide)) rfl rfl hl.1 rfl (lv_room (Nat.le_of_ble_eq_true rfl)) dJ0_length_6 ⟨(Nat.le_of_ble_eq_true rfl), (Nat.le_of_ble_eq_true rfl)⟩) (fun r u H locs hw hP hD hS => ?_)
  rw [hw]
  have hP : va_P D sqCl [(q, .inr (0, [.ref v, .int 0, .int 0, .int 0])), (v, eB dB n t)] H := hP
  have hD : va_D A [(q, .inr (0, [.ref v, .int 0, .int 0, .int 0])), (v, eB dB n t)] := hD
  refine sq_sh0 hx hb dJ0_length_9 ?_
  exact sq_iret () hx hb hr hlocks (rfl) (rfl) (hP.sub [0, 1] rfl) (hD.sub [0, 1] (by decide) rfl) hS dJ0_length_10
set_option maxHeartbeats 4000000 in
set_option maxRecDepth 100000 in
theorem mt_charAt (sz : Nat) (q v n i : Nat) (t : Nat → Nat) (hi : i < n) (hn : n < 2 ^ 31) (ht : ∀ j, t j < 256) : Met l yJ0_charAt (wz_ yJ0_charAt cJ0_charAt 2 (some .char)) ({ frames := 3, cells := 0, slots := 0, locals := 64 }) (sq_Pc D (sqT dB dH dN) ro ad b L xs [.ref q, .int (nI i)] sz [(q, .inr (0, [.ref v, .int 0, .int 0, .int 0])), (v, eB dB n t)]) (va_Qi (fun (r : Int32) (u : Unit) => r = nI (t i)) (sq_B D (va_A [(q, .inr (0, [.ref v, .int 0, .int 0, .int 0])), (v, eB dB n t)] sz) (fun (u : Unit) => [(q, .inr (0, [.ref v, .int 0, .int 0, .int 0])), (v, eB dB n t)])) (va_A [(q, .inr (0, [.ref v, .int 0, .int 0, .int 0])), (v, eB dB n t)] sz)) 0 0 (va_A [(q, .inr (0, [.ref v, .int 0, .int 0, .int 0])), (v, eB dB n t)] sz) := by
  refine sq_met (fun A => va_Qi (fun (r : Int32) (u : Unit) => r = nI (t i)) (sq_B D A (fun (u : Unit) => [(q, .inr (0, [.ref v, .int 0, .int 0, .int 0])), (v, eB dB n t)])) A) (by decide) (Nat.le_of_ble_eq_true rfl) ?_
  intro p e s m below meth c A hx hb hr hlocks hml hown hin htz hP hK hD hE hS hA ls hl
  have hts : ∀ w ∈ lw_all, w.before _ s = true := fun w h => htz w (zq_in h)
  have hl : lv_has ls 2 [(0, .ref q), (1, .int (nI i))] := hl
  refine lv_aload_n hx hb dJ0_charAt_0 rfl (lv_at hl 0 rfl) ?_
  refine sq_reti (wc := [(q, .inr (0, [.ref v, .int 0, .int 0, .int 0])), (v, eB dB n t)]) (wr := []) hP hD hS hA [0, 1] [] rfl rfl (by decide) (by decide) (va_runV (As := []) (rest := []) ⟨hx, hb, hml, hown, htz⟩ (mt_isLatin1 l s.heap.size q v n t) (cwV 0 htz (z_V q64 q65 q66 q3 q67) rfl rfl rfl (by decide +kernel) ⟨(Nat.le_of_ble_eq_true rfl), (Nat.le_of_ble_eq_true rfl)⟩) (sq_preV (wc := [(q, .inr (0, [.ref v, .int 0, .int 0, .int 0])), (v, eB dB n t)]) (va_recv hK hP (ci := 0) (q0 := 0) rfl rfl) hP hD hK hE hS hA [0, 1] rfl (by decide)) rfl rfl hl.1 rfl (lv_room (Nat.le_of_ble_eq_true rfl)) dJ0_charAt_1 ⟨(Nat.le_of_ble_eq_true rfl), (Nat.le_of_ble_eq_true rfl)⟩) (fun r u H locs hw hP hD hS => ?_)
  rw [hw]
  have hP : va_P D sqCl [(q, .inr (0, [.ref v, .int 0, .int 0, .int 0])), (v, eB dB n t)] H := hP
  have hD : va_D A [(q, .inr (0, [.ref v, .int 0, .int 0, .int 0])), (v, eB dB n t)] := hD
  refine sq_if_eq (tgt := 16) hx hb dJ0_charAt_4 (by decide) (by decide) (fun hc => absurd hc (by decide)) (fun hc => ?_)
  refine lv_aload_n hx hb dJ0_charAt_7 rfl (lv_at hl 0 rfl) ?_
  refine va_get (D := D) (ci := 0) (v := .ref v) (C := RJ0) (T := TJ0) (N := 4) hx hb hts in_J0 hown hK hP 0 rfl rfl 0 (by decide) (hts _ q167) (fun _ h9 => h9) rfl dJ0_charAt_8 ?_
  refine lv_iload_n hx hb dJ0_charAt_11 rfl (lv_at hl 1 rfl) ?_
  refine sq_reti (wc := [(v, eB dB n t)]) (wr := [(q, .inr (0, [.ref v, .int 0, .int 0, .int 0]))]) hP hD hS hA [1] [0] rfl rfl (by decide) (by decide) (va_runS (As := [.ref v, .int (nI i)]) (rest := []) ⟨hx, hb, hml, hown, htz⟩ (mt_latCharAt l H.size v n i t hi hn ht) (va_cwS 2 htz (z_S q68 q69 q4 q70) rfl rfl rfl (by decide +kernel) ⟨(Nat.le_of_ble_eq_true rfl), (Nat.le_of_ble_eq_true rfl)⟩) (sq_preS (wc := [(v, eB dB n t)]) hP hD hK hE hS hA [1] rfl (by decide)) rfl rfl hl.1 rfl (lv_room (Nat.le_of_ble_eq_true rfl)) dJ0_charAt_12 ⟨(Nat.le_of_ble_eq_true rfl), (Nat.le_of_ble_eq_true rfl)⟩) (fun r u H locs hw hP hD hS => ?_)
  rw [hw]
  have hP : va_P D sqCl [(q, .inr (0, [.ref v, .int 0, .int 0, .int 0])), (v, eB dB n t)] H := hP
  have hD : va_D A [(q, .inr (0, [.ref v, .int 0, .int 0, .int 0])), (v, eB dB n t)] := hD
  exact sq_iret () hx hb hr hlocks ((pk_charN (by have := ht i; omega)).1) (rfl) (hP.sub [0, 1] rfl) (hD.sub [0, 1] (by decide) rfl) hS dJ0_charAt_15
end SQJ1
end
section
/-! JDK 2: letters to text: compress, the constructors of String -/
set_option maxRecDepth 100000
section SQJ2
variable (l : Launch) {D : va_G} {dB dH dN : ClassId} {ro : Option Nat} {ad : Nat → Nat} {b L : Nat} {xs : Nat → Int32}
set_option maxHeartbeats 4000000 in
set_option maxRecDepth 100000 in
theorem mt_preSize (sz : Nat) (n k : Nat) (hi : n ≤ k) (hk : k < 2 ^ 31) : Met l yJ2_checkFromIndexSize (wz_ yJ2_checkFromIndexSize cJ2_checkFromIndexSize 4 (some .int)) ({ frames := 0, cells := 0, slots := 0, locals := 0 }) (sq_Pc D (sqT dB dH dN) ro ad b L xs [.int (nI 0), .int (nI n), .int (nI k), va_rf ro] sz []) (va_Qi (fun (r : Int32) (u : Unit) => r = nI 0) (sq_B D (va_A [] sz) (fun (u : Unit) => [])) (va_A [] sz)) 0 0 (va_A [] sz) := by
  refine sq_met (fun A => va_Qi (fun (r : Int32) (u : Unit) => r = nI 0) (sq_B D A (fun (u : Unit) => [])) A) (by decide) (by cases ro <;> exact Nat.le_of_ble_eq_true rfl) ?_
  intro p e s m below meth c A hx hb hr hlocks hml hown hin htz hP hK hD hE hS hA ls hl
  have hts : ∀ w ∈ lw_all, w.before _ s = true := fun w h => htz w (zq_in h)
  have hl : lv_has ls 4 [(0, .int (nI 0)), (1, .int (nI n)), (2, .int (nI k)), (3, va_rf ro)] := hl
  refine lv_iload_n hx hb dJ2_checkFromIndexSize_0 rfl (lv_at hl 2 rfl) ?_
  refine lv_iload_n hx hb dJ2_checkFromIndexSize_1 rfl (lv_at hl 0 rfl) ?_
  refine sq_ior hx hb dJ2_checkFromIndexSize_2 ?_
  refine lv_iload_n hx hb dJ2_checkFromIndexSize_3 rfl (lv_at hl 1 rfl) ?_
  refine sq_ior hx hb dJ2_checkFromIndexSize_4 ?_
  refine sq_if_lt (tgt := 15) hx hb dJ2_checkFromIndexSize_5 (by decide) (Nat.or_lt_two_pow (Nat.or_lt_two_pow hk (by decide)) (by omega)) ?_
  refine lv_iload_n hx hb dJ2_checkFromIndexSize_8 rfl (lv_at hl 1 rfl) ?_
  refine lv_iload_n hx hb dJ2_checkFromIndexSize_9 rfl (lv_at hl 2 rfl) ?_
  refine lv_iload_n hx hb dJ2_checkFromIndexSize_10 rfl (lv_at hl 0 rfl) ?_
  refine sq_isub hx hb dJ2_checkFromIndexSize_11 (Nat.zero_le _) ?_
  refine sq_le (tgt := 23) hx hb dJ2_checkFromIndexSize_12 (by decide) (by omega) (by omega) (fun hc => ?_) (fun hc => by exfalso; omega)
  refine lv_iload_n hx hb dJ2_checkFromIndexSize_23 rfl (lv_at hl 0 rfl) ?_
  exact sq_iret () hx hb hr hlocks (rfl) (rfl) (hP.sub [] rfl) (hD.sub [] (by decide) rfl) hS dJ2_checkFromIndexSize_24
set_option maxHeartbeats 4000000 in
set_option maxRecDepth 100000 in
theorem mt_offCount (sz : Nat) (n k : Nat) (hi : n ≤ k) (hk : k < 2 ^ 31) : Met l yJ0_checkBoundsOffCount (wz_ yJ0_checkBoundsOffCount cJ0_checkBoundsOffCount 3 (some .int)) ({ frames := 1, cells := 0, slots := 0, locals := 23 }) (sq_Pc D (sqT dB dH dN) ro ad b L xs [.int (nI 0), .int (nI n), .int (nI k)] sz []) (va_Qi (fun (r : Int32) (u : Unit) => r = nI 0) (sq_B D (va_A [] sz) (fun (u : Unit) => [])) (va_A [] sz)) 0 0 (va_A [] sz) := by
  refine sq_met (fun A => va_Qi (fun (r : Int32) (u : Unit) => r = nI 0) (sq_B D A (fun (u : Unit) => [])) A) (by decide) (Nat.le_of_ble_eq_true rfl) ?_
  intro p e s m below meth c A hx hb hr hlocks hml hown hin htz hP hK hD hE hS hA ls hl
  have hts : ∀ w ∈ lw_all, w.before _ s = true := fun w h => htz w (zq_in h)
  have hl : lv_has ls 3 [(0, .int (nI 0)), (1, .int (nI n)), (2, .int (nI k))] := hl
  refine lv_iload_n hx hb dJ0_checkBoundsOffCount_0 rfl (lv_at hl 0 rfl) ?_
  refine lv_iload_n hx hb dJ0_checkBoundsOffCount_1 rfl (lv_at hl 1 rfl) ?_
  refine lv_iload_n hx hb dJ0_checkBoundsOffCount_2 rfl (lv_at hl 2 rfl) ?_
  refine sq_gs (v := va_rf ro) 1 rfl hx hb hE hS hown (hts _ q74) (fun _ h9 => h9) dJ0_checkBoundsOffCount_3 ?_
  refine sq_reti (wc := []) (wr := []) hP hD hS hA [] [] rfl rfl (by decide) (by decide) (va_runS (As := [.int (nI 0), .int (nI n), .int (nI k), va_rf ro]) (rest := []) ⟨hx, hb, hml, hown, htz⟩ (mt_preSize l s.heap.size n k hi hk) (va_cwS 4 htz (z_S q129 q130 q5 q131) rfl rfl rfl (by decide +kernel) ⟨(Nat.le_of_ble_eq_true rfl), (Nat.le_of_ble_eq_true rfl)⟩) (sq_preS (wc := []) hP hD hK hE hS hA [] rfl (by decide)) rfl rfl hl.1 rfl (lv_room (Nat.le_of_ble_eq_true rfl)) dJ0_checkBoundsOffCount_6 ⟨(Nat.le_of_ble_eq_true rfl), (Nat.le_of_ble_eq_true rfl)⟩) (fun r u H locs hw hP hD hS => ?_)
  rw [hw]
  have hP : va_P D sqCl [] H := hP
  have hD : va_D A [] := hD
  exact sq_iret () hx hb hr hlocks (rfl) (rfl) (hP.sub [] rfl) (hD.sub [] (by decide) rfl) hS dJ0_checkBoundsOffCount_9
set_option maxHeartbeats 4000000 in
set_option maxRecDepth 100000 in
theorem mt_range (sz : Nat) (q n k : Nat) (t : Nat → Nat) (hi : n ≤ k) (hk : k < 2 ^ 31) : Met l yJ0_rangeCheck (wz_ yJ0_rangeCheck cJ0_rangeCheck 3 (some (.object "java/lang/Void"))) ({ frames := 2, cells := 0, slots := 0, locals := 45 }) (sq_Pc D (sqT dB dH dN) ro ad b L xs [.ref q, .int (nI 0), .int (nI n)] sz [(q, eN dH k t)]) (va_Qq (fun (r : Option Nat) (u : Unit) => r = none) (sq_B D (va_A [(q, eN dH k t)] sz) (fun (u : Unit) => [(q, eN dH k t)])) (va_A [(q, eN dH k t)] sz)) 0 0 (va_A [(q, eN dH k t)] sz) := by
  refine sq_met (fun A => va_Qq (fun (r : Option Nat) (u : Unit) => r = none) (sq_B D A (fun (u : Unit) => [(q, eN dH k t)])) A) (by decide) (Nat.le_of_ble_eq_true rfl) ?_
  intro p e s m below meth c A hx hb hr hlocks hml hown hin htz hP hK hD hE hS hA ls hl
  have hts : ∀ w ∈ lw_all, w.before _ s = true := fun w h => htz w (zq_in h)
  have hl : lv_has ls 3 [(0, .ref q), (1, .int (nI 0)), (2, .int (nI n))] := hl
  refine lv_iload_n hx hb dJ0_rangeCheck_0 rfl (lv_at hl 1 rfl) ?_
  refine lv_iload_n hx hb dJ0_rangeCheck_1 rfl (lv_at hl 2 rfl) ?_
  refine lv_aload_n hx hb dJ0_rangeCheck_2 rfl (lv_at hl 0 rfl) ?_
  refine va_alen (v := nI k) hx hb hK hP 0 1 rfl rfl rfl dJ0_rangeCheck_3 ?_
  refine sq_reti (wc := []) (wr := [(q, eN dH k t)]) hP hD hS hA [] [0] rfl rfl (by decide) (by decide) (va_runS (As := [.int (nI 0), .int (nI n), .int (nI k)]) (rest := []) ⟨hx, hb, hml, hown, htz⟩ (mt_offCount l s.heap.size n k hi hk) (va_cwS 3 htz (z_S q126 q127 q3 q128) rfl rfl rfl (by decide +kernel) ⟨(Nat.le_of_ble_eq_true rfl), (Nat.le_of_ble_eq_true rfl)⟩) (sq_preS (wc := []) hP hD hK hE hS hA [] rfl (by decide)) rfl rfl hl.1 rfl (lv_room (Nat.le_of_ble_eq_true rfl)) dJ0_rangeCheck_4 ⟨(Nat.le_of_ble_eq_true rfl), (Nat.le_of_ble_eq_true rfl)⟩) (fun r u H locs _ hP hD hS => ?_)
  have hP : va_P D sqCl [(q, eN dH k t)] H := hP
  have hD : va_D A [(q, eN dH k t)] := hD
  refine lv_pop hx hb dJ0_rangeCheck_7 rfl ?_
  refine lv_null hx hb dJ0_rangeCheck_8 ?_
  exact sq_nret () hx hb hr hlocks (Or.inl ⟨_, rfl⟩) (rfl) (hP.sub [0] rfl) (hD.sub [0] (by decide) rfl) hS dJ0_rangeCheck_9
set_option maxHeartbeats 4000000 in
set_option maxRecDepth 100000 in
theorem mt_comp2 (sz : Nat) (q d n k : Nat) (t : Nat → Nat) (hi : n ≤ k) (hk : k < 2 ^ 31) (ht : ∀ j, t j < 256) : Met l yJ3_compress_2 (wz_ yJ3_compress_2 cJ3_compress_2 7 (some .int)) ({ frames := 0, cells := 0, slots := 0, locals := 0 }) (sq_Pc D (sqT dB dH dN) ro ad b L xs [.ref q, .int (nI 0), .ref d, .int (nI 0), .int (nI n)] sz [(q, eN dH k t), (d, eB dB n (fun _ => 0))]) (va_Qi (fun (r : Int32) (u : Unit) => r = nI n) (sq_B D (va_A [(q, eN dH k t), (d, eB dB n (fun _ => 0))] sz) (fun (u : Unit) => [(q, eN dH k t), (d, eB dB n t)])) (va_A [(q, eN dH k t), (d, eB dB n (fun _ => 0))] sz)) 0 0 (va_A [(q, eN dH k t), (d, eB dB n (fun _ => 0))] sz) := by
  refine sq_met (fun A => va_Qi (fun (r : Int32) (u : Unit) => r = nI n) (sq_B D A (fun (u : Unit) => [(q, eN dH k t), (d, eB dB n t)])) A) (by decide) (Nat.le_of_ble_eq_true rfl) ?_
  intro p e s m below meth c A hx hb hr hlocks hml hown hin htz hP hK hD hE hS hA ls hl
  have hts : ∀ w ∈ lw_all, w.before _ s = true := fun w h => htz w (zq_in h)
  have hl : lv_has ls 7 [(0, .ref q), (1, .int (nI 0)), (2, .ref d), (3, .int (nI 0)), (4, .int (nI n))] := hl
  refine lv_iconst (v := nI 0) hx hb dJ3_compress_2_0 (by decide) ?_
  refine lv_istore (lv' := [(5, .int (nI 0)), (0, .ref q), (1, .int (nI 0)), (2, .ref d), (3, .int (nI 0)), (4, .int (nI n))]) hx hb dJ3_compress_2_1 hl (by decide) rfl (fun ls hl => ?_)
  obtain ⟨hP, hD⟩ := sq_cg (g := fun j => sb_b ((zc 0 t) j)) hP hD 1 rfl (fun j hj => congrArg sb_b (zc_0 t j))
  have hP : va_P D sqCl [(q, eN dH k t), (d, eB dB n (zc 0 t))] s.heap := hP
  have hD : va_D A [(q, eN dH k t), (d, eB dB n (zc 0 t))] := hD
  refine sq_loop (fun (i : Nat) H locs ls => va_P D sqCl [(q, eN dH k t), (d, eB dB n (zc i t))] H ∧ va_D A [(q, eN dH k t), (d, eB dB n (zc i t))] ∧ va_S A s.heap H locs ∧ lv_has ls 7 [(0, .ref q), (1, .int (nI i)), (2, .ref d), (3, .int (nI i)), (4, .int (nI n)), (5, .int (nI i))]) n ?_ 0 _ _ _ (Nat.zero_le _) ⟨hP.sub [0, 1] rfl, hD.sub [0, 1] (by decide) rfl, hS, lv_sub hl [1, 2, 3, 4, 5, 0] rfl⟩
  intro i H locs ls h_i hI ih
  obtain ⟨hP, hD, hS, hl⟩ := hI
  refine lv_iload hx hb dJ3_compress_2_3 (lv_at hl 5 rfl) ?_
  refine lv_iload hx hb dJ3_compress_2_5 (lv_at hl 4 rfl) ?_
  refine sq_ge (tgt := 44) hx hb dJ3_compress_2_7 (by decide) (by omega) (by omega) (fun hc => ?_) (fun hc => ?_)
  · have e0 : n ≤ i := hc
    obtain ⟨hP, hD⟩ := sq_cg (g := fun j => sb_b (t j)) hP hD 1 rfl (fun j hj => congrArg sb_b (zc_all hc j hj))
    have hP : va_P D sqCl [(q, eN dH k t), (d, eB dB n t)] H := hP
    have hD : va_D A [(q, eN dH k t), (d, eB dB n t)] := hD
    refine lv_iload hx hb dJ3_compress_2_44 (lv_at hl 4 rfl) ?_
    exact sq_iret () hx hb hr hlocks (rfl) (rfl) (hP.sub [0, 1] rfl) (hD.sub [0, 1] (by decide) rfl) hS dJ3_compress_2_46
  · have ht1 := ht i
    refine lv_aload_n hx hb dJ3_compress_2_10 rfl (lv_at hl 0 rfl) ?_
    refine lv_iload_n hx hb dJ3_compress_2_11 rfl (lv_at hl 1 rfl) ?_
    refine sq_cald hx hb hK hP 0 rfl (Nat.lt_of_lt_of_le hc hi) (hk) dJ3_compress_2_12 ?_
    refine lv_istore (lv' := [(6, .int (nI (t i))), (0, .ref q), (1, .int (nI i)), (2, .ref d), (3, .int (nI i)), (4, .int (nI n)), (5, .int (nI i))]) hx hb dJ3_compress_2_13 hl (by decide) rfl (fun ls hl => ?_)
    refine lv_iload hx hb dJ3_compress_2_15 (lv_at hl 0 rfl) ?_
    refine lv_sipush (v := nI 255) hx hb dJ3_compress_2_17 (by decide) ?_
    refine sq_le (tgt := 26) hx hb dJ3_compress_2_20 (by decide) (by omega) (by decide) (fun hc2 => ?_) (fun hc2 => by exfalso; omega)
    refine lv_aload_n hx hb dJ3_compress_2_26 rfl (lv_at hl 3 rfl) ?_
    refine lv_iload_n hx hb dJ3_compress_2_27 rfl (lv_at hl 4 rfl) ?_
    refine lv_iload hx hb dJ3_compress_2_28 (lv_at hl 0 rfl) ?_
    refine sq_i2b hx hb dJ3_compress_2_30 ?_
    refine sq_bast hx hb hK hP hD hS 1 rfl (hc) (by omega) dJ3_compress_2_31 (fun H locs hP hD hS => ?_)
    have hP : va_P D sqCl [(q, eN dH k t), (d, eB dB n (va_up (zc i t) i (t i)))] H := hP
    have hD : va_D A [(q, eN dH k t), (d, eB dB n (va_up (zc i t) i (t i)))] := hD
    obtain ⟨hP, hD⟩ := sq_cg (g := fun j => sb_b ((zc (i + 1) t) j)) hP hD 1 rfl (fun j hj => congrArg sb_b (zc_up i t j))
    have hP : va_P D sqCl [(q, eN dH k t), (d, eB dB n (zc (i + 1) t))] H := hP
    have hD : va_D A [(q, eN dH k t), (d, eB dB n (zc (i + 1) t))] := hD
    refine lv_iinc (v := nI (i + 1)) (lv' := [(1, .int (nI (i + 1))), (6, .int (nI (t i))), (0, .ref q), (2, .ref d), (3, .int (nI i)), (4, .int (nI n)), (5, .int (nI i))]) hx hb dJ3_compress_2_32 hl (k := 2) rfl (nI_1 i) (by decide) rfl (fun ls hl => ?_)
    refine lv_iinc (v := nI (i + 1)) (lv' := [(3, .int (nI (i + 1))), (1, .int (nI (i + 1))), (6, .int (nI (t i))), (0, .ref q), (2, .ref d), (4, .int (nI n)), (5, .int (nI i))]) hx hb dJ3_compress_2_35 hl (k := 4) rfl (nI_1 i) (by decide) rfl (fun ls hl => ?_)
    refine lv_iinc (v := nI (i + 1)) (lv' := [(5, .int (nI (i + 1))), (3, .int (nI (i + 1))), (1, .int (nI (i + 1))), (6, .int (nI (t i))), (0, .ref q), (2, .ref d), (4, .int (nI n))]) hx hb dJ3_compress_2_38 hl (k := 6) rfl (nI_1 i) (by decide) rfl (fun ls hl => ?_)
    refine lv_goto (tgt := 3) hx hb dJ3_compress_2_41 (by decide) ?_
    exact ih _ _ _ (hc) ⟨hP.sub [0, 1] rfl, hD.sub [0, 1] (by decide) rfl, hS, lv_sub hl [4, 2, 5, 1, 6, 0] rfl⟩
set_option maxHeartbeats 4000000 in
set_option maxRecDepth 100000 in
theorem mt_comp (sz : Nat) (q n k : Nat) (t : Nat → Nat) (hn : n ≤ 98) (hi : n ≤ k) (hk : k < 2 ^ 31) (ht : ∀ j, t j < 256) : Met l yJ3_compress (wz_ yJ3_compress cJ3_compress 6 (some (.array .byte))) ({ frames := 1, cells := 1, slots := 98, locals := 26 }) (sq_Pc D (sqT dB dH dN) ro ad b L xs [.ref q, .int (nI 0), .int (nI n)] sz [(q, eN dH k t)]) (va_Qr (fun (u : Unit) => True) (sq_R D (va_A [(q, eN dH k t)] sz) (fun (u : Unit) (ra : Nat) => [(q, eN dH k t), (ra, eB dB n t)])) (va_A [(q, eN dH k t)] sz)) 1 98 (va_A [(q, eN dH k t)] sz) := by
  refine sq_met (fun A => va_Qr (fun (u : Unit) => True) (sq_R D A (fun (u : Unit) (ra : Nat) => [(q, eN dH k t), (ra, eB dB n t)])) A) (by decide) (Nat.le_of_ble_eq_true rfl) ?_
  intro p e s m below meth c A hx hb hr hlocks hml hown hin htz hP hK hD hE hS hA ls hl
  have hts : ∀ w ∈ lw_all, w.before _ s = true := fun w h => htz w (zq_in h)
  have hl : lv_has ls 6 [(0, .ref q), (1, .int (nI 0)), (2, .int (nI n))] := hl
  refine lv_iload_n hx hb dJ3_compress_0 rfl (lv_at hl 2 rfl) ?_
  refine sq_newB hx hb (hts _ q36) hK hP hD hS hA 1 98 (by omega) (by omega) (by omega) (Nat.le_of_ble_eq_true rfl) (Nat.le_of_ble_eq_true rfl) dJ3_compress_1 (fun d H hP hD hS => ?_)
  have hP : va_P D sqCl [(q, eN dH k t), (d, eB dB n (fun _ => 0))] H := hP
  have hD : va_D A [(q, eN dH k t), (d, eB dB n (fun _ => 0))] := hD
  refine lv_astore_n (lv' := [(3, .ref d), (0, .ref q), (1, .int (nI 0)), (2, .int (nI n))]) hx hb dJ3_compress_3 rfl hl (by decide) rfl (fun ls hl => ?_)
  refine lv_aload_n hx hb dJ3_compress_4 rfl (lv_at hl 1 rfl) ?_
  refine lv_iload_n hx hb dJ3_compress_5 rfl (lv_at hl 2 rfl) ?_
  refine lv_aload_n hx hb dJ3_compress_6 rfl (lv_at hl 0 rfl) ?_
  refine lv_iconst (v := nI 0) hx hb dJ3_compress_7 (by decide) ?_
  refine lv_iload_n hx hb dJ3_compress_8 rfl (lv_at hl 3 rfl) ?_
  refine sq_reti (wc := [(q, eN dH k t), (d, eB dB n (fun _ => 0))]) (wr := []) hP hD hS hA [0, 1] [] rfl rfl (by decide) (by decide) (va_runS (As := [.ref q, .int (nI 0), .ref d, .int (nI 0), .int (nI n)]) (rest := []) ⟨hx, hb, hml, hown, htz⟩ (mt_comp2 l H.size q d n k t hi hk ht) (va_cwS 5 htz (z_S q140 q141 q6 q142) rfl rfl rfl (by decide +kernel) ⟨(Nat.le_of_ble_eq_true rfl), (Nat.le_of_ble_eq_true rfl)⟩) (sq_preS (wc := [(q, eN dH k t), (d, eB dB n (fun _ => 0))]) hP hD hK hE hS hA [0, 1] rfl (by decide)) rfl rfl hl.1 rfl (lv_room (Nat.le_of_ble_eq_true rfl)) dJ3_compress_9 ⟨(Nat.le_of_ble_eq_true rfl), (Nat.le_of_ble_eq_true rfl)⟩) (fun r u H locs hw hP hD hS => ?_)
  rw [hw]
  have hP : va_P D sqCl [(q, eN dH k t), (d, eB dB n t)] H := hP
  have hD : va_D A [(q, eN dH k t), (d, eB dB n t)] := hD
  refine lv_istore (lv' := [(4, .int (nI n)), (3, .ref d), (0, .ref q), (1, .int (nI 0)), (2, .int (nI n))]) hx hb dJ3_compress_12 hl (by decide) rfl (fun ls hl => ?_)
  refine lv_iload hx hb dJ3_compress_14 (lv_at hl 0 rfl) ?_
  refine lv_iload_n hx hb dJ3_compress_16 rfl (lv_at hl 4 rfl) ?_
  refine sq_eq (tgt := 57) hx hb dJ3_compress_17 (by decide) (by omega) (by omega) (fun hc => ?_) (fun hc => by exfalso; omega)
  refine lv_aload_n hx hb dJ3_compress_57 rfl (lv_at hl 1 rfl) ?_
  exact sq_aret () hx hb hr hlocks (Or.inr ⟨_, rfl⟩) (trivial) (hP.sub [0, 1] rfl) (hD.sub [0, 1] (by decide) rfl) hS dJ3_compress_58
set_option maxHeartbeats 4000000 in
set_option maxRecDepth 100000 in
theorem mt_coderLen (sz : Nat) (d n : Nat) (t : Nat → Nat)  : Met l yJ3_coderFromArrayLen (wz_ yJ3_coderFromArrayLen cJ3_coderFromArrayLen 2 (some .byte)) ({ frames := 0, cells := 0, slots := 0, locals := 0 }) (sq_Pc D (sqT dB dH dN) ro ad b L xs [.ref d, .int (nI n)] sz [(d, eB dB n t)]) (va_Qi (fun (r : Int32) (u : Unit) => r = 0) (sq_B D (va_A [(d, eB dB n t)] sz) (fun (u : Unit) => [(d, eB dB n t)])) (va_A [(d, eB dB n t)] sz)) 0 0 (va_A [(d, eB dB n t)] sz) := by
  refine sq_met (fun A => va_Qi (fun (r : Int32) (u : Unit) => r = 0) (sq_B D A (fun (u : Unit) => [(d, eB dB n t)])) A) (by decide) (Nat.le_of_ble_eq_true rfl) ?_
  intro p e s m below meth c A hx hb hr hlocks hml hown hin htz hP hK hD hE hS hA ls hl
  have hts : ∀ w ∈ lw_all, w.before _ s = true := fun w h => htz w (zq_in h)
  have hl : lv_has ls 2 [(0, .ref d), (1, .int (nI n))] := hl
  refine lv_iload_n hx hb dJ3_coderFromArrayLen_0 rfl (lv_at hl 1 rfl) ?_
  refine lv_aload_n hx hb dJ3_coderFromArrayLen_1 rfl (lv_at hl 0 rfl) ?_
  refine va_alen (v := nI n) hx hb hK hP 0 0 rfl rfl rfl dJ3_coderFromArrayLen_2 ?_
  refine sq_isub hx hb dJ3_coderFromArrayLen_3 (Nat.le_refl _) ?_
  refine sq_top (y := nI 0) (by rw [Nat.sub_self]) ?_
  refine lv_bipush (v := nI 31) hx hb dJ3_coderFromArrayLen_4 (by decide) ?_
  refine lv_iushr (v := 0) hx hb dJ3_coderFromArrayLen_6 (by decide) ?_
  refine lv_i2b (v := 0) hx hb dJ3_coderFromArrayLen_7 (by decide) ?_
  exact sq_iret () hx hb hr hlocks (rfl) (rfl) (hP.sub [0] rfl) (hD.sub [0] (by decide) rfl) hS dJ3_coderFromArrayLen_8
set_option maxHeartbeats 4000000 in
set_option maxRecDepth 100000 in
theorem mt_init2 (sz : Nat) (o q n k : Nat) (t : Nat → Nat) (h0 : 0 < n) (hn : n ≤ 98) (hi : n ≤ k) (hk : k < 2 ^ 31) (ht : ∀ j, t j < 256) : Met l yJ0_init_2 (wz_ yJ0_init_2 cJ0_init_2 6 none) ({ frames := 2, cells := 1, slots := 98, locals := 51 }) (sq_Pc D (sqT dB dH dN) ro ad b L xs [.ref o, .ref q, .int (nI 0), .int (nI n), .null] sz [(o, .inr (0, [.null, .int 0, .int 0, .int 0])), (q, eN dH k t)]) (va_Qv (fun (u : Nat) => True) (sq_B D (va_A [(o, .inr (0, [.null, .int 0, .int 0, .int 0])), (q, eN dH k t)] sz) (fun (u : Nat) => [(o, .inr (0, [.ref u, .int 0, .int 0, .int 0])), (q, eN dH k t), (u, eB dB n t)])) (va_A [(o, .inr (0, [.null, .int 0, .int 0, .int 0])), (q, eN dH k t)] sz)) 1 98 (va_A [(o, .inr (0, [.null, .int 0, .int 0, .int 0])), (q, eN dH k t)] sz) := by
  refine sq_met (fun A => va_Qv (fun (u : Nat) => True) (sq_B D A (fun (u : Nat) => [(o, .inr (0, [.ref u, .int 0, .int 0, .int 0])), (q, eN dH k t), (u, eB dB n t)])) A) (by decide) (Nat.le_of_ble_eq_true rfl) ?_
  intro p e s m below meth c A hx hb hr hlocks hml hown hin htz hP hK hD hE hS hA ls hl
  have hts : ∀ w ∈ lw_all, w.before _ s = true := fun w h => htz w (zq_in h)
  have hl : lv_has ls 6 [(0, .ref o), (1, .ref q), (2, .int (nI 0)), (3, .int (nI n)), (4, .null)] := hl
  refine lv_aload_n hx hb dJ0_init_2_0 rfl (lv_at hl 0 rfl) ?_
  refine W.objInit hx hb hown (hts _ q135) (hts _ q25) (hts _ q26) rfl (by rw [hml]; exact hl.1) rfl dJ0_init_2_1 (Nat.le_of_ble_eq_true rfl) (Nat.le_of_ble_eq_true rfl) ?_
  refine W.eq (g2 := F0 m 4 ls []) rfl ?_
  refine lv_iload_n hx hb dJ0_init_2_4 rfl (lv_at hl 3 rfl) ?_
  refine sq_if_ne (tgt := 27) hx hb dJ0_init_2_5 (by decide) (by omega) (fun hc => ?_) (fun hc => by exfalso; omega)
  refine sq_gs (v := .int 1) 0 rfl hx hb hE hS hown (hts _ q58) (fun _ h9 => h9) dJ0_init_2_27 ?_
  refine lv_if_eq (tgt := 58) hx hb dJ0_init_2_30 (by decide) (fun hc => absurd hc (by decide)) (fun _ => ?_)
  refine lv_aload_n hx hb dJ0_init_2_33 rfl (lv_at hl 1 rfl) ?_
  refine lv_iload_n hx hb dJ0_init_2_34 rfl (lv_at hl 2 rfl) ?_
  refine lv_iload_n hx hb dJ0_init_2_35 rfl (lv_at hl 3 rfl) ?_
  refine sq_retr (wc := [(q, eN dH k t)]) (wr := [(o, .inr (0, [.null, .int 0, .int 0, .int 0]))]) hP hD hS hA [1] [0] rfl rfl (by decide) (by decide) (va_runS (As := [.ref q, .int (nI 0), .int (nI n)]) (rest := []) ⟨hx, hb, hml, hown, htz⟩ (mt_comp l s.heap.size q n k t hn hi hk ht) (va_cwS 3 htz (z_S q137 q138 q6 q139) rfl rfl rfl (by decide +kernel) ⟨(Nat.le_of_ble_eq_true rfl), (Nat.le_of_ble_eq_true rfl)⟩) (sq_preS (wc := [(q, eN dH k t)]) hP hD hK hE hS hA [1] rfl (by decide)) rfl rfl hl.1 rfl (lv_room (Nat.le_of_ble_eq_true rfl)) dJ0_init_2_36 ⟨(Nat.le_of_ble_eq_true rfl), (Nat.le_of_ble_eq_true rfl)⟩) (fun u d H locs _ hP hD hS => ?_)
  refine W.widen (k := 1) (n := 98) (Nat.le_refl _) (Nat.le_refl _) ?_
  have hP : va_P D sqCl [(o, .inr (0, [.null, .int 0, .int 0, .int 0])), (q, eN dH k t), (d, eB dB n t)] H := hP
  have hD : va_D A [(o, .inr (0, [.null, .int 0, .int 0, .int 0])), (q, eN dH k t), (d, eB dB n t)] := hD
  refine lv_astore (lv' := [(5, .ref d), (0, .ref o), (1, .ref q), (2, .int (nI 0)), (3, .int (nI n)), (4, .null)]) hx hb dJ0_init_2_39 hl (by decide) rfl (fun ls hl => ?_)
  refine lv_aload_n hx hb dJ0_init_2_41 rfl (lv_at hl 1 rfl) ?_
  refine lv_aload hx hb dJ0_init_2_42 (lv_at hl 0 rfl) ?_
  refine lv_iload_n hx hb dJ0_init_2_44 rfl (lv_at hl 4 rfl) ?_
  refine sq_reti (wc := [(d, eB dB n t)]) (wr := [(o, .inr (0, [.null, .int 0, .int 0, .int 0])), (q, eN dH k t)]) hP hD hS hA [2] [0, 1] rfl rfl (by decide) (by decide) (va_runS (As := [.ref d, .int (nI n)]) (rest := [.ref o]) ⟨hx, hb, hml, hown, htz⟩ (mt_coderLen l H.size d n t) (va_cwS 2 htz (z_S q163 q164 q6 q165) rfl rfl rfl (by decide +kernel) ⟨(Nat.le_of_ble_eq_true rfl), (Nat.le_of_ble_eq_true rfl)⟩) (sq_preS (wc := [(d, eB dB n t)]) hP hD hK hE hS hA [2] rfl (by decide)) rfl rfl hl.1 rfl (lv_room (Nat.le_of_ble_eq_true rfl)) dJ0_init_2_45 ⟨(Nat.le_of_ble_eq_true rfl), (Nat.le_of_ble_eq_true rfl)⟩) (fun r u H locs hw hP hD hS => ?_)
  rw [hw]
  have hP : va_P D sqCl [(o, .inr (0, [.null, .int 0, .int 0, .int 0])), (q, eN dH k t), (d, eB dB n t)] H := hP
  have hD : va_D A [(o, .inr (0, [.null, .int 0, .int 0, .int 0])), (q, eN dH k t), (d, eB dB n t)] := hD
  refine va_putF (D := D) (ci := 0) (v := .int 0) (ty := .byte) (C := RJ0) (T := TJ0) (N := 4) hx hb hts in_J0 tyJ0 tyJ0_ok nmJ0 hown hK hP hD hS 0 rfl rfl 1 (by decide) (hts _ q168) (fun _ h9 => h9) rfl hin rfl (by decide +kernel) rfl rfl (Nat.le_of_ble_eq_true rfl) dJ0_init_2_48 (fun H locs hP hD hS => ?_)
  have hP : va_P D sqCl [(o, .inr (0, [.null, .int 0, .int 0, .int 0])), (q, eN dH k t), (d, eB dB n t)] H := hP
  have hD : va_D A [(o, .inr (0, [.null, .int 0, .int 0, .int 0])), (q, eN dH k t), (d, eB dB n t)] := hD
  refine lv_aload_n hx hb dJ0_init_2_51 rfl (lv_at hl 1 rfl) ?_
  refine lv_aload hx hb dJ0_init_2_52 (lv_at hl 0 rfl) ?_
  refine va_putF (D := D) (ci := 0) (v := .ref d) (ty := .array .byte) (C := RJ0) (T := TJ0) (N := 4) hx hb hts in_J0 tyJ0 tyJ0_ok nmJ0 hown hK hP hD hS 0 rfl rfl 0 (by decide) (hts _ q167) (fun _ h9 => h9) rfl hin rfl (by decide +kernel) rfl rfl (Nat.le_of_ble_eq_true rfl) dJ0_init_2_54 (fun H locs hP hD hS => ?_)
  have hP : va_P D sqCl [(o, .inr (0, [.ref d, .int 0, .int 0, .int 0])), (q, eN dH k t), (d, eB dB n t)] H := hP
  have hD : va_D A [(o, .inr (0, [.ref d, .int 0, .int 0, .int 0])), (q, eN dH k t), (d, eB dB n t)] := hD
  exact sq_vret d hx hb hr hlocks (trivial) (hP.sub [0, 1, 2] rfl) (hD.sub [0, 1, 2] (by decide) rfl) hS dJ0_init_2_57
set_option maxHeartbeats 4000000 in
set_option maxRecDepth 100000 in
theorem mt_init1 (sz : Nat) (o q n k : Nat) (t : Nat → Nat) (h0 : 0 < n) (hn : n ≤ 98) (hi : n ≤ k) (hk : k < 2 ^ 31) (ht : ∀ j, t j < 256) : Met l yJ0_init (wz_ yJ0_init cJ0_init 4 none) ({ frames := 3, cells := 1, slots := 98, locals := 76 }) (sq_Pc D (sqT dB dH dN) ro ad b L xs [.ref o, .ref q, .int (nI 0), .int (nI n)] sz [(o, .inr (0, [.null, .int 0, .int 0, .int 0])), (q, eN dH k t)]) (va_Qv (fun (u : Nat) => True) (sq_B D (va_A [(o, .inr (0, [.null, .int 0, .int 0, .int 0])), (q, eN dH k t)] sz) (fun (u : Nat) => [(o, .inr (0, [.ref u, .int 0, .int 0, .int 0])), (q, eN dH k t), (u, eB dB n t)])) (va_A [(o, .inr (0, [.null, .int 0, .int 0, .int 0])), (q, eN dH k t)] sz)) 1 98 (va_A [(o, .inr (0, [.null, .int 0, .int 0, .int 0])), (q, eN dH k t)] sz) := by
  refine sq_met (fun A => va_Qv (fun (u : Nat) => True) (sq_B D A (fun (u : Nat) => [(o, .inr (0, [.ref u, .int 0, .int 0, .int 0])), (q, eN dH k t), (u, eB dB n t)])) A) (by decide) (Nat.le_of_ble_eq_true rfl) ?_
  intro p e s m below meth c A hx hb hr hlocks hml hown hin htz hP hK hD hE hS hA ls hl
  have hts : ∀ w ∈ lw_all, w.before _ s = true := fun w h => htz w (zq_in h)
  have hl : lv_has ls 4 [(0, .ref o), (1, .ref q), (2, .int (nI 0)), (3, .int (nI n))] := hl
  refine lv_aload_n hx hb dJ0_init_0 rfl (lv_at hl 0 rfl) ?_
  refine lv_aload_n hx hb dJ0_init_1 rfl (lv_at hl 1 rfl) ?_
  refine lv_iload_n hx hb dJ0_init_2 rfl (lv_at hl 2 rfl) ?_
  refine lv_iload_n hx hb dJ0_init_3 rfl (lv_at hl 3 rfl) ?_
  refine lv_aload_n hx hb dJ0_init_4 rfl (lv_at hl 1 rfl) ?_
  refine lv_iload_n hx hb dJ0_init_5 rfl (lv_at hl 2 rfl) ?_
  refine lv_iload_n hx hb dJ0_init_6 rfl (lv_at hl 3 rfl) ?_
  refine sq_retq (wc := [(q, eN dH k t)]) (wr := [(o, .inr (0, [.null, .int 0, .int 0, .int 0]))]) hP hD hS hA [1] [0] rfl rfl (by decide) (by decide) (va_runS (As := [.ref q, .int (nI 0), .int (nI n)]) (rest := [.int (nI n), .int (nI 0), .ref q, .ref o]) ⟨hx, hb, hml, hown, htz⟩ (mt_range l s.heap.size q n k t hi hk) (va_cwS 3 htz (z_S q123 q124 q3 q125) rfl rfl rfl (by decide +kernel) ⟨(Nat.le_of_ble_eq_true rfl), (Nat.le_of_ble_eq_true rfl)⟩) (sq_preS (wc := [(q, eN dH k t)]) hP hD hK hE hS hA [1] rfl (by decide)) rfl rfl hl.1 rfl (lv_room (Nat.le_of_ble_eq_true rfl)) dJ0_init_7 ⟨(Nat.le_of_ble_eq_true rfl), (Nat.le_of_ble_eq_true rfl)⟩) (fun r u H locs hw hP hD hS => ?_)
  rw [hw]
  have hP : va_P D sqCl [(o, .inr (0, [.null, .int 0, .int 0, .int 0])), (q, eN dH k t)] H := hP
  have hD : va_D A [(o, .inr (0, [.null, .int 0, .int 0, .int 0])), (q, eN dH k t)] := hD
  show W p l e _ s m _ below meth c H locs 0 0 _ (F0 m 10 ls [.null, .int (nI n), .int (nI 0), .ref q, .ref o])
  refine sq_retv (wc := [(o, .inr (0, [.null, .int 0, .int 0, .int 0])), (q, eN dH k t)]) (wr := []) hP hD hS hA [0, 1] [] rfl rfl (by decide) (by decide) (va_runI (As := [.ref q, .int (nI 0), .int (nI n), .null]) (rest := []) ⟨hx, hb, hml, hown, htz⟩ (mt_init2 l H.size o q n k t h0 hn hi hk ht) (cwI 4 htz (z_meth q134) rfl rfl rfl (hts _ q3) (hts _ q132) (hts _ q133) rfl (by decide +kernel) ⟨(Nat.le_of_ble_eq_true rfl), (Nat.le_of_ble_eq_true rfl)⟩) (sq_preS (wc := [(o, .inr (0, [.null, .int 0, .int 0, .int 0])), (q, eN dH k t)]) hP hD hK hE hS hA [0, 1] rfl (by decide)) rfl rfl hl.1 rfl (lv_room (Nat.le_of_ble_eq_true rfl)) dJ0_init_10 ⟨(Nat.le_of_ble_eq_true rfl), (Nat.le_of_ble_eq_true rfl)⟩) (fun u H locs _ hP hD hS => ?_)
  refine W.widen (k := 1) (n := 98) (Nat.le_refl _) (Nat.le_refl _) ?_
  obtain ⟨d, rfl⟩ : ∃ z, z = u := ⟨_, rfl⟩
  have hP : va_P D sqCl [(o, .inr (0, [.ref d, .int 0, .int 0, .int 0])), (q, eN dH k t), (d, eB dB n t)] H := hP
  have hD : va_D A [(o, .inr (0, [.ref d, .int 0, .int 0, .int 0])), (q, eN dH k t), (d, eB dB n t)] := hD
  exact sq_vret d hx hb hr hlocks (trivial) (hP.sub [0, 1, 2] rfl) (hD.sub [0, 1, 2] (by decide) rfl) hS dJ0_init_13
set_option maxHeartbeats 4000000 in
set_option maxRecDepth 100000 in
theorem mt_init3 (sz : Nat) (o q n : Nat) (t : Nat → Nat) (h0 : 0 < n) (hn : n ≤ 98) (ht : ∀ j, t j < 256) : Met l yJ0_init_3 (wz_ yJ0_init_3 cJ0_init_3 2 none) ({ frames := 3, cells := 1, slots := 98, locals := 76 }) (sq_Pc D (sqT dB dH dN) ro ad b L xs [.ref o, .ref q] sz [(o, .inr (0, [.null, .int 0, .int 0, .int 0])), (q, eN dH n t)]) (va_Qv (fun (u : Nat) => True) (sq_B D (va_A [(o, .inr (0, [.null, .int 0, .int 0, .int 0])), (q, eN dH n t)] sz) (fun (u : Nat) => [(o, .inr (0, [.ref u, .int 0, .int 0, .int 0])), (q, eN dH n t), (u, eB dB n t)])) (va_A [(o, .inr (0, [.null, .int 0, .int 0, .int 0])), (q, eN dH n t)] sz)) 1 98 (va_A [(o, .inr (0, [.null, .int 0, .int 0, .int 0])), (q, eN dH n t)] sz) := by
  refine sq_met (fun A => va_Qv (fun (u : Nat) => True) (sq_B D A (fun (u : Nat) => [(o, .inr (0, [.ref u, .int 0, .int 0, .int 0])), (q, eN dH n t), (u, eB dB n t)])) A) (by decide) (Nat.le_of_ble_eq_true rfl) ?_
  intro p e s m below meth c A hx hb hr hlocks hml hown hin htz hP hK hD hE hS hA ls hl
  have hts : ∀ w ∈ lw_all, w.before _ s = true := fun w h => htz w (zq_in h)
  have hl : lv_has ls 2 [(0, .ref o), (1, .ref q)] := hl
  refine lv_aload_n hx hb dJ0_init_3_0 rfl (lv_at hl 0 rfl) ?_
  refine lv_aload_n hx hb dJ0_init_3_1 rfl (lv_at hl 1 rfl) ?_
  refine lv_iconst (v := nI 0) hx hb dJ0_init_3_2 (by decide) ?_
  refine lv_aload_n hx hb dJ0_init_3_3 rfl (lv_at hl 1 rfl) ?_
  refine va_alen (v := nI n) hx hb hK hP 1 1 rfl rfl rfl dJ0_init_3_4 ?_
  refine lv_null hx hb dJ0_init_3_5 ?_
  refine sq_retv (wc := [(o, .inr (0, [.null, .int 0, .int 0, .int 0])), (q, eN dH n t)]) (wr := []) hP hD hS hA [0, 1] [] rfl rfl (by decide) (by decide) (va_runI (As := [.ref q, .int (nI 0), .int (nI n), .null]) (rest := []) ⟨hx, hb, hml, hown, htz⟩ (mt_init2 l s.heap.size o q n n t h0 hn (Nat.le_refl _) (by omega) ht) (cwI 4 htz (z_meth q134) rfl rfl rfl (hts _ q3) (hts _ q132) (hts _ q133) rfl (by decide +kernel) ⟨(Nat.le_of_ble_eq_true rfl), (Nat.le_of_ble_eq_true rfl)⟩) (sq_preS (wc := [(o, .inr (0, [.null, .int 0, .int 0, .int 0])), (q, eN dH n t)]) hP hD hK hE hS hA [0, 1] rfl (by decide)) rfl rfl hl.1 rfl (lv_room (Nat.le_of_ble_eq_true rfl)) dJ0_init_3_6 ⟨(Nat.le_of_ble_eq_true rfl), (Nat.le_of_ble_eq_true rfl)⟩) (fun u H locs _ hP hD hS => ?_)
  refine W.widen (k := 1) (n := 98) (Nat.le_refl _) (Nat.le_refl _) ?_
  obtain ⟨d, rfl⟩ : ∃ z, z = u := ⟨_, rfl⟩
  have hP : va_P D sqCl [(o, .inr (0, [.ref d, .int 0, .int 0, .int 0])), (q, eN dH n t), (d, eB dB n t)] H := hP
  have hD : va_D A [(o, .inr (0, [.ref d, .int 0, .int 0, .int 0])), (q, eN dH n t), (d, eB dB n t)] := hD
  exact sq_vret d hx hb hr hlocks (trivial) (hP.sub [0, 1, 2] rfl) (hD.sub [0, 1, 2] (by decide) rfl) hS dJ0_init_3_9
set_option maxHeartbeats 4000000 in
set_option maxRecDepth 100000 in
theorem mt_valueOf (sz : Nat) (q n : Nat) (t : Nat → Nat) (h0 : 0 < n) (hn : n ≤ 98) (ht : ∀ j, t j < 256) : Met l yJ0_valueOf (wz_ yJ0_valueOf cJ0_valueOf 1 (some (.object "java/lang/String"))) ({ frames := 4, cells := 2, slots := 102, locals := 97 }) (sq_Pc D (sqT dB dH dN) ro ad b L xs [.ref q] sz [(q, eN dH n t)]) (va_Qr (fun (u : Nat) => True) (sq_R D (va_A [(q, eN dH n t)] sz) (fun (u : Nat) (ra : Nat) => [(q, eN dH n t), (ra, .inr (0, [.ref u, .int 0, .int 0, .int 0])), (u, eB dB n t)])) (va_A [(q, eN dH n t)] sz)) 2 102 (va_A [(q, eN dH n t)] sz) := by
  refine sq_met (fun A => va_Qr (fun (u : Nat) => True) (sq_R D A (fun (u : Nat) (ra : Nat) => [(q, eN dH n t), (ra, .inr (0, [.ref u, .int 0, .int 0, .int 0])), (u, eB dB n t)])) A) (by decide) (Nat.le_of_ble_eq_true rfl) ?_
  intro p e s m below meth c A hx hb hr hlocks hml hown hin htz hP hK hD hE hS hA ls hl
  have hts : ∀ w ∈ lw_all, w.before _ s = true := fun w h => htz w (zq_in h)
  have hl : lv_has ls 1 [(0, .ref q)] := hl
  refine va_new (ci := 0) (fs := [.null, .int 0, .int 0, .int 0]) (C := RJ0) (T := TJ0) (N := 4) hx hb hts in_J0 tyJ0 tyJ0_ok hown (hts _ q459) (hts _ q117) (hts _ q3) hK hP hD hS hA rfl (fun j hj => by rcases (show j = 0 ∨ j = 1 ∨ j = 2 ∨ j = 3 by omega) with rfl | rfl | rfl | rfl <;> rfl) (Nat.le_of_ble_eq_true rfl) (Nat.le_of_ble_eq_true rfl) dJ0_valueOf_0 (fun o H hP hD hS => ?_)
  have hP : va_P D sqCl [(q, eN dH n t), (o, .inr (0, [.null, .int 0, .int 0, .int 0]))] H := hP
  have hD : va_D A [(q, eN dH n t), (o, .inr (0, [.null, .int 0, .int 0, .int 0]))] := hD
  refine W.widen (k := 1) (n := 4) (Nat.le_refl _) (Nat.le_refl _) ?_
  refine lv_dup hx hb dJ0_valueOf_3 rfl ?_
  refine lv_aload_n hx hb dJ0_valueOf_4 rfl (lv_at hl 0 rfl) ?_
  refine sq_retv (wc := [(o, .inr (0, [.null, .int 0, .int 0, .int 0])), (q, eN dH n t)]) (wr := []) hP hD hS hA [1, 0] [] rfl rfl (by decide) (by decide) (va_runI (As := [.ref q]) (rest := [.ref o]) ⟨hx, hb, hml, hown, htz⟩ (mt_init3 l H.size o q n t h0 hn ht) (cwI 1 htz (z_meth q462) rfl rfl rfl (hts _ q3) (hts _ q460) (hts _ q461) rfl (by decide +kernel) ⟨(Nat.le_of_ble_eq_true rfl), (Nat.le_of_ble_eq_true rfl)⟩) (sq_preS (wc := [(o, .inr (0, [.null, .int 0, .int 0, .int 0])), (q, eN dH n t)]) hP hD hK hE hS hA [1, 0] rfl (by decide)) rfl rfl hl.1 rfl (lv_room (Nat.le_of_ble_eq_true rfl)) dJ0_valueOf_5 ⟨(Nat.le_of_ble_eq_true rfl), (Nat.le_of_ble_eq_true rfl)⟩) (fun u H locs _ hP hD hS => ?_)
  refine W.widen (k := 2) (n := 102) (Nat.le_refl _) (Nat.le_refl _) ?_
  obtain ⟨d, rfl⟩ : ∃ z, z = u := ⟨_, rfl⟩
  have hP : va_P D sqCl [(o, .inr (0, [.ref d, .int 0, .int 0, .int 0])), (q, eN dH n t), (d, eB dB n t)] H := hP
  have hD : va_D A [(o, .inr (0, [.ref d, .int 0, .int 0, .int 0])), (q, eN dH n t), (d, eB dB n t)] := hD
  exact sq_aret d hx hb hr hlocks (Or.inl ⟨_, rfl⟩) (trivial) (hP.sub [1, 0, 2] rfl) (hD.sub [1, 0, 2] (by decide) rfl) hS dJ0_valueOf_8
end SQJ2
end
section
/-! JDK 3: StringBuilder with room enough -/
set_option maxRecDepth 100000
section SQJ3
variable (l : Launch) {D : va_G} {dB dH dN : ClassId} {ro : Option Nat} {ad : Nat → Nat} {b L : Nat} {xs : Nat → Int32}
set_option maxHeartbeats 4000000 in
set_option maxRecDepth 100000 in
theorem mt_asbInit (sz : Nat) (o n : Nat) (hn : n ≤ 98) : Met l yJ8_init (wz_ yJ8_init cJ8_init 2 none) ({ frames := 1, cells := 1, slots := 98, locals := 12 }) (sq_Pc D (sqT dB dH dN) ro ad b L xs [.ref o, .int (nI n)] sz [(o, .inr (1, [.null, .int 0, .int 0, .int 0]))]) (va_Qv (fun (u : Nat) => True) (sq_B D (va_A [(o, .inr (1, [.null, .int 0, .int 0, .int 0]))] sz) (fun (u : Nat) => [(o, .inr (1, [.ref u, .int 0, .int 0, .int (nI 0)])), (u, eB dB n (fun _ => 0))])) (va_A [(o, .inr (1, [.null, .int 0, .int 0, .int 0]))] sz)) 1 98 (va_A [(o, .inr (1, [.null, .int 0, .int 0, .int 0]))] sz) := by
  refine sq_met (fun A => va_Qv (fun (u : Nat) => True) (sq_B D A (fun (u : Nat) => [(o, .inr (1, [.ref u, .int 0, .int 0, .int (nI 0)])), (u, eB dB n (fun _ => 0))])) A) (by decide) (Nat.le_of_ble_eq_true rfl) ?_
  intro p e s m below meth c A hx hb hr hlocks hml hown hin htz hP hK hD hE hS hA ls hl
  have hts : ∀ w ∈ lw_all, w.before _ s = true := fun w h => htz w (zq_in h)
  have hl : lv_has ls 2 [(0, .ref o), (1, .int (nI n))] := hl
  refine lv_aload_n hx hb dJ8_init_0 rfl (lv_at hl 0 rfl) ?_
  refine W.objInit hx hb hown (hts _ q299) (hts _ q25) (hts _ q26) rfl (by rw [hml]; exact hl.1) rfl dJ8_init_1 (Nat.le_of_ble_eq_true rfl) (Nat.le_of_ble_eq_true rfl) ?_
  refine W.eq (g2 := F0 m 4 ls []) rfl ?_
  refine sq_gs (v := .int 1) 0 rfl hx hb hE hS hown (hts _ q300) (fun _ h9 => h9) dJ8_init_4 ?_
  refine lv_if_eq (tgt := 25) hx hb dJ8_init_7 (by decide) (fun hc => absurd hc (by decide)) (fun _ => ?_)
  refine lv_aload_n hx hb dJ8_init_10 rfl (lv_at hl 0 rfl) ?_
  refine lv_iload_n hx hb dJ8_init_11 rfl (lv_at hl 1 rfl) ?_
  refine sq_newB hx hb (hts _ q36) hK hP hD hS hA 1 98 (by omega) (by omega) (by omega) (Nat.le_of_ble_eq_true rfl) (Nat.le_of_ble_eq_true rfl) dJ8_init_12 (fun d H hP hD hS => ?_)
  have hP : va_P D sqCl [(o, .inr (1, [.null, .int 0, .int 0, .int 0])), (d, eB dB n (fun _ => 0))] H := hP
  have hD : va_D A [(o, .inr (1, [.null, .int 0, .int 0, .int 0])), (d, eB dB n (fun _ => 0))] := hD
  refine va_put (D := D) (ci := 1) (v := .ref d) (ty := .array .byte) (C := RJ9) (T := TJ9) (N := 4) hx hb hts in_J9 tyJ9 tyJ9_ok nmJ9 hown hK hP hD hS 0 rfl rfl 0 (by decide) (hts _ q302) (fun _ h9 => h9) rfl (by decide +kernel) rfl rfl (Nat.le_of_ble_eq_true rfl) dJ8_init_14 (fun H locs hP hD hS => ?_)
  have hP : va_P D sqCl [(o, .inr (1, [.ref d, .int 0, .int 0, .int 0])), (d, eB dB n (fun _ => 0))] H := hP
  have hD : va_D A [(o, .inr (1, [.ref d, .int 0, .int 0, .int 0])), (d, eB dB n (fun _ => 0))] := hD
  refine lv_aload_n hx hb dJ8_init_17 rfl (lv_at hl 0 rfl) ?_
  refine lv_iconst (v := 0) hx hb dJ8_init_18 (by decide) ?_
  refine va_put (D := D) (ci := 1) (v := .int 0) (ty := .byte) (C := RJ9) (T := TJ9) (N := 4) hx hb hts in_J9 tyJ9 tyJ9_ok nmJ9 hown hK hP hD hS 0 rfl rfl 1 (by decide) (hts _ q303) (fun _ h9 => h9) rfl (by decide +kernel) rfl rfl (Nat.le_of_ble_eq_true rfl) dJ8_init_19 (fun H locs hP hD hS => ?_)
  have hP : va_P D sqCl [(o, .inr (1, [.ref d, .int 0, .int 0, .int 0])), (d, eB dB n (fun _ => 0))] H := hP
  have hD : va_D A [(o, .inr (1, [.ref d, .int 0, .int 0, .int 0])), (d, eB dB n (fun _ => 0))] := hD
  refine lv_goto (tgt := 38) hx hb dJ8_init_22 (by decide) ?_
  exact sq_vret d hx hb hr hlocks (trivial) (hP.sub [0, 1] rfl) (hD.sub [0, 1] (by decide) rfl) hS dJ8_init_38
set_option maxHeartbeats 4000000 in
set_option maxRecDepth 100000 in
theorem mt_sbInit (sz : Nat) (o n : Nat) (hn : n ≤ 98) : Met l yJ9_init (wz_ yJ9_init cJ9_init 2 none) ({ frames := 2, cells := 1, slots := 98, locals := 33 }) (sq_Pc D (sqT dB dH dN) ro ad b L xs [.ref o, .int (nI n)] sz [(o, .inr (1, [.null, .int 0, .int 0, .int 0]))]) (va_Qv (fun (u : Nat) => True) (sq_B D (va_A [(o, .inr (1, [.null, .int 0, .int 0, .int 0]))] sz) (fun (u : Nat) => [(o, .inr (1, [.ref u, .int 0, .int 0, .int (nI 0)])), (u, eB dB n (fun _ => 0))])) (va_A [(o, .inr (1, [.null, .int 0, .int 0, .int 0]))] sz)) 1 98 (va_A [(o, .inr (1, [.null, .int 0, .int 0, .int 0]))] sz) := by
  refine sq_met (fun A => va_Qv (fun (u : Nat) => True) (sq_B D A (fun (u : Nat) => [(o, .inr (1, [.ref u, .int 0, .int 0, .int (nI 0)])), (u, eB dB n (fun _ => 0))])) A) (by decide) (Nat.le_of_ble_eq_true rfl) ?_
  intro p e s m below meth c A hx hb hr hlocks hml hown hin htz hP hK hD hE hS hA ls hl
  have hts : ∀ w ∈ lw_all, w.before _ s = true := fun w h => htz w (zq_in h)
  have hl : lv_has ls 2 [(0, .ref o), (1, .int (nI n))] := hl
  refine lv_aload_n hx hb dJ9_init_0 rfl (lv_at hl 0 rfl) ?_
  refine lv_iload_n hx hb dJ9_init_1 rfl (lv_at hl 1 rfl) ?_
  refine sq_retv (wc := [(o, .inr (1, [.null, .int 0, .int 0, .int 0]))]) (wr := []) hP hD hS hA [0] [] rfl rfl (by decide) (by decide) (va_runI (As := [.int (nI n)]) (rest := []) ⟨hx, hb, hml, hown, htz⟩ (mt_asbInit l s.heap.size o n hn) (cwI 1 htz (z_meth q298) rfl rfl rfl (hts _ q13) (hts _ q296) (hts _ q297) rfl (by decide +kernel) ⟨(Nat.le_of_ble_eq_true rfl), (Nat.le_of_ble_eq_true rfl)⟩) (sq_preS (wc := [(o, .inr (1, [.null, .int 0, .int 0, .int 0]))]) hP hD hK hE hS hA [0] rfl (by decide)) rfl rfl hl.1 rfl (lv_room (Nat.le_of_ble_eq_true rfl)) dJ9_init_2 ⟨(Nat.le_of_ble_eq_true rfl), (Nat.le_of_ble_eq_true rfl)⟩) (fun u H locs _ hP hD hS => ?_)
  refine W.widen (k := 1) (n := 98) (Nat.le_refl _) (Nat.le_refl _) ?_
  obtain ⟨d, rfl⟩ : ∃ z, z = u := ⟨_, rfl⟩
  have hP : va_P D sqCl [(o, .inr (1, [.ref d, .int 0, .int 0, .int (nI 0)])), (d, eB dB n (fun _ => 0))] H := hP
  have hD : va_D A [(o, .inr (1, [.ref d, .int 0, .int 0, .int (nI 0)])), (d, eB dB n (fun _ => 0))] := hD
  exact sq_vret d hx hb hr hlocks (trivial) (hP.sub [0, 1] rfl) (hD.sub [0, 1] (by decide) rfl) hS dJ9_init_5
set_option maxHeartbeats 4000000 in
set_option maxRecDepth 100000 in
theorem mt_asbLatin1 (sz : Nat) (o d k : Nat)  : Met l yJ8_isLatin1 (wz_ yJ8_isLatin1 cJ8_isLatin1 1 (some .boolean)) ({ frames := 0, cells := 0, slots := 0, locals := 0 }) (sq_Pc D (sqT dB dH dN) ro ad b L xs [.ref o] sz [(o, .inr (1, [.ref d, .int 0, .int 0, .int (nI k)]))]) (va_Qi (fun (r : Int32) (u : Unit) => r = nI 1) (sq_B D (va_A [(o, .inr (1, [.ref d, .int 0, .int 0, .int (nI k)]))] sz) (fun (u : Unit) => [(o, .inr (1, [.ref d, .int 0, .int 0, .int (nI k)]))])) (va_A [(o, .inr (1, [.ref d, .int 0, .int 0, .int (nI k)]))] sz)) 0 0 (va_A [(o, .inr (1, [.ref d, .int 0, .int 0, .int (nI k)]))] sz) := by
  refine sq_met (fun A => va_Qi (fun (r : Int32) (u : Unit) => r = nI 1) (sq_B D A (fun (u : Unit) => [(o, .inr (1, [.ref d, .int 0, .int 0, .int (nI k)]))])) A) (by decide) (Nat.le_of_ble_eq_true rfl) ?_
  intro p e s m below meth c A hx hb hr hlocks hml hown hin htz hP hK hD hE hS hA ls hl
  have hts : ∀ w ∈ lw_all, w.before _ s = true := fun w h => htz w (zq_in h)
  have hl : lv_has ls 1 [(0, .ref o)] := hl
  refine sq_gs (v := .int 1) 0 rfl hx hb hE hS hown (hts _ q300) (fun _ h9 => h9) dJ8_isLatin1_0 ?_
  refine lv_if_eq (tgt := 17) hx hb dJ8_isLatin1_3 (by decide) (fun hc => absurd hc (by decide)) (fun _ => ?_)
  refine lv_aload_n hx hb dJ8_isLatin1_6 rfl (lv_at hl 0 rfl) ?_
  refine va_get (D := D) (ci := 1) (v := .int 0) (C := RJ9) (T := TJ9) (N := 4) hx hb hts in_J9 hown hK hP 0 rfl rfl 1 (by decide) (hts _ q303) (fun _ h9 => h9) rfl dJ8_isLatin1_7 ?_
  refine lv_if_ne (tgt := 17) hx hb dJ8_isLatin1_10 (by decide) (fun hc => absurd rfl hc) (fun _ => ?_)
  refine lv_iconst (v := nI 1) hx hb dJ8_isLatin1_13 (by decide) ?_
  refine lv_goto (tgt := 18) hx hb dJ8_isLatin1_14 (by decide) ?_
  exact sq_iret () hx hb hr hlocks (by decide) (rfl) (hP.sub [0] rfl) (hD.sub [0] (by decide) rfl) hS dJ8_isLatin1_18
set_option maxHeartbeats 4000000 in
set_option maxRecDepth 100000 in
theorem mt_getValue (sz : Nat) (o d k : Nat)  : Met l yJ8_getValue (wz_ yJ8_getValue cJ8_getValue 1 (some (.array .byte))) ({ frames := 0, cells := 0, slots := 0, locals := 0 }) (sq_Pc D (sqT dB dH dN) ro ad b L xs [.ref o] sz [(o, .inr (1, [.ref d, .int 0, .int 0, .int (nI k)]))]) (va_Qr (fun (u : Unit) => True) (sq_X D (va_A [(o, .inr (1, [.ref d, .int 0, .int 0, .int (nI k)]))] sz) d (fun (u : Unit) => [(o, .inr (1, [.ref d, .int 0, .int 0, .int (nI k)]))])) (va_A [(o, .inr (1, [.ref d, .int 0, .int 0, .int (nI k)]))] sz)) 0 0 (va_A [(o, .inr (1, [.ref d, .int 0, .int 0, .int (nI k)]))] sz) := by
  refine sq_met (fun A => va_Qr (fun (u : Unit) => True) (sq_X D A d (fun (u : Unit) => [(o, .inr (1, [.ref d, .int 0, .int 0, .int (nI k)]))])) A) (by decide) (Nat.le_of_ble_eq_true rfl) ?_
  intro p e s m below meth c A hx hb hr hlocks hml hown hin htz hP hK hD hE hS hA ls hl
  have hts : ∀ w ∈ lw_all, w.before _ s = true := fun w h => htz w (zq_in h)
  have hl : lv_has ls 1 [(0, .ref o)] := hl
  refine lv_aload_n hx hb dJ8_getValue_0 rfl (lv_at hl 0 rfl) ?_
  refine va_get (D := D) (ci := 1) (v := .ref d) (C := RJ9) (T := TJ9) (N := 4) hx hb hts in_J9 hown hK hP 0 rfl rfl 0 (by decide) (hts _ q302) (fun _ h9 => h9) rfl dJ8_getValue_1 ?_
  exact sq_eret () hx hb hr hlocks (Or.inr ⟨_, rfl⟩) (trivial) (hP.sub [0] rfl) (hD.sub [0] (by decide) rfl) hS dJ8_getValue_4
set_option maxHeartbeats 4000000 in
set_option maxRecDepth 100000 in
theorem mt_asbLen (sz : Nat) (o d k : Nat)  : Met l yJ8_length (wz_ yJ8_length cJ8_length 1 (some .int)) ({ frames := 0, cells := 0, slots := 0, locals := 0 }) (sq_Pc D (sqT dB dH dN) ro ad b L xs [.ref o] sz [(o, .inr (1, [.ref d, .int 0, .int 0, .int (nI k)]))]) (va_Qi (fun (r : Int32) (u : Unit) => r = nI k) (sq_B D (va_A [(o, .inr (1, [.ref d, .int 0, .int 0, .int (nI k)]))] sz) (fun (u : Unit) => [(o, .inr (1, [.ref d, .int 0, .int 0, .int (nI k)]))])) (va_A [(o, .inr (1, [.ref d, .int 0, .int 0, .int (nI k)]))] sz)) 0 0 (va_A [(o, .inr (1, [.ref d, .int 0, .int 0, .int (nI k)]))] sz) := by
  refine sq_met (fun A => va_Qi (fun (r : Int32) (u : Unit) => r = nI k) (sq_B D A (fun (u : Unit) => [(o, .inr (1, [.ref d, .int 0, .int 0, .int (nI k)]))])) A) (by decide) (Nat.le_of_ble_eq_true rfl) ?_
  intro p e s m below meth c A hx hb hr hlocks hml hown hin htz hP hK hD hE hS hA ls hl
  have hts : ∀ w ∈ lw_all, w.before _ s = true := fun w h => htz w (zq_in h)
  have hl : lv_has ls 1 [(0, .ref o)] := hl
  refine lv_aload_n hx hb dJ8_length_0 rfl (lv_at hl 0 rfl) ?_
  refine va_get (D := D) (ci := 1) (v := .int (nI k)) (C := RJ9) (T := TJ9) (N := 4) hx hb hts in_J9 hown hK hP 0 rfl rfl 3 (by decide) (hts _ q306) (fun _ h9 => h9) rfl dJ8_length_1 ?_
  exact sq_iret () hx hb hr hlocks (rfl) (rfl) (hP.sub [0] rfl) (hD.sub [0] (by decide) rfl) hS dJ8_length_4
set_option maxHeartbeats 4000000 in
set_option maxRecDepth 100000 in
theorem mt_sbLen (sz : Nat) (o d k : Nat)  : Met l yJ9_length (wz_ yJ9_length cJ9_length 1 (some .int)) ({ frames := 1, cells := 0, slots := 0, locals := 20 }) (sq_Pc D (sqT dB dH dN) ro ad b L xs [.ref o] sz [(o, .inr (1, [.ref d, .int 0, .int 0, .int (nI k)]))]) (va_Qi (fun (r : Int32) (u : Unit) => r = nI k) (sq_B D (va_A [(o, .inr (1, [.ref d, .int 0, .int 0, .int (nI k)]))] sz) (fun (u : Unit) => [(o, .inr (1, [.ref d, .int 0, .int 0, .int (nI k)]))])) (va_A [(o, .inr (1, [.ref d, .int 0, .int 0, .int (nI k)]))] sz)) 0 0 (va_A [(o, .inr (1, [.ref d, .int 0, .int 0, .int (nI k)]))] sz) := by
  refine sq_met (fun A => va_Qi (fun (r : Int32) (u : Unit) => r = nI k) (sq_B D A (fun (u : Unit) => [(o, .inr (1, [.ref d, .int 0, .int 0, .int (nI k)]))])) A) (by decide) (Nat.le_of_ble_eq_true rfl) ?_
  intro p e s m below meth c A hx hb hr hlocks hml hown hin htz hP hK hD hE hS hA ls hl
  have hts : ∀ w ∈ lw_all, w.before _ s = true := fun w h => htz w (zq_in h)
  have hl : lv_has ls 1 [(0, .ref o)] := hl
  refine lv_aload_n hx hb dJ9_length_0 rfl (lv_at hl 0 rfl) ?_
  refine sq_reti (wc := [(o, .inr (1, [.ref d, .int 0, .int 0, .int (nI k)]))]) (wr := []) hP hD hS hA [0] [] rfl rfl (by decide) (by decide) (va_runSU (As := []) (rest := []) (hK.1 1 _ rfl).2 ⟨hx, hb, hml, hown, htz⟩ (mt_asbLen l s.heap.size o d k) (va_cwSU 0 htz (z_SU q431 q565 q315 q432 q13 q433) rfl rfl rfl (by decide +kernel) ⟨(Nat.le_of_ble_eq_true rfl), (Nat.le_of_ble_eq_true rfl)⟩) (sq_preV (wc := [(o, .inr (1, [.ref d, .int 0, .int 0, .int (nI k)]))]) (va_recv hK hP (ci := 1) (q0 := 0) rfl rfl) hP hD hK hE hS hA [0] rfl (by decide)) rfl rfl hl.1 rfl (lv_room (Nat.le_of_ble_eq_true rfl)) dJ9_length_1 ⟨(Nat.le_of_ble_eq_true rfl), (Nat.le_of_ble_eq_true rfl)⟩) (fun r u H locs hw hP hD hS => ?_)
  rw [hw]
  have hP : va_P D sqCl [(o, .inr (1, [.ref d, .int 0, .int 0, .int (nI k)]))] H := hP
  have hD : va_D A [(o, .inr (1, [.ref d, .int 0, .int 0, .int (nI k)]))] := hD
  exact sq_iret () hx hb hr hlocks (rfl) (rfl) (hP.sub [0] rfl) (hD.sub [0] (by decide) rfl) hS dJ9_length_4
set_option maxHeartbeats 4000000 in
set_option maxRecDepth 100000 in
theorem mt_ensure (sz : Nat) (o d k N x : Nat) (f : Nat → Nat) (h1 : x ≤ N) (h2 : N ≤ 98) : Met l yJ8_ensureCapacityInternal (wz_ yJ8_ensureCapacityInternal cJ8_ensureCapacityInternal 3 none) ({ frames := 0, cells := 0, slots := 0, locals := 0 }) (sq_Pc D (sqT dB dH dN) ro ad b L xs [.ref o, .int (nI x)] sz [(o, .inr (1, [.ref d, .int 0, .int 0, .int (nI k)])), (d, eB dB N f)]) (va_Qv (fun (u : Unit) => True) (sq_B D (va_A [(o, .inr (1, [.ref d, .int 0, .int 0, .int (nI k)])), (d, eB dB N f)] sz) (fun (u : Unit) => [(o, .inr (1, [.ref d, .int 0, .int 0, .int (nI k)])), (d, eB dB N f)])) (va_A [(o, .inr (1, [.ref d, .int 0, .int 0, .int (nI k)])), (d, eB dB N f)] sz)) 0 0 (va_A [(o, .inr (1, [.ref d, .int 0, .int 0, .int (nI k)])), (d, eB dB N f)] sz) := by
  refine sq_met (fun A => va_Qv (fun (u : Unit) => True) (sq_B D A (fun (u : Unit) => [(o, .inr (1, [.ref d, .int 0, .int 0, .int (nI k)])), (d, eB dB N f)])) A) (by decide) (Nat.le_of_ble_eq_true rfl) ?_
  intro p e s m below meth c A hx hb hr hlocks hml hown hin htz hP hK hD hE hS hA ls hl
  have hts : ∀ w ∈ lw_all, w.before _ s = true := fun w h => htz w (zq_in h)
  have hl : lv_has ls 3 [(0, .ref o), (1, .int (nI x))] := hl
  refine lv_aload_n hx hb dJ8_ensureCapacityInternal_0 rfl (lv_at hl 0 rfl) ?_
  refine va_get (D := D) (ci := 1) (v := .ref d) (C := RJ9) (T := TJ9) (N := 4) hx hb hts in_J9 hown hK hP 0 rfl rfl 0 (by decide) (hts _ q302) (fun _ h9 => h9) rfl dJ8_ensureCapacityInternal_1 ?_
  refine va_alen (v := nI N) hx hb hK hP 1 0 rfl rfl rfl dJ8_ensureCapacityInternal_4 ?_
  refine lv_aload_n hx hb dJ8_ensureCapacityInternal_5 rfl (lv_at hl 0 rfl) ?_
  refine va_get (D := D) (ci := 1) (v := .int 0) (C := RJ9) (T := TJ9) (N := 4) hx hb hts in_J9 hown hK hP 0 rfl rfl 1 (by decide) (hts _ q303) (fun _ h9 => h9) rfl dJ8_ensureCapacityInternal_6 ?_
  refine sq_sh0 hx hb dJ8_ensureCapacityInternal_9 ?_
  refine lv_istore_n (lv' := [(2, .int (nI N)), (0, .ref o), (1, .int (nI x))]) hx hb dJ8_ensureCapacityInternal_10 rfl hl (by decide) rfl (fun ls hl => ?_)
  refine lv_iload_n hx hb dJ8_ensureCapacityInternal_11 rfl (lv_at hl 2 rfl) ?_
  refine lv_iload_n hx hb dJ8_ensureCapacityInternal_12 rfl (lv_at hl 0 rfl) ?_
  refine lv_isub hx hb dJ8_ensureCapacityInternal_13 ?_
  refine lv_if_le (tgt := 38) hx hb dJ8_ensureCapacityInternal_14 (by decide) (fun _ => ?_) (fun hc => absurd (by rw [Int32.le_iff_toInt_le, pk_sub_toInt (by omega) (by omega), Int32.toInt_zero]; omega) hc)
  exact sq_vret () hx hb hr hlocks (trivial) (hP.sub [0, 1] rfl) (hD.sub [0, 1] (by decide) rfl) hS dJ8_ensureCapacityInternal_38
set_option maxHeartbeats 4000000 in
set_option maxRecDepth 100000 in
theorem mt_inflIf (sz : Nat) (o d k q v n : Nat) (t : Nat → Nat)  : Met l yJ8_inflateIfNeededFor (wz_ yJ8_inflateIfNeededFor cJ8_inflateIfNeededFor 2 none) ({ frames := 1, cells := 0, slots := 0, locals := 20 }) (sq_Pc D (sqT dB dH dN) ro ad b L xs [.ref o, .ref q] sz [(o, .inr (1, [.ref d, .int 0, .int 0, .int (nI k)])), (q, .inr (0, [.ref v, .int 0, .int 0, .int 0])), (v, eB dB n t)]) (va_Qv (fun (u : Unit) => True) (sq_B D (va_A [(o, .inr (1, [.ref d, .int 0, .int 0, .int (nI k)])), (q, .inr (0, [.ref v, .int 0, .int 0, .int 0])), (v, eB dB n t)] sz) (fun (u : Unit) => [(o, .inr (1, [.ref d, .int 0, .int 0, .int (nI k)])), (q, .inr (0, [.ref v, .int 0, .int 0, .int 0])), (v, eB dB n t)])) (va_A [(o, .inr (1, [.ref d, .int 0, .int 0, .int (nI k)])), (q, .inr (0, [.ref v, .int 0, .int 0, .int 0])), (v, eB dB n t)] sz)) 0 0 (va_A [(o, .inr (1, [.ref d, .int 0, .int 0, .int (nI k)])), (q, .inr (0, [.ref v, .int 0, .int 0, .int 0])), (v, eB dB n t)] sz) := by
  refine sq_met (fun A => va_Qv (fun (u : Unit) => True) (sq_B D A (fun (u : Unit) => [(o, .inr (1, [.ref d, .int 0, .int 0, .int (nI k)])), (q, .inr (0, [.ref v, .int 0, .int 0, .int 0])), (v, eB dB n t)])) A) (by decide) (Nat.le_of_ble_eq_true rfl) ?_
  intro p e s m below meth c A hx hb hr hlocks hml hown hin htz hP hK hD hE hS hA ls hl
  have hts : ∀ w ∈ lw_all, w.before _ s = true := fun w h => htz w (zq_in h)
  have hl : lv_has ls 2 [(0, .ref o), (1, .ref q)] := hl
  refine sq_gs (v := .int 1) 0 rfl hx hb hE hS hown (hts _ q300) (fun _ h9 => h9) dJ8_inflateIfNeededFor_0 ?_
  refine lv_if_eq (tgt := 21) hx hb dJ8_inflateIfNeededFor_3 (by decide) (fun hc => absurd hc (by decide)) (fun _ => ?_)
  refine lv_aload_n hx hb dJ8_inflateIfNeededFor_6 rfl (lv_at hl 0 rfl) ?_
  refine va_get (D := D) (ci := 1) (v := .int 0) (C := RJ9) (T := TJ9) (N := 4) hx hb hts in_J9 hown hK hP 0 rfl rfl 1 (by decide) (hts _ q303) (fun _ h9 => h9) rfl dJ8_inflateIfNeededFor_7 ?_
  refine lv_aload_n hx hb dJ8_inflateIfNeededFor_10 rfl (lv_at hl 1 rfl) ?_
  refine sq_reti (wc := [(q, .inr (0, [.ref v, .int 0, .int 0, .int 0])), (v, eB dB n t)]) (wr := [(o, .inr (1, [.ref d, .int 0, .int 0, .int (nI k)]))]) hP hD hS hA [1, 2] [0] rfl rfl (by decide) (by decide) (va_runV (As := []) (rest := [.int 0]) ⟨hx, hb, hml, hown, htz⟩ (mt_coder l s.heap.size q v n t) (cwV 0 htz (z_V q388 q55 q56 q3 q57) rfl rfl rfl (by decide +kernel) ⟨(Nat.le_of_ble_eq_true rfl), (Nat.le_of_ble_eq_true rfl)⟩) (sq_preV (wc := [(q, .inr (0, [.ref v, .int 0, .int 0, .int 0])), (v, eB dB n t)]) (va_recv hK hP (ci := 0) (q0 := 1) rfl rfl) hP hD hK hE hS hA [1, 2] rfl (by decide)) rfl rfl hl.1 rfl (lv_room (Nat.le_of_ble_eq_true rfl)) dJ8_inflateIfNeededFor_11 ⟨(Nat.le_of_ble_eq_true rfl), (Nat.le_of_ble_eq_true rfl)⟩) (fun r u H locs hw hP hD hS => ?_)
  rw [hw]
  have hP : va_P D sqCl [(o, .inr (1, [.ref d, .int 0, .int 0, .int (nI k)])), (q, .inr (0, [.ref v, .int 0, .int 0, .int 0])), (v, eB dB n t)] H := hP
  have hD : va_D A [(o, .inr (1, [.ref d, .int 0, .int 0, .int (nI k)])), (q, .inr (0, [.ref v, .int 0, .int 0, .int 0])), (v, eB dB n t)] := hD
  refine lv_icmp_eq (tgt := 21) hx hb dJ8_inflateIfNeededFor_14 (by decide) (fun _ => ?_) (fun hc => absurd rfl hc)
  exact sq_vret () hx hb hr hlocks (trivial) (hP.sub [0, 1, 2] rfl) (hD.sub [0, 1, 2] (by decide) rfl) hS dJ8_inflateIfNeededFor_21
set_option maxHeartbeats 4000000 in
set_option maxRecDepth 100000 in
theorem mt_getBytes (sz : Nat) (q v n d N k : Nat) (t f : Nat → Nat) (h1 : k + n ≤ N) (h2 : N ≤ 98) : Met l yJ0_getBytes (wz_ yJ0_getBytes cJ0_getBytes 4 none) ({ frames := 1, cells := 0, slots := 0, locals := 40 }) (sq_Pc D (sqT dB dH dN) ro ad b L xs [.ref q, .ref d, .int (nI k), .int 0] sz [(q, .inr (0, [.ref v, .int 0, .int 0, .int 0])), (v, eB dB n t), (d, eB dB N f)]) (va_Qv (fun (u : Unit) => True) (sq_B D (va_A [(q, .inr (0, [.ref v, .int 0, .int 0, .int 0])), (v, eB dB n t), (d, eB dB N f)] sz) (fun (u : Unit) => [(q, .inr (0, [.ref v, .int 0, .int 0, .int 0])), (v, eB dB n t), (d, eB dB N (zp k n t f))])) (va_A [(q, .inr (0, [.ref v, .int 0, .int 0, .int 0])), (v, eB dB n t), (d, eB dB N f)] sz)) 0 0 (va_A [(q, .inr (0, [.ref v, .int 0, .int 0, .int 0])), (v, eB dB n t), (d, eB dB N f)] sz) := by
  refine sq_met (fun A => va_Qv (fun (u : Unit) => True) (sq_B D A (fun (u : Unit) => [(q, .inr (0, [.ref v, .int 0, .int 0, .int 0])), (v, eB dB n t), (d, eB dB N (zp k n t f))])) A) (by decide) (Nat.le_of_ble_eq_true rfl) ?_
  intro p e s m below meth c A hx hb hr hlocks hml hown hin htz hP hK hD hE hS hA ls hl
  have hts : ∀ w ∈ lw_all, w.before _ s = true := fun w h => htz w (zq_in h)
  have hl : lv_has ls 4 [(0, .ref q), (1, .ref d), (2, .int (nI k)), (3, .int 0)] := hl
  refine lv_aload_n hx hb dJ0_getBytes_0 rfl (lv_at hl 0 rfl) ?_
  refine sq_reti (wc := [(q, .inr (0, [.ref v, .int 0, .int 0, .int 0])), (v, eB dB n t)]) (wr := [(d, eB dB N f)]) hP hD hS hA [0, 1] [2] rfl rfl (by decide) (by decide) (va_runV (As := []) (rest := []) ⟨hx, hb, hml, hown, htz⟩ (mt_coder l s.heap.size q v n t) (cwV 0 htz (z_V q54 q55 q56 q3 q57) rfl rfl rfl (by decide +kernel) ⟨(Nat.le_of_ble_eq_true rfl), (Nat.le_of_ble_eq_true rfl)⟩) (sq_preV (wc := [(q, .inr (0, [.ref v, .int 0, .int 0, .int 0])), (v, eB dB n t)]) (va_recv hK hP (ci := 0) (q0 := 0) rfl rfl) hP hD hK hE hS hA [0, 1] rfl (by decide)) rfl rfl hl.1 rfl (lv_room (Nat.le_of_ble_eq_true rfl)) dJ0_getBytes_1 ⟨(Nat.le_of_ble_eq_true rfl), (Nat.le_of_ble_eq_true rfl)⟩) (fun r u H locs hw hP hD hS => ?_)
  rw [hw]
  have hP : va_P D sqCl [(d, eB dB N f), (q, .inr (0, [.ref v, .int 0, .int 0, .int 0])), (v, eB dB n t)] H := hP
  have hD : va_D A [(d, eB dB N f), (q, .inr (0, [.ref v, .int 0, .int 0, .int 0])), (v, eB dB n t)] := hD
  refine lv_iload_n hx hb dJ0_getBytes_4 rfl (lv_at hl 3 rfl) ?_
  refine lv_icmp_ne (tgt := 28) hx hb dJ0_getBytes_5 (by decide) (fun hc => absurd rfl hc) (fun _ => ?_)
  refine lv_aload_n hx hb dJ0_getBytes_8 rfl (lv_at hl 0 rfl) ?_
  refine va_get (D := D) (ci := 0) (v := .ref v) (C := RJ0) (T := TJ0) (N := 4) hx hb hts in_J0 hown hK hP 1 rfl rfl 0 (by decide) (hts _ q167) (fun _ h9 => h9) rfl dJ0_getBytes_9 ?_
  refine lv_iconst (v := nI 0) hx hb dJ0_getBytes_12 (by decide) ?_
  refine lv_aload_n hx hb dJ0_getBytes_13 rfl (lv_at hl 1 rfl) ?_
  refine lv_iload_n hx hb dJ0_getBytes_14 rfl (lv_at hl 2 rfl) ?_
  refine lv_iload_n hx hb dJ0_getBytes_15 rfl (lv_at hl 3 rfl) ?_
  refine lv_ishl hx hb dJ0_getBytes_16 (sq_top (sb_shl0 _) ?_)
  refine lv_aload_n hx hb dJ0_getBytes_17 rfl (lv_at hl 0 rfl) ?_
  refine va_get (D := D) (ci := 0) (v := .ref v) (C := RJ0) (T := TJ0) (N := 4) hx hb hts in_J0 hown hK hP 1 rfl rfl 0 (by decide) (hts _ q167) (fun _ h9 => h9) rfl dJ0_getBytes_18 ?_
  refine va_alen (v := nI n) hx hb hK hP 2 0 rfl rfl rfl dJ0_getBytes_21 ?_
  refine sq_copy hx hb (hml.trans hl.1.symm) hown (hts _ q403) (hts _ q361) (hts _ q360) (hts _ q18) hK hP hD hS 2 0 rfl rfl h1 (by omega) (Nat.le_of_ble_eq_true rfl) (Nat.le_of_ble_eq_true rfl) dJ0_getBytes_22 (fun H locs hP hD hS => ?_)
  have hP : va_P D sqCl [(d, eB dB N (zp k n t f)), (q, .inr (0, [.ref v, .int 0, .int 0, .int 0])), (v, eB dB n t)] H := hP
  have hD : va_D A [(d, eB dB N (zp k n t f)), (q, .inr (0, [.ref v, .int 0, .int 0, .int 0])), (v, eB dB n t)] := hD
  refine lv_goto (tgt := 43) hx hb dJ0_getBytes_25 (by decide) ?_
  exact sq_vret () hx hb hr hlocks (trivial) (hP.sub [1, 2, 0] rfl) (hD.sub [1, 2, 0] (by decide) rfl) hS dJ0_getBytes_43
set_option maxHeartbeats 4000000 in
set_option maxRecDepth 100000 in
theorem mt_putAt (sz : Nat) (o d z q v n N k : Nat) (t f : Nat → Nat) (h1 : k + n ≤ N) (h2 : N ≤ 98) : Met l yJ8_putStringAt (wz_ yJ8_putStringAt cJ8_putStringAt 3 none) ({ frames := 2, cells := 0, slots := 0, locals := 63 }) (sq_Pc D (sqT dB dH dN) ro ad b L xs [.ref o, .int (nI k), .ref q] sz [(o, .inr (1, [.ref d, .int 0, .int 0, .int (nI z)])), (q, .inr (0, [.ref v, .int 0, .int 0, .int 0])), (v, eB dB n t), (d, eB dB N f)]) (va_Qv (fun (u : Unit) => True) (sq_B D (va_A [(o, .inr (1, [.ref d, .int 0, .int 0, .int (nI z)])), (q, .inr (0, [.ref v, .int 0, .int 0, .int 0])), (v, eB dB n t), (d, eB dB N f)] sz) (fun (u : Unit) => [(o, .inr (1, [.ref d, .int 0, .int 0, .int (nI z)])), (q, .inr (0, [.ref v, .int 0, .int 0, .int 0])), (v, eB dB n t), (d, eB dB N (zp k n t f))])) (va_A [(o, .inr (1, [.ref d, .int 0, .int 0, .int (nI z)])), (q, .inr (0, [.ref v, .int 0, .int 0, .int 0])), (v, eB dB n t), (d, eB dB N f)] sz)) 0 0 (va_A [(o, .inr (1, [.ref d, .int 0, .int 0, .int (nI z)])), (q, .inr (0, [.ref v, .int 0, .int 0, .int 0])), (v, eB dB n t), (d, eB dB N f)] sz) := by
  refine sq_met (fun A => va_Qv (fun (u : Unit) => True) (sq_B D A (fun (u : Unit) => [(o, .inr (1, [.ref d, .int 0, .int 0, .int (nI z)])), (q, .inr (0, [.ref v, .int 0, .int 0, .int 0])), (v, eB dB n t), (d, eB dB N (zp k n t f))])) A) (by decide) (Nat.le_of_ble_eq_true rfl) ?_
  intro p e s m below meth c A hx hb hr hlocks hml hown hin htz hP hK hD hE hS hA ls hl
  have hts : ∀ w ∈ lw_all, w.before _ s = true := fun w h => htz w (zq_in h)
  have hl : lv_has ls 3 [(0, .ref o), (1, .int (nI k)), (2, .ref q)] := hl
  refine lv_aload_n hx hb dJ8_putStringAt_0 rfl (lv_at hl 0 rfl) ?_
  refine lv_aload_n hx hb dJ8_putStringAt_1 rfl (lv_at hl 2 rfl) ?_
  refine sq_retv (wc := [(o, .inr (1, [.ref d, .int 0, .int 0, .int (nI z)])), (q, .inr (0, [.ref v, .int 0, .int 0, .int 0])), (v, eB dB n t)]) (wr := [(d, eB dB N f)]) hP hD hS hA [0, 1, 2] [3] rfl rfl (by decide) (by decide) (va_runU (As := [.ref q]) (rest := []) ⟨hx, hb, hml, hown, htz⟩ (mt_inflIf l s.heap.size o d z q v n t) (va_cwU (owner := RJ8) (x := yJ8_inflateIfNeededFor) 1 htz (z_U q384 q563 zq_s2 q386 q13 q387) rfl rfl rfl rfl (by decide +kernel) ⟨(Nat.le_of_ble_eq_true rfl), (Nat.le_of_ble_eq_true rfl)⟩) (sq_preV (wc := [(o, .inr (1, [.ref d, .int 0, .int 0, .int (nI z)])), (q, .inr (0, [.ref v, .int 0, .int 0, .int 0])), (v, eB dB n t)]) (va_recv hK hP (ci := 1) (q0 := 0) rfl rfl) hP hD hK hE hS hA [0, 1, 2] rfl (by decide)) rfl rfl hl.1 rfl (lv_room (Nat.le_of_ble_eq_true rfl)) dJ8_putStringAt_2 ⟨(Nat.le_of_ble_eq_true rfl), (Nat.le_of_ble_eq_true rfl)⟩) (fun u H locs _ hP hD hS => ?_)
  have hP : va_P D sqCl [(d, eB dB N f), (o, .inr (1, [.ref d, .int 0, .int 0, .int (nI z)])), (q, .inr (0, [.ref v, .int 0, .int 0, .int 0])), (v, eB dB n t)] H := hP
  have hD : va_D A [(d, eB dB N f), (o, .inr (1, [.ref d, .int 0, .int 0, .int (nI z)])), (q, .inr (0, [.ref v, .int 0, .int 0, .int 0])), (v, eB dB n t)] := hD
  refine lv_aload_n hx hb dJ8_putStringAt_5 rfl (lv_at hl 2 rfl) ?_
  refine lv_aload_n hx hb dJ8_putStringAt_6 rfl (lv_at hl 0 rfl) ?_
  refine va_get (D := D) (ci := 1) (v := .ref d) (C := RJ9) (T := TJ9) (N := 4) hx hb hts in_J9 hown hK hP 1 rfl rfl 0 (by decide) (hts _ q302) (fun _ h9 => h9) rfl dJ8_putStringAt_7 ?_
  refine lv_iload_n hx hb dJ8_putStringAt_10 rfl (lv_at hl 1 rfl) ?_
  refine lv_aload_n hx hb dJ8_putStringAt_11 rfl (lv_at hl 0 rfl) ?_
  refine va_get (D := D) (ci := 1) (v := .int 0) (C := RJ9) (T := TJ9) (N := 4) hx hb hts in_J9 hown hK hP 1 rfl rfl 1 (by decide) (hts _ q303) (fun _ h9 => h9) rfl dJ8_putStringAt_12 ?_
  refine sq_retv (wc := [(q, .inr (0, [.ref v, .int 0, .int 0, .int 0])), (v, eB dB n t), (d, eB dB N f)]) (wr := [(o, .inr (1, [.ref d, .int 0, .int 0, .int (nI z)]))]) hP hD hS hA [2, 3, 0] [1] rfl rfl (by decide) (by decide) (va_runV (As := [.ref d, .int (nI k), .int 0]) (rest := []) ⟨hx, hb, hml, hown, htz⟩ (mt_getBytes l H.size q v n d N k t f h1 h2) (cwV 3 htz (z_V q399 q400 q401 q3 q402) rfl rfl rfl (by decide +kernel) ⟨(Nat.le_of_ble_eq_true rfl), (Nat.le_of_ble_eq_true rfl)⟩) (sq_preV (wc := [(q, .inr (0, [.ref v, .int 0, .int 0, .int 0])), (v, eB dB n t), (d, eB dB N f)]) (va_recv hK hP (ci := 0) (q0 := 2) rfl rfl) hP hD hK hE hS hA [2, 3, 0] rfl (by decide)) rfl rfl hl.1 rfl (lv_room (Nat.le_of_ble_eq_true rfl)) dJ8_putStringAt_15 ⟨(Nat.le_of_ble_eq_true rfl), (Nat.le_of_ble_eq_true rfl)⟩) (fun u H locs _ hP hD hS => ?_)
  have hP : va_P D sqCl [(o, .inr (1, [.ref d, .int 0, .int 0, .int (nI z)])), (q, .inr (0, [.ref v, .int 0, .int 0, .int 0])), (v, eB dB n t), (d, eB dB N (zp k n t f))] H := hP
  have hD : va_D A [(o, .inr (1, [.ref d, .int 0, .int 0, .int (nI z)])), (q, .inr (0, [.ref v, .int 0, .int 0, .int 0])), (v, eB dB n t), (d, eB dB N (zp k n t f))] := hD
  exact sq_vret () hx hb hr hlocks (trivial) (hP.sub [0, 1, 2, 3] rfl) (hD.sub [0, 1, 2, 3] (by decide) rfl) hS dJ8_putStringAt_18
set_option maxHeartbeats 4000000 in
set_option maxRecDepth 100000 in
theorem mt_asbAppend (sz : Nat) (o d q v n N k : Nat) (t f : Nat → Nat) (h1 : k + n ≤ N) (h2 : N ≤ 98) : Met l yJ8_append (wz_ yJ8_append cJ8_append 3 (some (.object "java/lang/AbstractStringBuilder"))) ({ frames := 3, cells := 0, slots := 0, locals := 85 }) (sq_Pc D (sqT dB dH dN) ro ad b L xs [.ref o, .ref q] sz [(o, .inr (1, [.ref d, .int 0, .int 0, .int (nI k)])), (q, .inr (0, [.ref v, .int 0, .int 0, .int 0])), (v, eB dB n t), (d, eB dB N f)]) (va_Qr (fun (u : Unit) => True) (sq_R D (va_A [(o, .inr (1, [.ref d, .int 0, .int 0, .int (nI k)])), (q, .inr (0, [.ref v, .int 0, .int 0, .int 0])), (v, eB dB n t), (d, eB dB N f)] sz) (fun (u : Unit) (ra : Nat) => [(o, .inr (1, [.ref d, .int 0, .int 0, .int (nI (k + n))])), (q, .inr (0, [.ref v, .int 0, .int 0, .int 0])), (v, eB dB n t), (d, eB dB N (zp k n t f))])) (va_A [(o, .inr (1, [.ref d, .int 0, .int 0, .int (nI k)])), (q, .inr (0, [.ref v, .int 0, .int 0, .int 0])), (v, eB dB n t), (d, eB dB N f)] sz)) 0 0 (va_A [(o, .inr (1, [.ref d, .int 0, .int 0, .int (nI k)])), (q, .inr (0, [.ref v, .int 0, .int 0, .int 0])), (v, eB dB n t), (d, eB dB N f)] sz) := by
  refine sq_met (fun A => va_Qr (fun (u : Unit) => True) (sq_R D A (fun (u : Unit) (ra : Nat) => [(o, .inr (1, [.ref d, .int 0, .int 0, .int (nI (k + n))])), (q, .inr (0, [.ref v, .int 0, .int 0, .int 0])), (v, eB dB n t), (d, eB dB N (zp k n t f))])) A) (by decide) (Nat.le_of_ble_eq_true rfl) ?_
  intro p e s m below meth c A hx hb hr hlocks hml hown hin htz hP hK hD hE hS hA ls hl
  have hts : ∀ w ∈ lw_all, w.before _ s = true := fun w h => htz w (zq_in h)
  have hl : lv_has ls 3 [(0, .ref o), (1, .ref q)] := hl
  refine lv_aload_n hx hb dJ8_append_0 rfl (lv_at hl 1 rfl) ?_
  refine lv_ifnonnull (tgt := 9) hx hb dJ8_append_1 (by decide) ?_
  refine lv_aload_n hx hb dJ8_append_9 rfl (lv_at hl 1 rfl) ?_
  refine sq_reti (wc := [(q, .inr (0, [.ref v, .int 0, .int 0, .int 0])), (v, eB dB n t)]) (wr := [(o, .inr (1, [.ref d, .int 0, .int 0, .int (nI k)])), (d, eB dB N f)]) hP hD hS hA [1, 2] [0, 3] rfl rfl (by decide) (by decide) (va_runV (As := []) (rest := []) ⟨hx, hb, hml, hown, htz⟩ (mt_length l s.heap.size q v n t) (cwV 0 htz (z_V q379 q51 q52 q3 q53) rfl rfl rfl (by decide +kernel) ⟨(Nat.le_of_ble_eq_true rfl), (Nat.le_of_ble_eq_true rfl)⟩) (sq_preV (wc := [(q, .inr (0, [.ref v, .int 0, .int 0, .int 0])), (v, eB dB n t)]) (va_recv hK hP (ci := 0) (q0 := 1) rfl rfl) hP hD hK hE hS hA [1, 2] rfl (by decide)) rfl rfl hl.1 rfl (lv_room (Nat.le_of_ble_eq_true rfl)) dJ8_append_10 ⟨(Nat.le_of_ble_eq_true rfl), (Nat.le_of_ble_eq_true rfl)⟩) (fun r u H locs hw hP hD hS => ?_)
  rw [hw]
  have hP : va_P D sqCl [(o, .inr (1, [.ref d, .int 0, .int 0, .int (nI k)])), (d, eB dB N f), (q, .inr (0, [.ref v, .int 0, .int 0, .int 0])), (v, eB dB n t)] H := hP
  have hD : va_D A [(o, .inr (1, [.ref d, .int 0, .int 0, .int (nI k)])), (d, eB dB N f), (q, .inr (0, [.ref v, .int 0, .int 0, .int 0])), (v, eB dB n t)] := hD
  refine lv_istore_n (lv' := [(2, .int (nI n)), (0, .ref o), (1, .ref q)]) hx hb dJ8_append_13 rfl hl (by decide) rfl (fun ls hl => ?_)
  refine lv_aload_n hx hb dJ8_append_14 rfl (lv_at hl 1 rfl) ?_
  refine lv_aload_n hx hb dJ8_append_15 rfl (lv_at hl 1 rfl) ?_
  refine va_get (D := D) (ci := 1) (v := .int (nI k)) (C := RJ9) (T := TJ9) (N := 4) hx hb hts in_J9 hown hK hP 0 rfl rfl 3 (by decide) (hts _ q306) (fun _ h9 => h9) rfl dJ8_append_16 ?_
  refine lv_iload_n hx hb dJ8_append_19 rfl (lv_at hl 0 rfl) ?_
  refine sq_iadd hx hb dJ8_append_20 ?_
  refine sq_retv (wc := [(o, .inr (1, [.ref d, .int 0, .int 0, .int (nI k)])), (d, eB dB N f)]) (wr := [(q, .inr (0, [.ref v, .int 0, .int 0, .int 0])), (v, eB dB n t)]) hP hD hS hA [0, 1] [2, 3] rfl rfl (by decide) (by decide) (va_runU (As := [.int (nI (k + n))]) (rest := []) ⟨hx, hb, hml, hown, htz⟩ (mt_ensure l H.size o d k N (k + n) f h1 h2) (va_cwU (owner := RJ8) (x := yJ8_ensureCapacityInternal) 1 htz (z_U q327 q560 zq_s0 q329 q13 q330) rfl rfl rfl rfl (by decide +kernel) ⟨(Nat.le_of_ble_eq_true rfl), (Nat.le_of_ble_eq_true rfl)⟩) (sq_preV (wc := [(o, .inr (1, [.ref d, .int 0, .int 0, .int (nI k)])), (d, eB dB N f)]) (va_recv hK hP (ci := 1) (q0 := 0) rfl rfl) hP hD hK hE hS hA [0, 1] rfl (by decide)) rfl rfl hl.1 rfl (lv_room (Nat.le_of_ble_eq_true rfl)) dJ8_append_21 ⟨(Nat.le_of_ble_eq_true rfl), (Nat.le_of_ble_eq_true rfl)⟩) (fun u H locs _ hP hD hS => ?_)
  have hP : va_P D sqCl [(q, .inr (0, [.ref v, .int 0, .int 0, .int 0])), (v, eB dB n t), (o, .inr (1, [.ref d, .int 0, .int 0, .int (nI k)])), (d, eB dB N f)] H := hP
  have hD : va_D A [(q, .inr (0, [.ref v, .int 0, .int 0, .int 0])), (v, eB dB n t), (o, .inr (1, [.ref d, .int 0, .int 0, .int (nI k)])), (d, eB dB N f)] := hD
  refine lv_aload_n hx hb dJ8_append_24 rfl (lv_at hl 1 rfl) ?_
  refine lv_aload_n hx hb dJ8_append_25 rfl (lv_at hl 1 rfl) ?_
  refine va_get (D := D) (ci := 1) (v := .int (nI k)) (C := RJ9) (T := TJ9) (N := 4) hx hb hts in_J9 hown hK hP 2 rfl rfl 3 (by decide) (hts _ q306) (fun _ h9 => h9) rfl dJ8_append_26 ?_
  refine lv_aload_n hx hb dJ8_append_29 rfl (lv_at hl 2 rfl) ?_
  refine sq_retv (wc := [(o, .inr (1, [.ref d, .int 0, .int 0, .int (nI k)])), (q, .inr (0, [.ref v, .int 0, .int 0, .int 0])), (v, eB dB n t), (d, eB dB N f)]) (wr := []) hP hD hS hA [2, 0, 1, 3] [] rfl rfl (by decide) (by decide) (va_runU (As := [.int (nI k), .ref q]) (rest := []) ⟨hx, hb, hml, hown, htz⟩ (mt_putAt l H.size o d k q v n N k t f h1 h2) (va_cwU (owner := RJ8) (x := yJ8_putStringAt) 2 htz (z_U q380 q562 zq_s1 q382 q13 q383) rfl rfl rfl rfl (by decide +kernel) ⟨(Nat.le_of_ble_eq_true rfl), (Nat.le_of_ble_eq_true rfl)⟩) (sq_preV (wc := [(o, .inr (1, [.ref d, .int 0, .int 0, .int (nI k)])), (q, .inr (0, [.ref v, .int 0, .int 0, .int 0])), (v, eB dB n t), (d, eB dB N f)]) (va_recv hK hP (ci := 1) (q0 := 2) rfl rfl) hP hD hK hE hS hA [2, 0, 1, 3] rfl (by decide)) rfl rfl hl.1 rfl (lv_room (Nat.le_of_ble_eq_true rfl)) dJ8_append_30 ⟨(Nat.le_of_ble_eq_true rfl), (Nat.le_of_ble_eq_true rfl)⟩) (fun u H locs _ hP hD hS => ?_)
  have hP : va_P D sqCl [(o, .inr (1, [.ref d, .int 0, .int 0, .int (nI k)])), (q, .inr (0, [.ref v, .int 0, .int 0, .int 0])), (v, eB dB n t), (d, eB dB N (zp k n t f))] H := hP
  have hD : va_D A [(o, .inr (1, [.ref d, .int 0, .int 0, .int (nI k)])), (q, .inr (0, [.ref v, .int 0, .int 0, .int 0])), (v, eB dB n t), (d, eB dB N (zp k n t f))] := hD
  refine lv_aload_n hx hb dJ8_append_33 rfl (lv_at hl 1 rfl) ?_
  refine lv_dup hx hb dJ8_append_34 rfl ?_
  refine va_get (D := D) (ci := 1) (v := .int (nI k)) (C := RJ9) (T := TJ9) (N := 4) hx hb hts in_J9 hown hK hP 0 rfl rfl 3 (by decide) (hts _ q306) (fun _ h9 => h9) rfl dJ8_append_35 ?_
  refine lv_iload_n hx hb dJ8_append_38 rfl (lv_at hl 0 rfl) ?_
  refine sq_iadd hx hb dJ8_append_39 ?_
  refine va_put (D := D) (ci := 1) (v := .int (nI (k + n))) (ty := .int) (C := RJ9) (T := TJ9) (N := 4) hx hb hts in_J9 tyJ9 tyJ9_ok nmJ9 hown hK hP hD hS 0 rfl rfl 3 (by decide) (hts _ q306) (fun _ h9 => h9) rfl (by decide +kernel) rfl rfl (Nat.le_of_ble_eq_true rfl) dJ8_append_40 (fun H locs hP hD hS => ?_)
  have hP : va_P D sqCl [(o, .inr (1, [.ref d, .int 0, .int 0, .int (nI (k + n))])), (q, .inr (0, [.ref v, .int 0, .int 0, .int 0])), (v, eB dB n t), (d, eB dB N (zp k n t f))] H := hP
  have hD : va_D A [(o, .inr (1, [.ref d, .int 0, .int 0, .int (nI (k + n))])), (q, .inr (0, [.ref v, .int 0, .int 0, .int 0])), (v, eB dB n t), (d, eB dB N (zp k n t f))] := hD
  refine lv_aload_n hx hb dJ8_append_43 rfl (lv_at hl 1 rfl) ?_
  exact sq_aret () hx hb hr hlocks (Or.inl ⟨_, rfl⟩) (trivial) (hP.sub [0, 1, 2, 3] rfl) (hD.sub [0, 1, 2, 3] (by decide) rfl) hS dJ8_append_44
set_option maxHeartbeats 4000000 in
set_option maxRecDepth 100000 in
theorem mt_append (sz : Nat) (o d q v n N k : Nat) (t f : Nat → Nat) (h1 : k + n ≤ N) (h2 : N ≤ 98) : Met l yJ9_append (wz_ yJ9_append cJ9_append 2 (some (.object "java/lang/StringBuilder"))) ({ frames := 4, cells := 0, slots := 0, locals := 107 }) (sq_Pc D (sqT dB dH dN) ro ad b L xs [.ref o, .ref q] sz [(o, .inr (1, [.ref d, .int 0, .int 0, .int (nI k)])), (q, .inr (0, [.ref v, .int 0, .int 0, .int 0])), (v, eB dB n t), (d, eB dB N f)]) (va_Qr (fun (u : Unit) => True) (sq_R D (va_A [(o, .inr (1, [.ref d, .int 0, .int 0, .int (nI k)])), (q, .inr (0, [.ref v, .int 0, .int 0, .int 0])), (v, eB dB n t), (d, eB dB N f)] sz) (fun (u : Unit) (ra : Nat) => [(o, .inr (1, [.ref d, .int 0, .int 0, .int (nI (k + n))])), (q, .inr (0, [.ref v, .int 0, .int 0, .int 0])), (v, eB dB n t), (d, eB dB N (zp k n t f))])) (va_A [(o, .inr (1, [.ref d, .int 0, .int 0, .int (nI k)])), (q, .inr (0, [.ref v, .int 0, .int 0, .int 0])), (v, eB dB n t), (d, eB dB N f)] sz)) 0 0 (va_A [(o, .inr (1, [.ref d, .int 0, .int 0, .int (nI k)])), (q, .inr (0, [.ref v, .int 0, .int 0, .int 0])), (v, eB dB n t), (d, eB dB N f)] sz) := by
  refine sq_met (fun A => va_Qr (fun (u : Unit) => True) (sq_R D A (fun (u : Unit) (ra : Nat) => [(o, .inr (1, [.ref d, .int 0, .int 0, .int (nI (k + n))])), (q, .inr (0, [.ref v, .int 0, .int 0, .int 0])), (v, eB dB n t), (d, eB dB N (zp k n t f))])) A) (by decide) (Nat.le_of_ble_eq_true rfl) ?_
  intro p e s m below meth c A hx hb hr hlocks hml hown hin htz hP hK hD hE hS hA ls hl
  have hts : ∀ w ∈ lw_all, w.before _ s = true := fun w h => htz w (zq_in h)
  have hl : lv_has ls 2 [(0, .ref o), (1, .ref q)] := hl
  refine lv_aload_n hx hb dJ9_append_0 rfl (lv_at hl 0 rfl) ?_
  refine lv_aload_n hx hb dJ9_append_1 rfl (lv_at hl 1 rfl) ?_
  refine sq_retr (wc := [(o, .inr (1, [.ref d, .int 0, .int 0, .int (nI k)])), (q, .inr (0, [.ref v, .int 0, .int 0, .int 0])), (v, eB dB n t), (d, eB dB N f)]) (wr := []) hP hD hS hA [0, 1, 2, 3] [] rfl rfl (by decide) (by decide) (va_runSU (As := [.ref q]) (rest := []) (hK.1 1 _ rfl).2 ⟨hx, hb, hml, hown, htz⟩ (mt_asbAppend l s.heap.size o d q v n N k t f h1 h2) (va_cwSU 1 htz (z_SU q320 q558 q315 q321 q13 q322) rfl rfl rfl (by decide +kernel) ⟨(Nat.le_of_ble_eq_true rfl), (Nat.le_of_ble_eq_true rfl)⟩) (sq_preV (wc := [(o, .inr (1, [.ref d, .int 0, .int 0, .int (nI k)])), (q, .inr (0, [.ref v, .int 0, .int 0, .int 0])), (v, eB dB n t), (d, eB dB N f)]) (va_recv hK hP (ci := 1) (q0 := 0) rfl rfl) hP hD hK hE hS hA [0, 1, 2, 3] rfl (by decide)) rfl rfl hl.1 rfl (lv_room (Nat.le_of_ble_eq_true rfl)) dJ9_append_2 ⟨(Nat.le_of_ble_eq_true rfl), (Nat.le_of_ble_eq_true rfl)⟩) (fun u ra H locs _ hP hD hS => ?_)
  have hP : va_P D sqCl [(o, .inr (1, [.ref d, .int 0, .int 0, .int (nI (k + n))])), (q, .inr (0, [.ref v, .int 0, .int 0, .int 0])), (v, eB dB n t), (d, eB dB N (zp k n t f))] H := hP
  have hD : va_D A [(o, .inr (1, [.ref d, .int 0, .int 0, .int (nI (k + n))])), (q, .inr (0, [.ref v, .int 0, .int 0, .int 0])), (v, eB dB n t), (d, eB dB N (zp k n t f))] := hD
  refine lv_pop hx hb dJ9_append_5 rfl ?_
  refine lv_aload_n hx hb dJ9_append_6 rfl (lv_at hl 0 rfl) ?_
  exact sq_aret () hx hb hr hlocks (Or.inl ⟨_, rfl⟩) (trivial) (hP.sub [0, 1, 2, 3] rfl) (hD.sub [0, 1, 2, 3] (by decide) rfl) hS dJ9_append_7
set_option maxHeartbeats 4000000 in
set_option maxRecDepth 100000 in
theorem mt_copyRange (sz : Nat) (d N : Nat) (f : Nat → Nat) (h2 : N ≤ 98) : Met l yJ12_copyOfRange (wz_ yJ12_copyOfRange cJ12_copyOfRange 3 (some (.array .byte))) ({ frames := 1, cells := 1, slots := 98, locals := 14 }) (sq_Pc D (sqT dB dH dN) ro ad b L xs [.ref d, .int (nI 0), .int (nI N)] sz [(d, eB dB N f)]) (va_Qr (fun (u : Unit) => True) (sq_R D (va_A [(d, eB dB N f)] sz) (fun (u : Unit) (ra : Nat) => [(d, eB dB N f), (ra, eB dB N f)])) (va_A [(d, eB dB N f)] sz)) 1 98 (va_A [(d, eB dB N f)] sz) := by
  refine sq_met (fun A => va_Qr (fun (u : Unit) => True) (sq_R D A (fun (u : Unit) (ra : Nat) => [(d, eB dB N f), (ra, eB dB N f)])) A) (by decide) (Nat.le_of_ble_eq_true rfl) ?_
  intro p e s m below meth c A hx hb hr hlocks hml hown hin htz hP hK hD hE hS hA ls hl
  have hts : ∀ w ∈ lw_all, w.before _ s = true := fun w h => htz w (zq_in h)
  have hl : lv_has ls 3 [(0, .ref d), (1, .int (nI 0)), (2, .int (nI N))] := hl
  refine lv_iload_n hx hb dJ12_copyOfRange_0 rfl (lv_at hl 1 rfl) ?_
  refine sq_if_ne (tgt := 10) hx hb dJ12_copyOfRange_1 (by decide) (by decide) (fun hc => absurd rfl hc) (fun hc => ?_)
  refine lv_iload_n hx hb dJ12_copyOfRange_4 rfl (lv_at hl 2 rfl) ?_
  refine lv_aload_n hx hb dJ12_copyOfRange_5 rfl (lv_at hl 0 rfl) ?_
  refine va_alen (v := nI N) hx hb hK hP 0 0 rfl rfl rfl dJ12_copyOfRange_6 ?_
  refine sq_eq (tgt := 17) hx hb dJ12_copyOfRange_7 (by decide) (by omega) (by omega) (fun hc => ?_) (fun hc => by exfalso; omega)
  refine lv_aload_n hx hb dJ12_copyOfRange_17 rfl (lv_at hl 0 rfl) ?_
  refine sq_clone hx hb (hml.trans hl.1.symm) hown (hts _ q349) (hts _ q350) (hts _ q351) (hts _ q352) (hts _ q353) hE.2.2.2.2.2.2.1 hK hP hD hS hA 0 rfl (Nat.le_of_ble_eq_true rfl) (Nat.le_of_ble_eq_true rfl) 1 98 (by omega) (by omega) (Nat.le_of_ble_eq_true rfl) (Nat.le_of_ble_eq_true rfl) dJ12_copyOfRange_18 (fun g H hP hD hS => ?_)
  have hP : va_P D sqCl [(d, eB dB N f), (g, eB dB N f)] H := hP
  have hD : va_D A [(d, eB dB N f), (g, eB dB N f)] := hD
  refine va_castA hx hb hown (hts _ q355) hP 1 rfl (show s.vm.findClass "[B" = some dB from (hK.2 0 _ rfl).2) dJ12_copyOfRange_21 ?_
  exact sq_aret () hx hb hr hlocks (Or.inr ⟨_, rfl⟩) (trivial) (hP.sub [0, 1] rfl) (hD.sub [0, 1] (by decide) rfl) hS dJ12_copyOfRange_24
set_option maxHeartbeats 4000000 in
set_option maxRecDepth 100000 in
theorem mt_init5 (sz : Nat) (o g d N : Nat) (f : Nat → Nat) (h2 : N ≤ 98) : Met l yJ0_init_5 (wz_ yJ0_init_5 cJ0_init_5 5 none) ({ frames := 2, cells := 1, slots := 98, locals := 40 }) (sq_Pc D (sqT dB dH dN) ro ad b L xs [.ref o, .ref g, .null] sz [(o, .inr (0, [.null, .int 0, .int 0, .int 0])), (g, .inr (1, [.ref d, .int 0, .int 0, .int (nI N)])), (d, eB dB N f)]) (va_Qv (fun (u : Nat) => True) (sq_B D (va_A [(o, .inr (0, [.null, .int 0, .int 0, .int 0])), (g, .inr (1, [.ref d, .int 0, .int 0, .int (nI N)])), (d, eB dB N f)] sz) (fun (u : Nat) => [(o, .inr (0, [.ref u, .int 0, .int 0, .int 0])), (g, .inr (1, [.ref d, .int 0, .int 0, .int (nI N)])), (d, eB dB N f), (u, eB dB N f)])) (va_A [(o, .inr (0, [.null, .int 0, .int 0, .int 0])), (g, .inr (1, [.ref d, .int 0, .int 0, .int (nI N)])), (d, eB dB N f)] sz)) 1 98 (va_A [(o, .inr (0, [.null, .int 0, .int 0, .int 0])), (g, .inr (1, [.ref d, .int 0, .int 0, .int (nI N)])), (d, eB dB N f)] sz) := by
  refine sq_met (fun A => va_Qv (fun (u : Nat) => True) (sq_B D A (fun (u : Nat) => [(o, .inr (0, [.ref u, .int 0, .int 0, .int 0])), (g, .inr (1, [.ref d, .int 0, .int 0, .int (nI N)])), (d, eB dB N f), (u, eB dB N f)])) A) (by decide) (Nat.le_of_ble_eq_true rfl) ?_
  intro p e s m below meth c A hx hb hr hlocks hml hown hin htz hP hK hD hE hS hA ls hl
  have hts : ∀ w ∈ lw_all, w.before _ s = true := fun w h => htz w (zq_in h)
  have hl : lv_has ls 5 [(0, .ref o), (1, .ref g), (2, .null)] := hl
  refine lv_aload_n hx hb dJ0_init_5_0 rfl (lv_at hl 0 rfl) ?_
  refine W.objInit hx hb hown (hts _ q135) (hts _ q25) (hts _ q26) rfl (by rw [hml]; exact hl.1) rfl dJ0_init_5_1 (Nat.le_of_ble_eq_true rfl) (Nat.le_of_ble_eq_true rfl) ?_
  refine W.eq (g2 := F0 m 4 ls []) rfl ?_
  refine lv_aload_n hx hb dJ0_init_5_4 rfl (lv_at hl 1 rfl) ?_
  refine sq_rete (wc := [(g, .inr (1, [.ref d, .int 0, .int 0, .int (nI N)]))]) (wr := [(o, .inr (0, [.null, .int 0, .int 0, .int 0])), (d, eB dB N f)]) hP hD hS hA [1] [0, 2] rfl rfl (by decide) (by decide) (va_runU (As := []) (rest := []) ⟨hx, hb, hml, hown, htz⟩ (mt_getValue l s.heap.size g d N) (va_cwU (owner := RJ8) (x := yJ8_getValue) 0 htz (z_U q523 q525 (zq_in q526) q524 q13 q527) rfl rfl rfl rfl (by decide +kernel) ⟨(Nat.le_of_ble_eq_true rfl), (Nat.le_of_ble_eq_true rfl)⟩) (sq_preV (wc := [(g, .inr (1, [.ref d, .int 0, .int 0, .int (nI N)]))]) (va_recv hK hP (ci := 1) (q0 := 1) rfl rfl) hP hD hK hE hS hA [1] rfl (by decide)) rfl rfl hl.1 rfl (lv_room (Nat.le_of_ble_eq_true rfl)) dJ0_init_5_5 ⟨(Nat.le_of_ble_eq_true rfl), (Nat.le_of_ble_eq_true rfl)⟩) (fun u H locs _ hP hD hS => ?_)
  have hP : va_P D sqCl [(o, .inr (0, [.null, .int 0, .int 0, .int 0])), (d, eB dB N f), (g, .inr (1, [.ref d, .int 0, .int 0, .int (nI N)]))] H := hP
  have hD : va_D A [(o, .inr (0, [.null, .int 0, .int 0, .int 0])), (d, eB dB N f), (g, .inr (1, [.ref d, .int 0, .int 0, .int (nI N)]))] := hD
  refine lv_astore_n (lv' := [(3, .ref d), (0, .ref o), (1, .ref g), (2, .null)]) hx hb dJ0_init_5_8 rfl hl (by decide) rfl (fun ls hl => ?_)
  refine lv_aload_n hx hb dJ0_init_5_9 rfl (lv_at hl 2 rfl) ?_
  refine sq_reti (wc := [(g, .inr (1, [.ref d, .int 0, .int 0, .int (nI N)]))]) (wr := [(o, .inr (0, [.null, .int 0, .int 0, .int 0])), (d, eB dB N f)]) hP hD hS hA [2] [0, 1] rfl rfl (by decide) (by decide) (va_runU (As := []) (rest := []) ⟨hx, hb, hml, hown, htz⟩ (mt_sbLen l H.size g d N) (va_cwO (owner := RJ8) (x := yJ8_length) 0 htz (z_O q528 q565 q432 q570 q428 q14 q430) rfl rfl rfl (zq_in q433) (by decide +kernel) ⟨(Nat.le_of_ble_eq_true rfl), (Nat.le_of_ble_eq_true rfl)⟩) (sq_preV (wc := [(g, .inr (1, [.ref d, .int 0, .int 0, .int (nI N)]))]) (va_recv hK hP (ci := 1) (q0 := 2) rfl rfl) hP hD hK hE hS hA [2] rfl (by decide)) rfl rfl hl.1 rfl (lv_room (Nat.le_of_ble_eq_true rfl)) dJ0_init_5_10 ⟨(Nat.le_of_ble_eq_true rfl), (Nat.le_of_ble_eq_true rfl)⟩) (fun r u H locs hw hP hD hS => ?_)
  rw [hw]
  have hP : va_P D sqCl [(o, .inr (0, [.null, .int 0, .int 0, .int 0])), (d, eB dB N f), (g, .inr (1, [.ref d, .int 0, .int 0, .int (nI N)]))] H := hP
  have hD : va_D A [(o, .inr (0, [.null, .int 0, .int 0, .int 0])), (d, eB dB N f), (g, .inr (1, [.ref d, .int 0, .int 0, .int (nI N)]))] := hD
  refine lv_istore (lv' := [(4, .int (nI N)), (3, .ref d), (0, .ref o), (1, .ref g), (2, .null)]) hx hb dJ0_init_5_13 hl (by decide) rfl (fun ls hl => ?_)
  refine lv_aload_n hx hb dJ0_init_5_15 rfl (lv_at hl 3 rfl) ?_
  refine sq_reti (wc := [(g, .inr (1, [.ref d, .int 0, .int 0, .int (nI N)]))]) (wr := [(o, .inr (0, [.null, .int 0, .int 0, .int 0])), (d, eB dB N f)]) hP hD hS hA [2] [0, 1] rfl rfl (by decide) (by decide) (va_runU (As := []) (rest := []) ⟨hx, hb, hml, hown, htz⟩ (mt_asbLatin1 l H.size g d N) (va_cwU (owner := RJ8) (x := yJ8_isLatin1) 0 htz (z_U q529 q364 (zq_in q365) q363 q13 q366) rfl rfl rfl rfl (by decide +kernel) ⟨(Nat.le_of_ble_eq_true rfl), (Nat.le_of_ble_eq_true rfl)⟩) (sq_preV (wc := [(g, .inr (1, [.ref d, .int 0, .int 0, .int (nI N)]))]) (va_recv hK hP (ci := 1) (q0 := 2) rfl rfl) hP hD hK hE hS hA [2] rfl (by decide)) rfl rfl hl.1 rfl (lv_room (Nat.le_of_ble_eq_true rfl)) dJ0_init_5_16 ⟨(Nat.le_of_ble_eq_true rfl), (Nat.le_of_ble_eq_true rfl)⟩) (fun r u H locs hw hP hD hS => ?_)
  rw [hw]
  have hP : va_P D sqCl [(o, .inr (0, [.null, .int 0, .int 0, .int 0])), (d, eB dB N f), (g, .inr (1, [.ref d, .int 0, .int 0, .int (nI N)]))] H := hP
  have hD : va_D A [(o, .inr (0, [.null, .int 0, .int 0, .int 0])), (d, eB dB N f), (g, .inr (1, [.ref d, .int 0, .int 0, .int (nI N)]))] := hD
  refine sq_if_eq (tgt := 41) hx hb dJ0_init_5_19 (by decide) (by decide) (fun hc => absurd hc (by decide)) (fun hc => ?_)
  refine lv_aload_n hx hb dJ0_init_5_22 rfl (lv_at hl 2 rfl) ?_
  refine lv_iconst (v := 0) hx hb dJ0_init_5_23 (by decide) ?_
  refine va_putF (D := D) (ci := 0) (v := .int 0) (ty := .byte) (C := RJ0) (T := TJ0) (N := 4) hx hb hts in_J0 tyJ0 tyJ0_ok nmJ0 hown hK hP hD hS 0 rfl rfl 1 (by decide) (hts _ q168) (fun _ h9 => h9) rfl hin rfl (by decide +kernel) rfl rfl (Nat.le_of_ble_eq_true rfl) dJ0_init_5_24 (fun H locs hP hD hS => ?_)
  have hP : va_P D sqCl [(o, .inr (0, [.null, .int 0, .int 0, .int 0])), (d, eB dB N f), (g, .inr (1, [.ref d, .int 0, .int 0, .int (nI N)]))] H := hP
  have hD : va_D A [(o, .inr (0, [.null, .int 0, .int 0, .int 0])), (d, eB dB N f), (g, .inr (1, [.ref d, .int 0, .int 0, .int (nI N)]))] := hD
  refine lv_aload_n hx hb dJ0_init_5_27 rfl (lv_at hl 2 rfl) ?_
  refine lv_aload_n hx hb dJ0_init_5_28 rfl (lv_at hl 1 rfl) ?_
  refine lv_iconst (v := nI 0) hx hb dJ0_init_5_29 (by decide) ?_
  refine lv_iload hx hb dJ0_init_5_30 (lv_at hl 0 rfl) ?_
  refine sq_retr (wc := [(d, eB dB N f)]) (wr := [(o, .inr (0, [.null, .int 0, .int 0, .int 0])), (g, .inr (1, [.ref d, .int 0, .int 0, .int (nI N)]))]) hP hD hS hA [1] [0, 2] rfl rfl (by decide) (by decide) (va_runS (As := [.ref d, .int (nI 0), .int (nI N)]) (rest := [.ref o]) ⟨hx, hb, hml, hown, htz⟩ (mt_copyRange l H.size d N f h2) (va_cwS 3 htz (z_S q530 q531 q17 q532) rfl rfl rfl (by decide +kernel) ⟨(Nat.le_of_ble_eq_true rfl), (Nat.le_of_ble_eq_true rfl)⟩) (sq_preS (wc := [(d, eB dB N f)]) hP hD hK hE hS hA [1] rfl (by decide)) rfl rfl hl.1 rfl (lv_room (Nat.le_of_ble_eq_true rfl)) dJ0_init_5_32 ⟨(Nat.le_of_ble_eq_true rfl), (Nat.le_of_ble_eq_true rfl)⟩) (fun u k H locs _ hP hD hS => ?_)
  refine W.widen (k := 1) (n := 98) (Nat.le_refl _) (Nat.le_refl _) ?_
  have hP : va_P D sqCl [(o, .inr (0, [.null, .int 0, .int 0, .int 0])), (g, .inr (1, [.ref d, .int 0, .int 0, .int (nI N)])), (d, eB dB N f), (k, eB dB N f)] H := hP
  have hD : va_D A [(o, .inr (0, [.null, .int 0, .int 0, .int 0])), (g, .inr (1, [.ref d, .int 0, .int 0, .int (nI N)])), (d, eB dB N f), (k, eB dB N f)] := hD
  refine va_putF (D := D) (ci := 0) (v := .ref k) (ty := .array .byte) (C := RJ0) (T := TJ0) (N := 4) hx hb hts in_J0 tyJ0 tyJ0_ok nmJ0 hown hK hP hD hS 0 rfl rfl 0 (by decide) (hts _ q167) (fun _ h9 => h9) rfl hin rfl (by decide +kernel) rfl rfl (Nat.le_of_ble_eq_true rfl) dJ0_init_5_35 (fun H locs hP hD hS => ?_)
  have hP : va_P D sqCl [(o, .inr (0, [.ref k, .int 0, .int 0, .int 0])), (g, .inr (1, [.ref d, .int 0, .int 0, .int (nI N)])), (d, eB dB N f), (k, eB dB N f)] H := hP
  have hD : va_D A [(o, .inr (0, [.ref k, .int 0, .int 0, .int 0])), (g, .inr (1, [.ref d, .int 0, .int 0, .int (nI N)])), (d, eB dB N f), (k, eB dB N f)] := hD
  refine lv_goto (tgt := 97) hx hb dJ0_init_5_38 (by decide) ?_
  exact sq_vret k hx hb hr hlocks (trivial) (hP.sub [0, 1, 2, 3] rfl) (hD.sub [0, 1, 2, 3] (by decide) rfl) hS dJ0_init_5_97
set_option maxHeartbeats 4000000 in
set_option maxRecDepth 100000 in
theorem mt_init4 (sz : Nat) (o g d N : Nat) (f : Nat → Nat) (h2 : N ≤ 98) : Met l yJ0_init_4 (wz_ yJ0_init_4 cJ0_init_4 2 none) ({ frames := 3, cells := 1, slots := 98, locals := 64 }) (sq_Pc D (sqT dB dH dN) ro ad b L xs [.ref o, .ref g] sz [(o, .inr (0, [.null, .int 0, .int 0, .int 0])), (g, .inr (1, [.ref d, .int 0, .int 0, .int (nI N)])), (d, eB dB N f)]) (va_Qv (fun (u : Nat) => True) (sq_B D (va_A [(o, .inr (0, [.null, .int 0, .int 0, .int 0])), (g, .inr (1, [.ref d, .int 0, .int 0, .int (nI N)])), (d, eB dB N f)] sz) (fun (u : Nat) => [(o, .inr (0, [.ref u, .int 0, .int 0, .int 0])), (g, .inr (1, [.ref d, .int 0, .int 0, .int (nI N)])), (d, eB dB N f), (u, eB dB N f)])) (va_A [(o, .inr (0, [.null, .int 0, .int 0, .int 0])), (g, .inr (1, [.ref d, .int 0, .int 0, .int (nI N)])), (d, eB dB N f)] sz)) 1 98 (va_A [(o, .inr (0, [.null, .int 0, .int 0, .int 0])), (g, .inr (1, [.ref d, .int 0, .int 0, .int (nI N)])), (d, eB dB N f)] sz) := by
  refine sq_met (fun A => va_Qv (fun (u : Nat) => True) (sq_B D A (fun (u : Nat) => [(o, .inr (0, [.ref u, .int 0, .int 0, .int 0])), (g, .inr (1, [.ref d, .int 0, .int 0, .int (nI N)])), (d, eB dB N f), (u, eB dB N f)])) A) (by decide) (Nat.le_of_ble_eq_true rfl) ?_
  intro p e s m below meth c A hx hb hr hlocks hml hown hin htz hP hK hD hE hS hA ls hl
  have hts : ∀ w ∈ lw_all, w.before _ s = true := fun w h => htz w (zq_in h)
  have hl : lv_has ls 2 [(0, .ref o), (1, .ref g)] := hl
  refine lv_aload_n hx hb dJ0_init_4_0 rfl (lv_at hl 0 rfl) ?_
  refine lv_aload_n hx hb dJ0_init_4_1 rfl (lv_at hl 1 rfl) ?_
  refine lv_null hx hb dJ0_init_4_2 ?_
  refine sq_retv (wc := [(o, .inr (0, [.null, .int 0, .int 0, .int 0])), (g, .inr (1, [.ref d, .int 0, .int 0, .int (nI N)])), (d, eB dB N f)]) (wr := []) hP hD hS hA [0, 1, 2] [] rfl rfl (by decide) (by decide) (va_runI (As := [.ref g, .null]) (rest := []) ⟨hx, hb, hml, hown, htz⟩ (mt_init5 l s.heap.size o g d N f h2) (cwI 2 htz (z_meth q522) rfl rfl rfl (hts _ q3) (hts _ q520) (hts _ q521) rfl (by decide +kernel) ⟨(Nat.le_of_ble_eq_true rfl), (Nat.le_of_ble_eq_true rfl)⟩) (sq_preS (wc := [(o, .inr (0, [.null, .int 0, .int 0, .int 0])), (g, .inr (1, [.ref d, .int 0, .int 0, .int (nI N)])), (d, eB dB N f)]) hP hD hK hE hS hA [0, 1, 2] rfl (by decide)) rfl rfl hl.1 rfl (lv_room (Nat.le_of_ble_eq_true rfl)) dJ0_init_4_3 ⟨(Nat.le_of_ble_eq_true rfl), (Nat.le_of_ble_eq_true rfl)⟩) (fun u H locs _ hP hD hS => ?_)
  refine W.widen (k := 1) (n := 98) (Nat.le_refl _) (Nat.le_refl _) ?_
  obtain ⟨k, rfl⟩ : ∃ z, z = u := ⟨_, rfl⟩
  have hP : va_P D sqCl [(o, .inr (0, [.ref k, .int 0, .int 0, .int 0])), (g, .inr (1, [.ref d, .int 0, .int 0, .int (nI N)])), (d, eB dB N f), (k, eB dB N f)] H := hP
  have hD : va_D A [(o, .inr (0, [.ref k, .int 0, .int 0, .int 0])), (g, .inr (1, [.ref d, .int 0, .int 0, .int (nI N)])), (d, eB dB N f), (k, eB dB N f)] := hD
  exact sq_vret k hx hb hr hlocks (trivial) (hP.sub [0, 1, 2, 3] rfl) (hD.sub [0, 1, 2, 3] (by decide) rfl) hS dJ0_init_4_6
set_option maxHeartbeats 4000000 in
set_option maxRecDepth 100000 in
theorem mt_toString (sz : Nat) (g d N : Nat) (f : Nat → Nat) (h2 : N ≤ 98) : Met l yJ9_toString (wz_ yJ9_toString cJ9_toString 1 (some (.object "java/lang/String"))) ({ frames := 4, cells := 2, slots := 102, locals := 85 }) (sq_Pc D (sqT dB dH dN) ro ad b L xs [.ref g] sz [(g, .inr (1, [.ref d, .int 0, .int 0, .int (nI N)])), (d, eB dB N f)]) (va_Qr (fun (u : Nat) => True) (sq_R D (va_A [(g, .inr (1, [.ref d, .int 0, .int 0, .int (nI N)])), (d, eB dB N f)] sz) (fun (u : Nat) (ra : Nat) => [(g, .inr (1, [.ref d, .int 0, .int 0, .int (nI N)])), (d, eB dB N f), (ra, .inr (0, [.ref u, .int 0, .int 0, .int 0])), (u, eB dB N f)])) (va_A [(g, .inr (1, [.ref d, .int 0, .int 0, .int (nI N)])), (d, eB dB N f)] sz)) 2 102 (va_A [(g, .inr (1, [.ref d, .int 0, .int 0, .int (nI N)])), (d, eB dB N f)] sz) := by
  refine sq_met (fun A => va_Qr (fun (u : Nat) => True) (sq_R D A (fun (u : Nat) (ra : Nat) => [(g, .inr (1, [.ref d, .int 0, .int 0, .int (nI N)])), (d, eB dB N f), (ra, .inr (0, [.ref u, .int 0, .int 0, .int 0])), (u, eB dB N f)])) A) (by decide) (Nat.le_of_ble_eq_true rfl) ?_
  intro p e s m below meth c A hx hb hr hlocks hml hown hin htz hP hK hD hE hS hA ls hl
  have hts : ∀ w ∈ lw_all, w.before _ s = true := fun w h => htz w (zq_in h)
  have hl : lv_has ls 1 [(0, .ref g)] := hl
  refine va_new (ci := 0) (fs := [.null, .int 0, .int 0, .int 0]) (C := RJ0) (T := TJ0) (N := 4) hx hb hts in_J0 tyJ0 tyJ0_ok hown (hts _ q516) (hts _ q117) (hts _ q3) hK hP hD hS hA rfl (fun j hj => by rcases (show j = 0 ∨ j = 1 ∨ j = 2 ∨ j = 3 by omega) with rfl | rfl | rfl | rfl <;> rfl) (Nat.le_of_ble_eq_true rfl) (Nat.le_of_ble_eq_true rfl) dJ9_toString_0 (fun o H hP hD hS => ?_)
  have hP : va_P D sqCl [(g, .inr (1, [.ref d, .int 0, .int 0, .int (nI N)])), (d, eB dB N f), (o, .inr (0, [.null, .int 0, .int 0, .int 0]))] H := hP
  have hD : va_D A [(g, .inr (1, [.ref d, .int 0, .int 0, .int (nI N)])), (d, eB dB N f), (o, .inr (0, [.null, .int 0, .int 0, .int 0]))] := hD
  refine W.widen (k := 1) (n := 4) (Nat.le_refl _) (Nat.le_refl _) ?_
  refine lv_dup hx hb dJ9_toString_3 rfl ?_
  refine lv_aload_n hx hb dJ9_toString_4 rfl (lv_at hl 0 rfl) ?_
  refine sq_retv (wc := [(o, .inr (0, [.null, .int 0, .int 0, .int 0])), (g, .inr (1, [.ref d, .int 0, .int 0, .int (nI N)])), (d, eB dB N f)]) (wr := []) hP hD hS hA [2, 0, 1] [] rfl rfl (by decide) (by decide) (va_runI (As := [.ref g]) (rest := [.ref o]) ⟨hx, hb, hml, hown, htz⟩ (mt_init4 l H.size o g d N f h2) (cwI 1 htz (z_meth q519) rfl rfl rfl (hts _ q3) (hts _ q517) (hts _ q518) rfl (by decide +kernel) ⟨(Nat.le_of_ble_eq_true rfl), (Nat.le_of_ble_eq_true rfl)⟩) (sq_preS (wc := [(o, .inr (0, [.null, .int 0, .int 0, .int 0])), (g, .inr (1, [.ref d, .int 0, .int 0, .int (nI N)])), (d, eB dB N f)]) hP hD hK hE hS hA [2, 0, 1] rfl (by decide)) rfl rfl hl.1 rfl (lv_room (Nat.le_of_ble_eq_true rfl)) dJ9_toString_5 ⟨(Nat.le_of_ble_eq_true rfl), (Nat.le_of_ble_eq_true rfl)⟩) (fun u H locs _ hP hD hS => ?_)
  refine W.widen (k := 2) (n := 102) (Nat.le_refl _) (Nat.le_refl _) ?_
  obtain ⟨k, rfl⟩ : ∃ z, z = u := ⟨_, rfl⟩
  have hP : va_P D sqCl [(o, .inr (0, [.ref k, .int 0, .int 0, .int 0])), (g, .inr (1, [.ref d, .int 0, .int 0, .int (nI N)])), (d, eB dB N f), (k, eB dB N f)] H := hP
  have hD : va_D A [(o, .inr (0, [.ref k, .int 0, .int 0, .int 0])), (g, .inr (1, [.ref d, .int 0, .int 0, .int (nI N)])), (d, eB dB N f), (k, eB dB N f)] := hD
  exact sq_aret k hx hb hr hlocks (Or.inl ⟨_, rfl⟩) (trivial) (hP.sub [1, 2, 0, 3] rfl) (hD.sub [1, 2, 0, 3] (by decide) rfl) hS dJ9_toString_8
end SQJ3
end
section
/-! SymbolInfo, ErrorCorrection -/
set_option maxRecDepth 100000
/-- a round of check letters, from the top down to place n - 1 - r -/
def zd (n : Nat) (g e : Nat → Nat) (c r : Nat) : Nat → Nat := fun j => if n - 1 - r < j then ecS n g e c j else e j
theorem zd_0 {n : Nat} {g e : Nat → Nat} {c j : Nat} (hj : j < n) : e j = zd n g e c 0 j := by
  unfold zd
  rw [if_neg (by omega)]
theorem zd_rd {n : Nat} {g e : Nat → Nat} {c r j : Nat} (hj : j ≤ n - 1 - r) : zd n g e c r j = e j := by
  unfold zd
  rw [if_neg (by omega)]
theorem zd_up {n : Nat} {g e : Nat → Nat} {c r x : Nat} (h0 : 0 < n - 1 - r) (hx : x = e (n - 1 - r - 1) ^^^ gm (ecM n e c) (g (n - 1 - r))) (j : Nat) : va_up (zd n g e c r) (n - 1 - r) x j = zd n g e c (r + 1) j := by
  unfold va_up
  by_cases h : j = n - 1 - r
  · rw [if_pos h, hx]
    unfold zd ecS
    rw [if_pos (by omega), if_neg (by omega), h]
  · rw [if_neg h]
    unfold zd
    by_cases h2 : n - 1 - r < j
    · rw [if_pos h2, if_pos (by omega)]
    · rw [if_neg h2, if_neg (by omega)]
theorem zd_last {n : Nat} {g e : Nat → Nat} {c r x : Nat} (h0 : n - 1 - r = 0) (hx : x = gm (ecM n e c) (g 0)) (j : Nat) : va_up (zd n g e c r) 0 x j = ecS n g e c j := by
  unfold va_up
  by_cases h : j = 0
  · rw [if_pos h, hx, h]
    unfold ecS
    rw [if_pos rfl]
  · rw [if_neg h]
    unfold zd
    rw [if_pos (by omega)]
theorem len_LL : sq_z5.2.length = 256 := by decide +kernel
theorem len_AL : sq_z6.2.length = 255 := by decide +kernel
theorem len_SL : sq_z4.2.length = 16 := by decide +kernel
theorem up_0 {i x j : Nat} (hx : x = 0) : va_up (fun _ => 0) i x j = 0 := by
  unfold va_up
  split
  · exact hx
  · rfl
theorem gm_tab {m p : Nat} (hm : m ≠ 0) (hp : p ≠ 0) : gf_A ((gf_L m + gf_L p) % 255) = gm m p := (gm_n hm hp).symm
theorem wd_two {K n : Nat} {g t : Nat → Nat} (j : Nat) (hj : j < K + n) : zp K n (fun j => ecF n g t K (n - 1 - j)) (zp 0 K t (fun _ => 0)) j = wd K n g t j := by
  unfold zp wd
  by_cases h : j < K
  · rw [if_neg (by omega), if_pos (by omega), if_pos h, Nat.sub_zero]
  · rw [if_pos (by omega), if_neg h]
section SQO1
variable (l : Launch) {D : va_G} {dB dH dN : ClassId} {ro : Option Nat} {ad : Nat → Nat} {b L : Nat} {xs : Nat → Int32}
set_option maxHeartbeats 4000000 in
set_option maxRecDepth 100000 in
theorem mt_symInit2 (sz : Nat) (o k n : Nat)  : Met l yX2_init_2 (wz_ yX2_init_2 cX2_init_2 9 none) ({ frames := 1, cells := 0, slots := 0, locals := 12 }) (sq_Pc D (sqT dB dH dN) ro ad b L xs [.ref o, .int (nI 0), .int (nI k), .int (nI n), .int (nI 8), .int (nI 8), .int (nI 1), .int (nI k), .int (nI n)] sz [(o, .inr (2, [.int 0, .int 0, .int 0, .int 0, .int 0, .int 0, .int 0, .int 0]))]) (va_Qv (fun (u : Unit) => True) (sq_B D (va_A [(o, .inr (2, [.int 0, .int 0, .int 0, .int 0, .int 0, .int 0, .int 0, .int 0]))] sz) (fun (u : Unit) => [(o, .inr (2, [.int (nI 0), .int (nI k), .int (nI n), .int (nI 8), .int (nI 8), .int (nI 1), .int (nI k), .int (nI n)]))])) (va_A [(o, .inr (2, [.int 0, .int 0, .int 0, .int 0, .int 0, .int 0, .int 0, .int 0]))] sz)) 0 0 (va_A [(o, .inr (2, [.int 0, .int 0, .int 0, .int 0, .int 0, .int 0, .int 0, .int 0]))] sz) := by
  refine sq_met (fun A => va_Qv (fun (u : Unit) => True) (sq_B D A (fun (u : Unit) => [(o, .inr (2, [.int (nI 0), .int (nI k), .int (nI n), .int (nI 8), .int (nI 8), .int (nI 1), .int (nI k), .int (nI n)]))])) A) (by decide) (Nat.le_of_ble_eq_true rfl) ?_
  intro p e s m below meth c A hx hb hr hlocks hml hown hin htz hP hK hD hE hS hA ls hl
  have hts : ∀ w ∈ lw_all, w.before _ s = true := fun w h => htz w (zq_in h)
  have hl : lv_has ls 9 [(0, .ref o), (1, .int (nI 0)), (2, .int (nI k)), (3, .int (nI n)), (4, .int (nI 8)), (5, .int (nI 8)), (6, .int (nI 1)), (7, .int (nI k)), (8, .int (nI n))] := hl
  refine lv_aload_n hx hb dX2_init_2_0 rfl (lv_at hl 0 rfl) ?_
  refine W.objInit hx hb hown (hts _ q188) (hts _ q25) (hts _ q26) rfl (by rw [hml]; exact hl.1) rfl dX2_init_2_1 (Nat.le_of_ble_eq_true rfl) (Nat.le_of_ble_eq_true rfl) ?_
  refine W.eq (g2 := F0 m 4 ls []) rfl ?_
  refine lv_aload_n hx hb dX2_init_2_4 rfl (lv_at hl 0 rfl) ?_
  refine lv_iload_n hx hb dX2_init_2_5 rfl (lv_at hl 1 rfl) ?_
  refine va_putF (D := D) (ci := 2) (v := .int (nI 0)) (ty := .boolean) (C := RX2) (T := TX2) (N := 8) hx hb hts in_X2 tyX2 tyX2_ok nmX2 hown hK hP hD hS 0 rfl rfl 0 (by decide) (hts _ q189) (fun _ h9 => h9) rfl hin rfl (by decide +kernel) rfl rfl (Nat.le_of_ble_eq_true rfl) dX2_init_2_6 (fun H locs hP hD hS => ?_)
  have hP : va_P D sqCl [(o, .inr (2, [.int (nI 0), .int 0, .int 0, .int 0, .int 0, .int 0, .int 0, .int 0]))] H := hP
  have hD : va_D A [(o, .inr (2, [.int (nI 0), .int 0, .int 0, .int 0, .int 0, .int 0, .int 0, .int 0]))] := hD
  refine lv_aload_n hx hb dX2_init_2_9 rfl (lv_at hl 0 rfl) ?_
  refine lv_iload_n hx hb dX2_init_2_10 rfl (lv_at hl 2 rfl) ?_
  refine va_putF (D := D) (ci := 2) (v := .int (nI k)) (ty := .int) (C := RX2) (T := TX2) (N := 8) hx hb hts in_X2 tyX2 tyX2_ok nmX2 hown hK hP hD hS 0 rfl rfl 1 (by decide) (hts _ q190) (fun _ h9 => h9) rfl hin rfl (by decide +kernel) rfl rfl (Nat.le_of_ble_eq_true rfl) dX2_init_2_11 (fun H locs hP hD hS => ?_)
  have hP : va_P D sqCl [(o, .inr (2, [.int (nI 0), .int (nI k), .int 0, .int 0, .int 0, .int 0, .int 0, .int 0]))] H := hP
  have hD : va_D A [(o, .inr (2, [.int (nI 0), .int (nI k), .int 0, .int 0, .int 0, .int 0, .int 0, .int 0]))] := hD
  refine lv_aload_n hx hb dX2_init_2_14 rfl (lv_at hl 0 rfl) ?_
  refine lv_iload_n hx hb dX2_init_2_15 rfl (lv_at hl 3 rfl) ?_
  refine va_putF (D := D) (ci := 2) (v := .int (nI n)) (ty := .int) (C := RX2) (T := TX2) (N := 8) hx hb hts in_X2 tyX2 tyX2_ok nmX2 hown hK hP hD hS 0 rfl rfl 2 (by decide) (hts _ q191) (fun _ h9 => h9) rfl hin rfl (by decide +kernel) rfl rfl (Nat.le_of_ble_eq_true rfl) dX2_init_2_16 (fun H locs hP hD hS => ?_)
  have hP : va_P D sqCl [(o, .inr (2, [.int (nI 0), .int (nI k), .int (nI n), .int 0, .int 0, .int 0, .int 0, .int 0]))] H := hP
  have hD : va_D A [(o, .inr (2, [.int (nI 0), .int (nI k), .int (nI n), .int 0, .int 0, .int 0, .int 0, .int 0]))] := hD
  refine lv_aload_n hx hb dX2_init_2_19 rfl (lv_at hl 0 rfl) ?_
  refine lv_iload hx hb dX2_init_2_20 (lv_at hl 4 rfl) ?_
  refine va_putF (D := D) (ci := 2) (v := .int (nI 8)) (ty := .int) (C := RX2) (T := TX2) (N := 8) hx hb hts in_X2 tyX2 tyX2_ok nmX2 hown hK hP hD hS 0 rfl rfl 3 (by decide) (hts _ q192) (fun _ h9 => h9) rfl hin rfl (by decide +kernel) rfl rfl (Nat.le_of_ble_eq_true rfl) dX2_init_2_22 (fun H locs hP hD hS => ?_)
  have hP : va_P D sqCl [(o, .inr (2, [.int (nI 0), .int (nI k), .int (nI n), .int (nI 8), .int 0, .int 0, .int 0, .int 0]))] H := hP
  have hD : va_D A [(o, .inr (2, [.int (nI 0), .int (nI k), .int (nI n), .int (nI 8), .int 0, .int 0, .int 0, .int 0]))] := hD
  refine lv_aload_n hx hb dX2_init_2_25 rfl (lv_at hl 0 rfl) ?_
  refine lv_iload hx hb dX2_init_2_26 (lv_at hl 5 rfl) ?_
  refine va_putF (D := D) (ci := 2) (v := .int (nI 8)) (ty := .int) (C := RX2) (T := TX2) (N := 8) hx hb hts in_X2 tyX2 tyX2_ok nmX2 hown hK hP hD hS 0 rfl rfl 4 (by decide) (hts _ q193) (fun _ h9 => h9) rfl hin rfl (by decide +kernel) rfl rfl (Nat.le_of_ble_eq_true rfl) dX2_init_2_28 (fun H locs hP hD hS => ?_)
  have hP : va_P D sqCl [(o, .inr (2, [.int (nI 0), .int (nI k), .int (nI n), .int (nI 8), .int (nI 8), .int 0, .int 0, .int 0]))] H := hP
  have hD : va_D A [(o, .inr (2, [.int (nI 0), .int (nI k), .int (nI n), .int (nI 8), .int (nI 8), .int 0, .int 0, .int 0]))] := hD
  refine lv_aload_n hx hb dX2_init_2_31 rfl (lv_at hl 0 rfl) ?_
  refine lv_iload hx hb dX2_init_2_32 (lv_at hl 6 rfl) ?_
  refine va_putF (D := D) (ci := 2) (v := .int (nI 1)) (ty := .int) (C := RX2) (T := TX2) (N := 8) hx hb hts in_X2 tyX2 tyX2_ok nmX2 hown hK hP hD hS 0 rfl rfl 5 (by decide) (hts _ q194) (fun _ h9 => h9) rfl hin rfl (by decide +kernel) rfl rfl (Nat.le_of_ble_eq_true rfl) dX2_init_2_34 (fun H locs hP hD hS => ?_)
  have hP : va_P D sqCl [(o, .inr (2, [.int (nI 0), .int (nI k), .int (nI n), .int (nI 8), .int (nI 8), .int (nI 1), .int 0, .int 0]))] H := hP
  have hD : va_D A [(o, .inr (2, [.int (nI 0), .int (nI k), .int (nI n), .int (nI 8), .int (nI 8), .int (nI 1), .int 0, .int 0]))] := hD
  refine lv_aload_n hx hb dX2_init_2_37 rfl (lv_at hl 0 rfl) ?_
  refine lv_iload hx hb dX2_init_2_38 (lv_at hl 7 rfl) ?_
  refine va_putF (D := D) (ci := 2) (v := .int (nI k)) (ty := .int) (C := RX2) (T := TX2) (N := 8) hx hb hts in_X2 tyX2 tyX2_ok nmX2 hown hK hP hD hS 0 rfl rfl 6 (by decide) (hts _ q195) (fun _ h9 => h9) rfl hin rfl (by decide +kernel) rfl rfl (Nat.le_of_ble_eq_true rfl) dX2_init_2_40 (fun H locs hP hD hS => ?_)
  have hP : va_P D sqCl [(o, .inr (2, [.int (nI 0), .int (nI k), .int (nI n), .int (nI 8), .int (nI 8), .int (nI 1), .int (nI k), .int 0]))] H := hP
  have hD : va_D A [(o, .inr (2, [.int (nI 0), .int (nI k), .int (nI n), .int (nI 8), .int (nI 8), .int (nI 1), .int (nI k), .int 0]))] := hD
  refine lv_aload_n hx hb dX2_init_2_43 rfl (lv_at hl 0 rfl) ?_
  refine lv_iload hx hb dX2_init_2_44 (lv_at hl 8 rfl) ?_
  refine va_putF (D := D) (ci := 2) (v := .int (nI n)) (ty := .int) (C := RX2) (T := TX2) (N := 8) hx hb hts in_X2 tyX2 tyX2_ok nmX2 hown hK hP hD hS 0 rfl rfl 7 (by decide) (hts _ q196) (fun _ h9 => h9) rfl hin rfl (by decide +kernel) rfl rfl (Nat.le_of_ble_eq_true rfl) dX2_init_2_46 (fun H locs hP hD hS => ?_)
  have hP : va_P D sqCl [(o, .inr (2, [.int (nI 0), .int (nI k), .int (nI n), .int (nI 8), .int (nI 8), .int (nI 1), .int (nI k), .int (nI n)]))] H := hP
  have hD : va_D A [(o, .inr (2, [.int (nI 0), .int (nI k), .int (nI n), .int (nI 8), .int (nI 8), .int (nI 1), .int (nI k), .int (nI n)]))] := hD
  exact sq_vret () hx hb hr hlocks (trivial) (hP.sub [0] rfl) (hD.sub [0] (by decide) rfl) hS dX2_init_2_49
set_option maxHeartbeats 4000000 in
set_option maxRecDepth 100000 in
theorem mt_symInit (sz : Nat) (o k n : Nat)  : Met l yX2_init (wz_ yX2_init cX2_init 7 none) ({ frames := 2, cells := 0, slots := 0, locals := 40 }) (sq_Pc D (sqT dB dH dN) ro ad b L xs [.ref o, .int (nI 0), .int (nI k), .int (nI n), .int (nI 8), .int (nI 8), .int (nI 1)] sz [(o, .inr (2, [.int 0, .int 0, .int 0, .int 0, .int 0, .int 0, .int 0, .int 0]))]) (va_Qv (fun (u : Unit) => True) (sq_B D (va_A [(o, .inr (2, [.int 0, .int 0, .int 0, .int 0, .int 0, .int 0, .int 0, .int 0]))] sz) (fun (u : Unit) => [(o, .inr (2, [.int (nI 0), .int (nI k), .int (nI n), .int (nI 8), .int (nI 8), .int (nI 1), .int (nI k), .int (nI n)]))])) (va_A [(o, .inr (2, [.int 0, .int 0, .int 0, .int 0, .int 0, .int 0, .int 0, .int 0]))] sz)) 0 0 (va_A [(o, .inr (2, [.int 0, .int 0, .int 0, .int 0, .int 0, .int 0, .int 0, .int 0]))] sz) := by
  refine sq_met (fun A => va_Qv (fun (u : Unit) => True) (sq_B D A (fun (u : Unit) => [(o, .inr (2, [.int (nI 0), .int (nI k), .int (nI n), .int (nI 8), .int (nI 8), .int (nI 1), .int (nI k), .int (nI n)]))])) A) (by decide) (Nat.le_of_ble_eq_true rfl) ?_
  intro p e s m below meth c A hx hb hr hlocks hml hown hin htz hP hK hD hE hS hA ls hl
  have hts : ∀ w ∈ lw_all, w.before _ s = true := fun w h => htz w (zq_in h)
  have hl : lv_has ls 7 [(0, .ref o), (1, .int (nI 0)), (2, .int (nI k)), (3, .int (nI n)), (4, .int (nI 8)), (5, .int (nI 8)), (6, .int (nI 1))] := hl
  refine lv_aload_n hx hb dX2_init_0 rfl (lv_at hl 0 rfl) ?_
  refine lv_iload_n hx hb dX2_init_1 rfl (lv_at hl 1 rfl) ?_
  refine lv_iload_n hx hb dX2_init_2 rfl (lv_at hl 2 rfl) ?_
  refine lv_iload_n hx hb dX2_init_3 rfl (lv_at hl 3 rfl) ?_
  refine lv_iload hx hb dX2_init_4 (lv_at hl 4 rfl) ?_
  refine lv_iload hx hb dX2_init_6 (lv_at hl 5 rfl) ?_
  refine lv_iload hx hb dX2_init_8 (lv_at hl 6 rfl) ?_
  refine lv_iload_n hx hb dX2_init_10 rfl (lv_at hl 2 rfl) ?_
  refine lv_iload_n hx hb dX2_init_11 rfl (lv_at hl 3 rfl) ?_
  refine sq_retv (wc := [(o, .inr (2, [.int 0, .int 0, .int 0, .int 0, .int 0, .int 0, .int 0, .int 0]))]) (wr := []) hP hD hS hA [0] [] rfl rfl (by decide) (by decide) (va_runI (As := [.int (nI 0), .int (nI k), .int (nI n), .int (nI 8), .int (nI 8), .int (nI 1), .int (nI k), .int (nI n)]) (rest := []) ⟨hx, hb, hml, hown, htz⟩ (mt_symInit2 l s.heap.size o k n) (cwI 8 htz (z_meth q187) rfl rfl rfl (hts _ q7) (hts _ q185) (hts _ q186) rfl (by decide +kernel) ⟨(Nat.le_of_ble_eq_true rfl), (Nat.le_of_ble_eq_true rfl)⟩) (sq_preS (wc := [(o, .inr (2, [.int 0, .int 0, .int 0, .int 0, .int 0, .int 0, .int 0, .int 0]))]) hP hD hK hE hS hA [0] rfl (by decide)) rfl rfl hl.1 rfl (lv_room (Nat.le_of_ble_eq_true rfl)) dX2_init_12 ⟨(Nat.le_of_ble_eq_true rfl), (Nat.le_of_ble_eq_true rfl)⟩) (fun u H locs _ hP hD hS => ?_)
  have hP : va_P D sqCl [(o, .inr (2, [.int (nI 0), .int (nI k), .int (nI n), .int (nI 8), .int (nI 8), .int (nI 1), .int (nI k), .int (nI n)]))] H := hP
  have hD : va_D A [(o, .inr (2, [.int (nI 0), .int (nI k), .int (nI n), .int (nI 8), .int (nI 8), .int (nI 1), .int (nI k), .int (nI n)]))] := hD
  exact sq_vret () hx hb hr hlocks (trivial) (hP.sub [0] rfl) (hD.sub [0] (by decide) rfl) hS dX2_init_15
set_option maxHeartbeats 4000000 in
set_option maxRecDepth 100000 in
theorem mt_dataCap (sz : Nat) (y k n : Nat)  : Met l yX2_getDataCapacity (wz_ yX2_getDataCapacity cX2_getDataCapacity 1 (some .int)) ({ frames := 0, cells := 0, slots := 0, locals := 0 }) (sq_Pc D (sqT dB dH dN) ro ad b L xs [.ref y] sz [(y, .inr (2, [.int (nI 0), .int (nI k), .int (nI n), .int (nI 8), .int (nI 8), .int (nI 1), .int (nI k), .int (nI n)]))]) (va_Qi (fun (r : Int32) (u : Unit) => r = nI k) (sq_B D (va_A [(y, .inr (2, [.int (nI 0), .int (nI k), .int (nI n), .int (nI 8), .int (nI 8), .int (nI 1), .int (nI k), .int (nI n)]))] sz) (fun (u : Unit) => [(y, .inr (2, [.int (nI 0), .int (nI k), .int (nI n), .int (nI 8), .int (nI 8), .int (nI 1), .int (nI k), .int (nI n)]))])) (va_A [(y, .inr (2, [.int (nI 0), .int (nI k), .int (nI n), .int (nI 8), .int (nI 8), .int (nI 1), .int (nI k), .int (nI n)]))] sz)) 0 0 (va_A [(y, .inr (2, [.int (nI 0), .int (nI k), .int (nI n), .int (nI 8), .int (nI 8), .int (nI 1), .int (nI k), .int (nI n)]))] sz) := by
  refine sq_met (fun A => va_Qi (fun (r : Int32) (u : Unit) => r = nI k) (sq_B D A (fun (u : Unit) => [(y, .inr (2, [.int (nI 0), .int (nI k), .int (nI n), .int (nI 8), .int (nI 8), .int (nI 1), .int (nI k), .int (nI n)]))])) A) (by decide) (Nat.le_of_ble_eq_true rfl) ?_
  intro p e s m below meth c A hx hb hr hlocks hml hown hin htz hP hK hD hE hS hA ls hl
  have hts : ∀ w ∈ lw_all, w.before _ s = true := fun w h => htz w (zq_in h)
  have hl : lv_has ls 1 [(0, .ref y)] := hl
  refine lv_aload_n hx hb dX2_getDataCapacity_0 rfl (lv_at hl 0 rfl) ?_
  refine va_get (D := D) (ci := 2) (v := .int (nI k)) (C := RX2) (T := TX2) (N := 8) hx hb hts in_X2 hown hK hP 0 rfl rfl 1 (by decide) (hts _ q190) (fun _ h9 => h9) rfl dX2_getDataCapacity_1 ?_
  exact sq_iret () hx hb hr hlocks (rfl) (rfl) (hP.sub [0] rfl) (hD.sub [0] (by decide) rfl) hS dX2_getDataCapacity_4
set_option maxHeartbeats 4000000 in
set_option maxRecDepth 100000 in
theorem mt_errCode (sz : Nat) (y k n : Nat)  : Met l yX2_getErrorCodewords (wz_ yX2_getErrorCodewords cX2_getErrorCodewords 1 (some .int)) ({ frames := 0, cells := 0, slots := 0, locals := 0 }) (sq_Pc D (sqT dB dH dN) ro ad b L xs [.ref y] sz [(y, .inr (2, [.int (nI 0), .int (nI k), .int (nI n), .int (nI 8), .int (nI 8), .int (nI 1), .int (nI k), .int (nI n)]))]) (va_Qi (fun (r : Int32) (u : Unit) => r = nI n) (sq_B D (va_A [(y, .inr (2, [.int (nI 0), .int (nI k), .int (nI n), .int (nI 8), .int (nI 8), .int (nI 1), .int (nI k), .int (nI n)]))] sz) (fun (u : Unit) => [(y, .inr (2, [.int (nI 0), .int (nI k), .int (nI n), .int (nI 8), .int (nI 8), .int (nI 1), .int (nI k), .int (nI n)]))])) (va_A [(y, .inr (2, [.int (nI 0), .int (nI k), .int (nI n), .int (nI 8), .int (nI 8), .int (nI 1), .int (nI k), .int (nI n)]))] sz)) 0 0 (va_A [(y, .inr (2, [.int (nI 0), .int (nI k), .int (nI n), .int (nI 8), .int (nI 8), .int (nI 1), .int (nI k), .int (nI n)]))] sz) := by
  refine sq_met (fun A => va_Qi (fun (r : Int32) (u : Unit) => r = nI n) (sq_B D A (fun (u : Unit) => [(y, .inr (2, [.int (nI 0), .int (nI k), .int (nI n), .int (nI 8), .int (nI 8), .int (nI 1), .int (nI k), .int (nI n)]))])) A) (by decide) (Nat.le_of_ble_eq_true rfl) ?_
  intro p e s m below meth c A hx hb hr hlocks hml hown hin htz hP hK hD hE hS hA ls hl
  have hts : ∀ w ∈ lw_all, w.before _ s = true := fun w h => htz w (zq_in h)
  have hl : lv_has ls 1 [(0, .ref y)] := hl
  refine lv_aload_n hx hb dX2_getErrorCodewords_0 rfl (lv_at hl 0 rfl) ?_
  refine va_get (D := D) (ci := 2) (v := .int (nI n)) (C := RX2) (T := TX2) (N := 8) hx hb hts in_X2 hown hK hP 0 rfl rfl 2 (by decide) (hts _ q191) (fun _ h9 => h9) rfl dX2_getErrorCodewords_1 ?_
  exact sq_iret () hx hb hr hlocks (rfl) (rfl) (hP.sub [0] rfl) (hD.sub [0] (by decide) rfl) hS dX2_getErrorCodewords_4
set_option maxHeartbeats 4000000 in
set_option maxRecDepth 100000 in
theorem mt_blocks (sz : Nat) (y k n : Nat) (h0 : 0 < k) (h1 : k < 2 ^ 31) : Met l yX2_getInterleavedBlockCount (wz_ yX2_getInterleavedBlockCount cX2_getInterleavedBlockCount 1 (some .int)) ({ frames := 0, cells := 0, slots := 0, locals := 0 }) (sq_Pc D (sqT dB dH dN) ro ad b L xs [.ref y] sz [(y, .inr (2, [.int (nI 0), .int (nI k), .int (nI n), .int (nI 8), .int (nI 8), .int (nI 1), .int (nI k), .int (nI n)]))]) (va_Qi (fun (r : Int32) (u : Unit) => r = nI 1) (sq_B D (va_A [(y, .inr (2, [.int (nI 0), .int (nI k), .int (nI n), .int (nI 8), .int (nI 8), .int (nI 1), .int (nI k), .int (nI n)]))] sz) (fun (u : Unit) => [(y, .inr (2, [.int (nI 0), .int (nI k), .int (nI n), .int (nI 8), .int (nI 8), .int (nI 1), .int (nI k), .int (nI n)]))])) (va_A [(y, .inr (2, [.int (nI 0), .int (nI k), .int (nI n), .int (nI 8), .int (nI 8), .int (nI 1), .int (nI k), .int (nI n)]))] sz)) 0 0 (va_A [(y, .inr (2, [.int (nI 0), .int (nI k), .int (nI n), .int (nI 8), .int (nI 8), .int (nI 1), .int (nI k), .int (nI n)]))] sz) := by
  refine sq_met (fun A => va_Qi (fun (r : Int32) (u : Unit) => r = nI 1) (sq_B D A (fun (u : Unit) => [(y, .inr (2, [.int (nI 0), .int (nI k), .int (nI n), .int (nI 8), .int (nI 8), .int (nI 1), .int (nI k), .int (nI n)]))])) A) (by decide) (Nat.le_of_ble_eq_true rfl) ?_
  intro p e s m below meth c A hx hb hr hlocks hml hown hin htz hP hK hD hE hS hA ls hl
  have hts : ∀ w ∈ lw_all, w.before _ s = true := fun w h => htz w (zq_in h)
  have hl : lv_has ls 1 [(0, .ref y)] := hl
  refine lv_aload_n hx hb dX2_getInterleavedBlockCount_0 rfl (lv_at hl 0 rfl) ?_
  refine va_get (D := D) (ci := 2) (v := .int (nI k)) (C := RX2) (T := TX2) (N := 8) hx hb hts in_X2 hown hK hP 0 rfl rfl 1 (by decide) (hts _ q190) (fun _ h9 => h9) rfl dX2_getInterleavedBlockCount_1 ?_
  refine lv_aload_n hx hb dX2_getInterleavedBlockCount_4 rfl (lv_at hl 0 rfl) ?_
  refine va_get (D := D) (ci := 2) (v := .int (nI k)) (C := RX2) (T := TX2) (N := 8) hx hb hts in_X2 hown hK hP 0 rfl rfl 6 (by decide) (hts _ q195) (fun _ h9 => h9) rfl dX2_getInterleavedBlockCount_5 ?_
  refine lv_idiv hx hb dX2_getInterleavedBlockCount_8 (nI_ne0 h0 h1) (sq_top (y := nI 1) (by rw [pk_div h1 h0 h1, Nat.div_self h0]) ?_)
  exact sq_iret () hx hb hr hlocks (rfl) (rfl) (hP.sub [0] rfl) (hD.sub [0] (by decide) rfl) hS dX2_getInterleavedBlockCount_9
set_option maxHeartbeats 4000000 in
set_option maxRecDepth 100000 in
theorem mt_create (sz : Nat) (q v K n ti : Nat) (t : Nat → Nat) (hK1 : K ≤ 62) (hn0 : 5 ≤ n) (hn1 : n ≤ 36) (hti : ti < 16) (hS0 : gf_S ti = n) (hS1 : ∀ i, i < ti → gf_S i ≠ n) (hF : (gf_FL.getD ti []).length = n) (hG : ∀ j, j < n → gf_P ti j < 256 ∧ gf_P ti j ≠ 0) (ht : ∀ j, t j < 256) : Met l yX3_createECCBlock (wz_ yX3_createECCBlock cX3_createECCBlock 8 (some (.object "java/lang/String"))) ({ frames := 5, cells := 4, slots := 174, locals := 117 }) (sq_Pc D (sqT dB dH dN) ro ad b L xs [.ref q, .int (nI n)] sz [(q, .inr (0, [.ref v, .int 0, .int 0, .int 0])), (v, eB dB K t)]) (va_Qr (fun (u : Nat) => True) (sq_R D (va_A [(q, .inr (0, [.ref v, .int 0, .int 0, .int 0])), (v, eB dB K t)] sz) (fun (u : Nat) (ra : Nat) => [(q, .inr (0, [.ref v, .int 0, .int 0, .int 0])), (v, eB dB K t), (ra, .inr (0, [.ref u, .int 0, .int 0, .int 0])), (u, eB dB n (fun j => ecF n (gf_P ti) t K (n - 1 - j)))])) (va_A [(q, .inr (0, [.ref v, .int 0, .int 0, .int 0])), (v, eB dB K t)] sz)) 4 174 (va_A [(q, .inr (0, [.ref v, .int 0, .int 0, .int 0])), (v, eB dB K t)] sz) := by
  refine sq_met (fun A => va_Qr (fun (u : Nat) => True) (sq_R D A (fun (u : Nat) (ra : Nat) => [(q, .inr (0, [.ref v, .int 0, .int 0, .int 0])), (v, eB dB K t), (ra, .inr (0, [.ref u, .int 0, .int 0, .int 0])), (u, eB dB n (fun j => ecF n (gf_P ti) t K (n - 1 - j)))])) A) (by decide) (Nat.le_of_ble_eq_true rfl) ?_
  intro p e s m below meth c A hx hb hr hlocks hml hown hin htz hP hK hD hE hS hA ls hl
  have hts : ∀ w ∈ lw_all, w.before _ s = true := fun w h => htz w (zq_in h)
  have hl : lv_has ls 8 [(0, .ref q), (1, .int (nI n))] := hl
  refine lv_iconst (v := -1) hx hb dX3_createECCBlock_0 (by decide) ?_
  refine lv_istore_n (lv' := [(2, .int (-1)), (0, .ref q), (1, .int (nI n))]) hx hb dX3_createECCBlock_1 rfl hl (by decide) rfl (fun ls hl => ?_)
  refine lv_iconst (v := nI 0) hx hb dX3_createECCBlock_2 (by decide) ?_
  refine lv_istore_n (lv' := [(3, .int (nI 0)), (2, .int (-1)), (0, .ref q), (1, .int (nI n))]) hx hb dX3_createECCBlock_3 rfl hl (by decide) rfl (fun ls hl => ?_)
  refine sq_loop (fun (i : Nat) H locs ls => va_P D sqCl [(q, .inr (0, [.ref v, .int 0, .int 0, .int 0])), (v, eB dB K t)] H ∧ va_D A [(q, .inr (0, [.ref v, .int 0, .int 0, .int 0])), (v, eB dB K t)] ∧ va_S A s.heap H locs ∧ lv_has ls 8 [(0, .ref q), (1, .int (nI n)), (2, .int (-1)), (3, .int (nI i))]) ti ?_ 0 _ _ _ (Nat.zero_le _) ⟨hP.sub [0, 1] rfl, hD.sub [0, 1] (by decide) rfl, hS, lv_sub hl [2, 3, 1, 0] rfl⟩
  intro i H locs ls h_i hI ih
  obtain ⟨hP, hD, hS, hl⟩ := hI
  refine lv_iload_n hx hb dX3_createECCBlock_4 rfl (lv_at hl 3 rfl) ?_
  refine sq_gs (v := .ref (ad 4)) 6 rfl hx hb hE hS hown (hts _ q412) (fun _ h9 => h9) dX3_createECCBlock_5 ?_
  refine sq_tl (z := sq_z4) hx hb hE hS (List.mem_of_getElem? (i := 4) rfl) dX3_createECCBlock_8 ?_
  refine sq_top (y := nI 16) (congrArg nI len_SL) ?_
  refine sq_ge (tgt := 32) hx hb dX3_createECCBlock_9 (by decide) (by omega) (by omega) (fun hc => by exfalso; omega) (fun hc => ?_)
  refine sq_gs (v := .ref (ad 4)) 6 rfl hx hb hE hS hown (hts _ q412) (fun _ h9 => h9) dX3_createECCBlock_12 ?_
  refine lv_iload_n hx hb dX3_createECCBlock_15 rfl (lv_at hl 3 rfl) ?_
  refine sq_ti (z := sq_z4) hx hb hE hS (List.mem_of_getElem? (i := 4) rfl) (by rw [len_SL]; omega) (by rw [len_SL]; decide) dX3_createECCBlock_16 ?_
  refine sq_top (y := nI (gf_S i)) (rfl) ?_
  refine lv_iload_n hx hb dX3_createECCBlock_17 rfl (lv_at hl 1 rfl) ?_
  have hSi : gf_S i < 2 ^ 31 := by
    by_cases e0 : i < 16
    · exact (show ∀ i, i < 16 → gf_S i < 2 ^ 31 by decide +kernel) i e0
    · omega
  refine sq_ne (tgt := 26) hx hb dX3_createECCBlock_18 (by decide) (hSi) (by omega) (fun hc2 => ?_) (fun hc2 => ?_)
  · have hlt : i < ti := by
      rcases Nat.lt_or_ge i ti with e0 | e0
      · exact e0
      · exact absurd (by rw [show i = ti by omega]; exact hS0) hc2
    refine lv_iinc (v := nI (i + 1)) (lv' := [(3, .int (nI (i + 1))), (0, .ref q), (1, .int (nI n)), (2, .int (-1))]) hx hb dX3_createECCBlock_26 hl (k := 3) rfl (nI_1 i) (by decide) rfl (fun ls hl => ?_)
    refine lv_goto (tgt := 4) hx hb dX3_createECCBlock_29 (by decide) ?_
    exact ih _ _ _ (hlt) ⟨hP.sub [0, 1] rfl, hD.sub [0, 1] (by decide) rfl, hS, lv_sub hl [1, 2, 3, 0] rfl⟩
  · obtain rfl : i = ti := by
      rcases Nat.lt_or_ge i ti with e0 | e0
      · exact absurd hc2 (hS1 i e0)
      · omega
    refine lv_iload_n hx hb dX3_createECCBlock_21 rfl (lv_at hl 3 rfl) ?_
    refine lv_istore_n (lv' := [(2, .int (nI i)), (0, .ref q), (1, .int (nI n)), (3, .int (nI i))]) hx hb dX3_createECCBlock_22 rfl hl (by decide) rfl (fun ls hl => ?_)
    refine lv_goto (tgt := 32) hx hb dX3_createECCBlock_23 (by decide) ?_
    refine lv_iload_n hx hb dX3_createECCBlock_32 rfl (lv_at hl 0 rfl) ?_
    refine sq_if_ge (tgt := 46) hx hb dX3_createECCBlock_33 (by decide) (by omega) ?_
    refine sq_gs (v := .ref (ad 5)) 7 rfl hx hb hE hS hown (hts _ q415) (fun _ h9 => h9) dX3_createECCBlock_46 ?_
    refine lv_iload_n hx hb dX3_createECCBlock_49 rfl (lv_at hl 0 rfl) ?_
    refine sq_tq hx hb hE hS hti dX3_createECCBlock_50 ?_
    refine lv_astore_n (lv' := [(3, .ref (ad (16 + i))), (2, .int (nI i)), (0, .ref q), (1, .int (nI n))]) hx hb dX3_createECCBlock_51 rfl hl (by decide) rfl (fun ls hl => ?_)
    refine lv_iload_n hx hb dX3_createECCBlock_52 rfl (lv_at hl 3 rfl) ?_
    refine sq_newH hx hb (hts _ q35) hK hP hD hS hA 1 36 (by omega) (by omega) (by omega) (Nat.le_of_ble_eq_true rfl) (Nat.le_of_ble_eq_true rfl) dX3_createECCBlock_53 (fun d H hP hD hS => ?_)
    have hP : va_P D sqCl [(q, .inr (0, [.ref v, .int 0, .int 0, .int 0])), (v, eB dB K t), (d, eN dH n (fun _ => 0))] H := hP
    have hD : va_D A [(q, .inr (0, [.ref v, .int 0, .int 0, .int 0])), (v, eB dB K t), (d, eN dH n (fun _ => 0))] := hD
    refine lv_astore (lv' := [(4, .ref d), (3, .ref (ad (16 + i))), (2, .int (nI i)), (0, .ref q), (1, .int (nI n))]) hx hb dX3_createECCBlock_55 hl (by decide) rfl (fun ls hl => ?_)
    refine lv_iconst (v := nI 0) hx hb dX3_createECCBlock_57 (by decide) ?_
    refine lv_istore (lv' := [(5, .int (nI 0)), (4, .ref d), (3, .ref (ad (16 + i))), (2, .int (nI i)), (0, .ref q), (1, .int (nI n))]) hx hb dX3_createECCBlock_58 hl (by decide) rfl (fun ls hl => ?_)
    refine sq_loop (fun (k : Nat) H locs ls => va_P D sqCl [(q, .inr (0, [.ref v, .int 0, .int 0, .int 0])), (v, eB dB K t), (d, eN dH n (fun _ => 0))] H ∧ va_D A [(q, .inr (0, [.ref v, .int 0, .int 0, .int 0])), (v, eB dB K t), (d, eN dH n (fun _ => 0))] ∧ va_S A s.heap H locs ∧ lv_has ls 8 [(0, .ref q), (1, .int (nI n)), (2, .int (nI i)), (3, .ref (ad (16 + i))), (4, .ref d), (5, .int (nI k))]) n ?_ 0 _ _ _ (Nat.zero_le _) ⟨hP.sub [0, 1, 2] rfl, hD.sub [0, 1, 2] (by decide) rfl, hS, lv_sub hl [4, 5, 3, 2, 1, 0] rfl⟩
    intro k H locs ls h_k hI ih2
    obtain ⟨hP, hD, hS, hl⟩ := hI
    refine lv_iload hx hb dX3_createECCBlock_60 (lv_at hl 5 rfl) ?_
    refine lv_iload_n hx hb dX3_createECCBlock_62 rfl (lv_at hl 1 rfl) ?_
    refine sq_ge (tgt := 78) hx hb dX3_createECCBlock_63 (by decide) (by omega) (by omega) (fun hc3 => ?_) (fun hc3 => ?_)
    rotate_left
    · skip
      refine lv_aload hx hb dX3_createECCBlock_66 (lv_at hl 4 rfl) ?_
      refine lv_iload hx hb dX3_createECCBlock_68 (lv_at hl 5 rfl) ?_
      refine lv_iconst (v := nI 0) hx hb dX3_createECCBlock_70 (by decide) ?_
      refine sq_cast hx hb hK hP hD hS 2 rfl (hc3) (by omega) (by decide) dX3_createECCBlock_71 (fun H locs hP hD hS => ?_)
      have hP : va_P D sqCl [(q, .inr (0, [.ref v, .int 0, .int 0, .int 0])), (v, eB dB K t), (d, eN dH n (va_up (fun _ => 0) k 0))] H := hP
      have hD : va_D A [(q, .inr (0, [.ref v, .int 0, .int 0, .int 0])), (v, eB dB K t), (d, eN dH n (va_up (fun _ => 0) k 0))] := hD
      obtain ⟨hP, hD⟩ := sq_cg (g := fun j => nI ((fun _ => 0) j)) hP hD 2 rfl (fun j hj => congrArg nI (up_0 rfl))
      have hP : va_P D sqCl [(q, .inr (0, [.ref v, .int 0, .int 0, .int 0])), (v, eB dB K t), (d, eN dH n (fun _ => 0))] H := hP
      have hD : va_D A [(q, .inr (0, [.ref v, .int 0, .int 0, .int 0])), (v, eB dB K t), (d, eN dH n (fun _ => 0))] := hD
      refine lv_iinc (v := nI (k + 1)) (lv' := [(5, .int (nI (k + 1))), (0, .ref q), (1, .int (nI n)), (2, .int (nI i)), (3, .ref (ad (16 + i))), (4, .ref d)]) hx hb dX3_createECCBlock_72 hl (k := 5) rfl (nI_1 k) (by decide) rfl (fun ls hl => ?_)
      refine lv_goto (tgt := 60) hx hb dX3_createECCBlock_75 (by decide) ?_
      exact ih2 _ _ _ (hc3) ⟨hP.sub [0, 1, 2] rfl, hD.sub [0, 1, 2] (by decide) rfl, hS, lv_sub hl [1, 2, 3, 4, 5, 0] rfl⟩
    refine lv_iconst (v := nI 0) hx hb dX3_createECCBlock_78 (by decide) ?_
    refine lv_istore (lv' := [(5, .int (nI 0)), (0, .ref q), (1, .int (nI n)), (2, .int (nI i)), (3, .ref (ad (16 + i))), (4, .ref d)]) hx hb dX3_createECCBlock_79 hl (by decide) rfl (fun ls hl => ?_)
    obtain ⟨hP, hD⟩ := sq_cg (g := fun j => nI ((ecF n (gf_P i) t 0) j)) hP hD 2 rfl (fun j hj => congrArg nI (rfl))
    have hP : va_P D sqCl [(q, .inr (0, [.ref v, .int 0, .int 0, .int 0])), (v, eB dB K t), (d, eN dH n (ecF n (gf_P i) t 0))] H := hP
    have hD : va_D A [(q, .inr (0, [.ref v, .int 0, .int 0, .int 0])), (v, eB dB K t), (d, eN dH n (ecF n (gf_P i) t 0))] := hD
    refine sq_loop (fun (a : Nat) H locs ls => va_P D sqCl [(q, .inr (0, [.ref v, .int 0, .int 0, .int 0])), (v, eB dB K t), (d, eN dH n (ecF n (gf_P i) t a))] H ∧ va_D A [(q, .inr (0, [.ref v, .int 0, .int 0, .int 0])), (v, eB dB K t), (d, eN dH n (ecF n (gf_P i) t a))] ∧ va_S A s.heap H locs ∧ lv_has ls 8 [(0, .ref q), (1, .int (nI n)), (2, .int (nI i)), (3, .ref (ad (16 + i))), (4, .ref d), (5, .int (nI a))]) K ?_ 0 _ _ _ (Nat.zero_le _) ⟨hP.sub [0, 1, 2] rfl, hD.sub [0, 1, 2] (by decide) rfl, hS, lv_sub hl [1, 2, 3, 4, 5, 0] rfl⟩
    intro a H locs ls h_a hI ih3
    obtain ⟨hP, hD, hS, hl⟩ := hI
    refine lv_iload hx hb dX3_createECCBlock_81 (lv_at hl 5 rfl) ?_
    refine lv_aload_n hx hb dX3_createECCBlock_83 rfl (lv_at hl 0 rfl) ?_
    refine sq_retFi (wc := [(q, .inr (0, [.ref v, .int 0, .int 0, .int 0])), (v, eB dB K t)]) (wr := [(d, eN dH n (ecF n (gf_P i) t a))]) hP hD hS hA [0, 1] [2] rfl rfl (by decide) (by decide) (va_runF (As := []) (rest := [.int (nI a)]) (hK.1 0 _ rfl).2 ⟨hx, hb, hml, hown, htz⟩ (mt_length l H.size q v K t) (va_cwF 0 htz (z_F q418 q422 q51 q3 q53) rfl rfl rfl hE.2.2.2.2.1 (by decide +kernel) ⟨(Nat.le_of_ble_eq_true rfl), (Nat.le_of_ble_eq_true rfl)⟩) (sq_preV (wc := [(q, .inr (0, [.ref v, .int 0, .int 0, .int 0])), (v, eB dB K t)]) (va_recv hK hP (ci := 0) (q0 := 0) rfl rfl) hP hD hK hE hS hA [0, 1] rfl (by decide)) rfl rfl hl.1 rfl (lv_room (Nat.le_of_ble_eq_true rfl)) dX3_createECCBlock_84 ⟨(Nat.le_of_ble_eq_true rfl), (Nat.le_of_ble_eq_true rfl)⟩) (fun r u H locs hw hP hD hS => ?_)
    rw [hw]
    have hP : va_P D sqCl [(d, eN dH n (ecF n (gf_P i) t a)), (q, .inr (0, [.ref v, .int 0, .int 0, .int 0])), (v, eB dB K t)] H := hP
    have hD : va_D A [(d, eN dH n (ecF n (gf_P i) t a)), (q, .inr (0, [.ref v, .int 0, .int 0, .int 0])), (v, eB dB K t)] := hD
    refine sq_ge (tgt := 241) hx hb dX3_createECCBlock_89 (by decide) (by omega) (by omega) (fun hc4 => ?_) (fun hc4 => ?_)
    rotate_left
    · skip
      refine lv_aload hx hb dX3_createECCBlock_92 (lv_at hl 4 rfl) ?_
      refine lv_iload_n hx hb dX3_createECCBlock_94 rfl (lv_at hl 1 rfl) ?_
      refine lv_iconst (v := nI 1) hx hb dX3_createECCBlock_95 (by decide) ?_
      refine sq_isub hx hb dX3_createECCBlock_96 (by omega) ?_
      refine sq_cald hx hb hK hP 0 rfl (by omega) (by omega) dX3_createECCBlock_97 ?_
      refine lv_aload_n hx hb dX3_createECCBlock_98 rfl (lv_at hl 0 rfl) ?_
      refine lv_iload hx hb dX3_createECCBlock_99 (lv_at hl 5 rfl) ?_
      refine sq_retFi (wc := [(q, .inr (0, [.ref v, .int 0, .int 0, .int 0])), (v, eB dB K t)]) (wr := [(d, eN dH n (ecF n (gf_P i) t a))]) hP hD hS hA [1, 2] [0] rfl rfl (by decide) (by decide) (va_runF (As := [.int (nI a)]) (rest := [.int (nI ((ecF n (gf_P i) t a) (n - 1)))]) (hK.1 0 _ rfl).2 ⟨hx, hb, hml, hown, htz⟩ (mt_charAt l H.size q v K a t hc4 (by omega) ht) (va_cwF 1 htz (z_F q435 q438 q61 q3 q63) rfl rfl rfl hE.2.2.2.2.2.1 (by decide +kernel) ⟨(Nat.le_of_ble_eq_true rfl), (Nat.le_of_ble_eq_true rfl)⟩) (sq_preV (wc := [(q, .inr (0, [.ref v, .int 0, .int 0, .int 0])), (v, eB dB K t)]) (va_recv hK hP (ci := 0) (q0 := 1) rfl rfl) hP hD hK hE hS hA [1, 2] rfl (by decide)) rfl rfl hl.1 rfl (lv_room (Nat.le_of_ble_eq_true rfl)) dX3_createECCBlock_101 ⟨(Nat.le_of_ble_eq_true rfl), (Nat.le_of_ble_eq_true rfl)⟩) (fun r u H locs hw hP hD hS => ?_)
      rw [hw]
      have hP : va_P D sqCl [(d, eN dH n (ecF n (gf_P i) t a)), (q, .inr (0, [.ref v, .int 0, .int 0, .int 0])), (v, eB dB K t)] H := hP
      have hD : va_D A [(d, eN dH n (ecF n (gf_P i) t a)), (q, .inr (0, [.ref v, .int 0, .int 0, .int 0])), (v, eB dB K t)] := hD
      refine sq_ixor hx hb dX3_createECCBlock_106 ?_
      refine sq_top (y := nI (ecM n (ecF n (gf_P i) t a) (t a))) (rfl) ?_
      refine lv_istore (lv' := [(6, .int (nI (ecM n (ecF n (gf_P i) t a) (t a)))), (0, .ref q), (1, .int (nI n)), (2, .int (nI i)), (3, .ref (ad (16 + i))), (4, .ref d), (5, .int (nI a))]) hx hb dX3_createECCBlock_107 hl (by decide) rfl (fun ls hl => ?_)
      refine lv_iload_n hx hb dX3_createECCBlock_109 rfl (lv_at hl 2 rfl) ?_
      refine lv_iconst (v := nI 1) hx hb dX3_createECCBlock_110 (by decide) ?_
      refine sq_isub hx hb dX3_createECCBlock_111 (by omega) ?_
      refine sq_top (y := nI (n - 1 - 0)) (rfl) ?_
      refine lv_istore (lv' := [(7, .int (nI (n - 1 - 0))), (6, .int (nI (ecM n (ecF n (gf_P i) t a) (t a)))), (0, .ref q), (1, .int (nI n)), (2, .int (nI i)), (3, .ref (ad (16 + i))), (4, .ref d), (5, .int (nI a))]) hx hb dX3_createECCBlock_112 hl (by decide) rfl (fun ls hl => ?_)
      have hM : ecM n (ecF n (gf_P i) t a) (t a) < 256 := x8 (ecF_lt _ _) (ht a)
      obtain ⟨hP, hD⟩ := sq_cg (g := fun j => nI ((zd n (gf_P i) (ecF n (gf_P i) t a) (t a) 0) j)) hP hD 0 rfl (fun j hj => congrArg nI (zd_0 hj))
      have hP : va_P D sqCl [(d, eN dH n (zd n (gf_P i) (ecF n (gf_P i) t a) (t a) 0)), (q, .inr (0, [.ref v, .int 0, .int 0, .int 0])), (v, eB dB K t)] H := hP
      have hD : va_D A [(d, eN dH n (zd n (gf_P i) (ecF n (gf_P i) t a) (t a) 0)), (q, .inr (0, [.ref v, .int 0, .int 0, .int 0])), (v, eB dB K t)] := hD
      refine sq_loop (fun (r : Nat) H locs ls => va_P D sqCl [(q, .inr (0, [.ref v, .int 0, .int 0, .int 0])), (v, eB dB K t), (d, eN dH n (zd n (gf_P i) (ecF n (gf_P i) t a) (t a) r))] H ∧ va_D A [(q, .inr (0, [.ref v, .int 0, .int 0, .int 0])), (v, eB dB K t), (d, eN dH n (zd n (gf_P i) (ecF n (gf_P i) t a) (t a) r))] ∧ va_S A s.heap H locs ∧ lv_has ls 8 [(0, .ref q), (1, .int (nI n)), (2, .int (nI i)), (3, .ref (ad (16 + i))), (4, .ref d), (5, .int (nI a)), (6, .int (nI (ecM n (ecF n (gf_P i) t a) (t a)))), (7, .int (nI (n - 1 - r)))]) (n - 1) ?_ 0 _ _ _ (Nat.zero_le _) ⟨hP.sub [1, 2, 0] rfl, hD.sub [1, 2, 0] (by decide) rfl, hS, lv_sub hl [2, 3, 4, 5, 6, 7, 1, 0] rfl⟩
      intro r H locs ls h_r hI ih4
      obtain ⟨hP, hD, hS, hl⟩ := hI
      refine lv_iload hx hb dX3_createECCBlock_114 (lv_at hl 7 rfl) ?_
      refine sq_if_le (tgt := 189) hx hb dX3_createECCBlock_116 (by decide) (by omega) (fun hc5 => ?_) (fun hc5 => ?_)
      rotate_left
      · have hk0 : 0 < n - 1 - r := by omega
        obtain ⟨hG1, hG2⟩ := hG (n - 1 - r) (by omega)
        refine lv_iload hx hb dX3_createECCBlock_119 (lv_at hl 6 rfl) ?_
        refine sq_if_eq (tgt := 171) hx hb dX3_createECCBlock_121 (by decide) (by omega) (fun hm0 => ?_) (fun hm0 => ?_)
        · skip
          refine lv_aload hx hb dX3_createECCBlock_171 (lv_at hl 4 rfl) ?_
          refine lv_iload hx hb dX3_createECCBlock_173 (lv_at hl 7 rfl) ?_
          refine lv_aload hx hb dX3_createECCBlock_175 (lv_at hl 4 rfl) ?_
          refine lv_iload hx hb dX3_createECCBlock_177 (lv_at hl 7 rfl) ?_
          refine lv_iconst (v := nI 1) hx hb dX3_createECCBlock_179 (by decide) ?_
          refine sq_isub hx hb dX3_createECCBlock_180 (by omega) ?_
          refine sq_cald hx hb hK hP 2 rfl (by omega) (by omega) dX3_createECCBlock_181 ?_
          refine sq_top (y := nI ((ecF n (gf_P i) t a) (n - 1 - r - 1))) (by rw [zd_rd (by omega)]) ?_
          refine sq_cast hx hb hK hP hD hS 2 rfl (by omega) (by omega) (by have := ecF_lt (n := n) (g := gf_P i) (t := t) a (n - 1 - r - 1); omega) dX3_createECCBlock_182 (fun H locs hP hD hS => ?_)
          have hP : va_P D sqCl [(q, .inr (0, [.ref v, .int 0, .int 0, .int 0])), (v, eB dB K t), (d, eN dH n (va_up (zd n (gf_P i) (ecF n (gf_P i) t a) (t a) r) (n - 1 - r) ((ecF n (gf_P i) t a) (n - 1 - r - 1))))] H := hP
          have hD : va_D A [(q, .inr (0, [.ref v, .int 0, .int 0, .int 0])), (v, eB dB K t), (d, eN dH n (va_up (zd n (gf_P i) (ecF n (gf_P i) t a) (t a) r) (n - 1 - r) ((ecF n (gf_P i) t a) (n - 1 - r - 1))))] := hD
          obtain ⟨hP, hD⟩ := sq_cg (g := fun j => nI ((zd n (gf_P i) (ecF n (gf_P i) t a) (t a) (r + 1)) j)) hP hD 2 rfl (fun j hj => congrArg nI (zd_up hk0 (by rw [hm0, gm_0l, Nat.xor_zero]) j))
          have hP : va_P D sqCl [(q, .inr (0, [.ref v, .int 0, .int 0, .int 0])), (v, eB dB K t), (d, eN dH n (zd n (gf_P i) (ecF n (gf_P i) t a) (t a) (r + 1)))] H := hP
          have hD : va_D A [(q, .inr (0, [.ref v, .int 0, .int 0, .int 0])), (v, eB dB K t), (d, eN dH n (zd n (gf_P i) (ecF n (gf_P i) t a) (t a) (r + 1)))] := hD
          refine lv_iinc (v := nI (n - 1 - (r + 1))) (lv' := [(7, .int (nI (n - 1 - (r + 1)))), (0, .ref q), (1, .int (nI n)), (2, .int (nI i)), (3, .ref (ad (16 + i))), (4, .ref d), (5, .int (nI a)), (6, .int (nI (ecM n (ecF n (gf_P i) t a) (t a))))]) hx hb dX3_createECCBlock_183 hl (k := 7) rfl (by rw [show Int32.ofInt (-1) = (-1 : Int32) by decide]; exact sb_m1 hk0) (by decide) rfl (fun ls hl => ?_)
          refine lv_goto (tgt := 114) hx hb dX3_createECCBlock_186 (by decide) ?_
          exact ih4 _ _ _ (by omega) ⟨hP.sub [0, 1, 2] rfl, hD.sub [0, 1, 2] (by decide) rfl, hS, lv_sub hl [1, 2, 3, 4, 5, 6, 7, 0] rfl⟩
        · skip
          refine lv_aload_n hx hb dX3_createECCBlock_124 rfl (lv_at hl 3 rfl) ?_
          refine lv_iload hx hb dX3_createECCBlock_125 (lv_at hl 7 rfl) ?_
          refine sq_tf (i := i) hx hb hE hS hti (by rw [hF]; omega) (by rw [hF]; omega) dX3_createECCBlock_127 ?_
          refine sq_if_eq (tgt := 171) hx hb dX3_createECCBlock_128 (by decide) (by omega) (fun hc => absurd hc hG2) (fun hc => ?_)
          refine lv_aload hx hb dX3_createECCBlock_131 (lv_at hl 4 rfl) ?_
          refine lv_iload hx hb dX3_createECCBlock_133 (lv_at hl 7 rfl) ?_
          refine lv_aload hx hb dX3_createECCBlock_135 (lv_at hl 4 rfl) ?_
          refine lv_iload hx hb dX3_createECCBlock_137 (lv_at hl 7 rfl) ?_
          refine lv_iconst (v := nI 1) hx hb dX3_createECCBlock_139 (by decide) ?_
          refine sq_isub hx hb dX3_createECCBlock_140 (by omega) ?_
          refine sq_cald hx hb hK hP 2 rfl (by omega) (by omega) dX3_createECCBlock_141 ?_
          refine sq_top (y := nI ((ecF n (gf_P i) t a) (n - 1 - r - 1))) (by rw [zd_rd (by omega)]) ?_
          refine sq_gs (v := .ref (ad 7)) 9 rfl hx hb hE hS hown (hts _ q452) (fun _ h9 => h9) dX3_createECCBlock_142 ?_
          refine sq_gs (v := .ref (ad 6)) 8 rfl hx hb hE hS hown (hts _ q454) (fun _ h9 => h9) dX3_createECCBlock_145 ?_
          refine lv_iload hx hb dX3_createECCBlock_148 (lv_at hl 6 rfl) ?_
          refine sq_ti (z := sq_z5) hx hb hE hS (List.mem_of_getElem? (i := 5) rfl) (by rw [len_LL]; exact hM) (by rw [len_LL]; decide) dX3_createECCBlock_150 ?_
          refine sq_top (y := nI (gf_L (ecM n (ecF n (gf_P i) t a) (t a)))) (rfl) ?_
          refine sq_gs (v := .ref (ad 6)) 8 rfl hx hb hE hS hown (hts _ q454) (fun _ h9 => h9) dX3_createECCBlock_151 ?_
          refine lv_aload_n hx hb dX3_createECCBlock_154 rfl (lv_at hl 3 rfl) ?_
          refine lv_iload hx hb dX3_createECCBlock_155 (lv_at hl 7 rfl) ?_
          refine sq_tf (i := i) hx hb hE hS hti (by rw [hF]; omega) (by rw [hF]; omega) dX3_createECCBlock_157 ?_
          refine sq_ti (z := sq_z5) hx hb hE hS (List.mem_of_getElem? (i := 5) rfl) (by rw [len_LL]; omega) (by rw [len_LL]; decide) dX3_createECCBlock_158 ?_
          refine sq_top (y := nI (gf_L (gf_P i (n - 1 - r)))) (rfl) ?_
          refine sq_iadd hx hb dX3_createECCBlock_159 ?_
          refine lv_sipush (v := nI 255) hx hb dX3_createECCBlock_160 (by decide) ?_
          refine sq_irem hx hb dX3_createECCBlock_163 (by have h1 := gf_Lt (ecM n (ecF n (gf_P i) t a) (t a)); have h2 := gf_Lt (gf_P i (n - 1 - r)); omega) (by decide) (by decide) ?_
          refine sq_ti (z := sq_z6) hx hb hE hS (List.mem_of_getElem? (i := 6) rfl) (by rw [len_AL]; exact gf_m _) (by rw [len_AL]; decide) dX3_createECCBlock_164 ?_
          refine sq_top (y := nI (gm (ecM n (ecF n (gf_P i) t a) (t a)) (gf_P i (n - 1 - r)))) (congrArg nI (gm_tab hm0 hG2)) ?_
          refine sq_ixor hx hb dX3_createECCBlock_165 ?_
          have hv : ((ecF n (gf_P i) t a) (n - 1 - r - 1)) ^^^ (gm (ecM n (ecF n (gf_P i) t a) (t a)) (gf_P i (n - 1 - r))) < 256 := x8 (ecF_lt _ _) (gm_lt _ _)
          refine sq_i2c hx hb dX3_createECCBlock_166 (by omega) ?_
          refine sq_cast hx hb hK hP hD hS 2 rfl (by omega) (by omega) (by omega) dX3_createECCBlock_167 (fun H locs hP hD hS => ?_)
          have hP : va_P D sqCl [(q, .inr (0, [.ref v, .int 0, .int 0, .int 0])), (v, eB dB K t), (d, eN dH n (va_up (zd n (gf_P i) (ecF n (gf_P i) t a) (t a) r) (n - 1 - r) (((ecF n (gf_P i) t a) (n - 1 - r - 1)) ^^^ (gm (ecM n (ecF n (gf_P i) t a) (t a)) (gf_P i (n - 1 - r))))))] H := hP
          have hD : va_D A [(q, .inr (0, [.ref v, .int 0, .int 0, .int 0])), (v, eB dB K t), (d, eN dH n (va_up (zd n (gf_P i) (ecF n (gf_P i) t a) (t a) r) (n - 1 - r) (((ecF n (gf_P i) t a) (n - 1 - r - 1)) ^^^ (gm (ecM n (ecF n (gf_P i) t a) (t a)) (gf_P i (n - 1 - r))))))] := hD
          obtain ⟨hP, hD⟩ := sq_cg (g := fun j => nI ((zd n (gf_P i) (ecF n (gf_P i) t a) (t a) (r + 1)) j)) hP hD 2 rfl (fun j hj => congrArg nI (zd_up hk0 rfl j))
          have hP : va_P D sqCl [(q, .inr (0, [.ref v, .int 0, .int 0, .int 0])), (v, eB dB K t), (d, eN dH n (zd n (gf_P i) (ecF n (gf_P i) t a) (t a) (r + 1)))] H := hP
          have hD : va_D A [(q, .inr (0, [.ref v, .int 0, .int 0, .int 0])), (v, eB dB K t), (d, eN dH n (zd n (gf_P i) (ecF n (gf_P i) t a) (t a) (r + 1)))] := hD
          refine lv_goto (tgt := 183) hx hb dX3_createECCBlock_168 (by decide) ?_
          refine lv_iinc (v := nI (n - 1 - (r + 1))) (lv' := [(7, .int (nI (n - 1 - (r + 1)))), (0, .ref q), (1, .int (nI n)), (2, .int (nI i)), (3, .ref (ad (16 + i))), (4, .ref d), (5, .int (nI a)), (6, .int (nI (ecM n (ecF n (gf_P i) t a) (t a))))]) hx hb dX3_createECCBlock_183 hl (k := 7) rfl (by rw [show Int32.ofInt (-1) = (-1 : Int32) by decide]; exact sb_m1 hk0) (by decide) rfl (fun ls hl => ?_)
          refine lv_goto (tgt := 114) hx hb dX3_createECCBlock_186 (by decide) ?_
          exact ih4 _ _ _ (by omega) ⟨hP.sub [0, 1, 2] rfl, hD.sub [0, 1, 2] (by decide) rfl, hS, lv_sub hl [1, 2, 3, 4, 5, 6, 7, 0] rfl⟩
      have hG12 := hG 0 (by omega)
      obtain ⟨hG1, hG2⟩ := hG12
      refine lv_iload hx hb dX3_createECCBlock_189 (lv_at hl 6 rfl) ?_
      refine sq_if_eq (tgt := 230) hx hb dX3_createECCBlock_191 (by decide) (by omega) (fun hm0 => ?_) (fun hm0 => ?_)
      · skip
        refine lv_aload hx hb dX3_createECCBlock_230 (lv_at hl 4 rfl) ?_
        refine lv_iconst (v := nI 0) hx hb dX3_createECCBlock_232 (by decide) ?_
        refine lv_iconst (v := nI 0) hx hb dX3_createECCBlock_233 (by decide) ?_
        refine sq_cast hx hb hK hP hD hS 2 rfl (by omega) (by omega) (by decide) dX3_createECCBlock_234 (fun H locs hP hD hS => ?_)
        have hP : va_P D sqCl [(q, .inr (0, [.ref v, .int 0, .int 0, .int 0])), (v, eB dB K t), (d, eN dH n (va_up (zd n (gf_P i) (ecF n (gf_P i) t a) (t a) r) 0 0))] H := hP
        have hD : va_D A [(q, .inr (0, [.ref v, .int 0, .int 0, .int 0])), (v, eB dB K t), (d, eN dH n (va_up (zd n (gf_P i) (ecF n (gf_P i) t a) (t a) r) 0 0))] := hD
        obtain ⟨hP, hD⟩ := sq_cg (g := fun j => nI ((ecF n (gf_P i) t (a + 1)) j)) hP hD 2 rfl (fun j hj => congrArg nI (zd_last hc5 (by rw [hm0, gm_0l]) j))
        have hP : va_P D sqCl [(q, .inr (0, [.ref v, .int 0, .int 0, .int 0])), (v, eB dB K t), (d, eN dH n (ecF n (gf_P i) t (a + 1)))] H := hP
        have hD : va_D A [(q, .inr (0, [.ref v, .int 0, .int 0, .int 0])), (v, eB dB K t), (d, eN dH n (ecF n (gf_P i) t (a + 1)))] := hD
        refine lv_iinc (v := nI (a + 1)) (lv' := [(5, .int (nI (a + 1))), (0, .ref q), (1, .int (nI n)), (2, .int (nI i)), (3, .ref (ad (16 + i))), (4, .ref d), (6, .int (nI (ecM n (ecF n (gf_P i) t a) (t a)))), (7, .int (nI (n - 1 - r)))]) hx hb dX3_createECCBlock_235 hl (k := 5) rfl (nI_1 a) (by decide) rfl (fun ls hl => ?_)
        refine lv_goto (tgt := 81) hx hb dX3_createECCBlock_238 (by decide) ?_
        exact ih3 _ _ _ (hc4) ⟨hP.sub [0, 1, 2] rfl, hD.sub [0, 1, 2] (by decide) rfl, hS, lv_sub hl [1, 2, 3, 4, 5, 0] rfl⟩
      · skip
        refine lv_aload_n hx hb dX3_createECCBlock_194 rfl (lv_at hl 3 rfl) ?_
        refine lv_iconst (v := nI 0) hx hb dX3_createECCBlock_195 (by decide) ?_
        refine sq_tf (i := i) hx hb hE hS hti (by rw [hF]; omega) (by rw [hF]; omega) dX3_createECCBlock_196 ?_
        refine sq_if_eq (tgt := 230) hx hb dX3_createECCBlock_197 (by decide) (by omega) (fun hc => absurd hc hG2) (fun hc => ?_)
        refine lv_aload hx hb dX3_createECCBlock_200 (lv_at hl 4 rfl) ?_
        refine lv_iconst (v := nI 0) hx hb dX3_createECCBlock_202 (by decide) ?_
        refine sq_gs (v := .ref (ad 7)) 9 rfl hx hb hE hS hown (hts _ q452) (fun _ h9 => h9) dX3_createECCBlock_203 ?_
        refine sq_gs (v := .ref (ad 6)) 8 rfl hx hb hE hS hown (hts _ q454) (fun _ h9 => h9) dX3_createECCBlock_206 ?_
        refine lv_iload hx hb dX3_createECCBlock_209 (lv_at hl 6 rfl) ?_
        refine sq_ti (z := sq_z5) hx hb hE hS (List.mem_of_getElem? (i := 5) rfl) (by rw [len_LL]; exact hM) (by rw [len_LL]; decide) dX3_createECCBlock_211 ?_
        refine sq_top (y := nI (gf_L (ecM n (ecF n (gf_P i) t a) (t a)))) (rfl) ?_
        refine sq_gs (v := .ref (ad 6)) 8 rfl hx hb hE hS hown (hts _ q454) (fun _ h9 => h9) dX3_createECCBlock_212 ?_
        refine lv_aload_n hx hb dX3_createECCBlock_215 rfl (lv_at hl 3 rfl) ?_
        refine lv_iconst (v := nI 0) hx hb dX3_createECCBlock_216 (by decide) ?_
        refine sq_tf (i := i) hx hb hE hS hti (by rw [hF]; omega) (by rw [hF]; omega) dX3_createECCBlock_217 ?_
        refine sq_ti (z := sq_z5) hx hb hE hS (List.mem_of_getElem? (i := 5) rfl) (by rw [len_LL]; omega) (by rw [len_LL]; decide) dX3_createECCBlock_218 ?_
        refine sq_top (y := nI (gf_L (gf_P i 0))) (rfl) ?_
        refine sq_iadd hx hb dX3_createECCBlock_219 ?_
        refine lv_sipush (v := nI 255) hx hb dX3_createECCBlock_220 (by decide) ?_
        refine sq_irem hx hb dX3_createECCBlock_223 (by have h1 := gf_Lt (ecM n (ecF n (gf_P i) t a) (t a)); have h2 := gf_Lt (gf_P i 0); omega) (by decide) (by decide) ?_
        refine sq_ti (z := sq_z6) hx hb hE hS (List.mem_of_getElem? (i := 6) rfl) (by rw [len_AL]; exact gf_m _) (by rw [len_AL]; decide) dX3_createECCBlock_224 ?_
        refine sq_top (y := nI (gm (ecM n (ecF n (gf_P i) t a) (t a)) (gf_P i 0))) (congrArg nI (gm_tab hm0 hG2)) ?_
        have hv : gm (ecM n (ecF n (gf_P i) t a) (t a)) (gf_P i 0) < 256 := gm_lt _ _
        refine sq_i2c hx hb dX3_createECCBlock_225 (by omega) ?_
        refine sq_cast hx hb hK hP hD hS 2 rfl (by omega) (by omega) (by omega) dX3_createECCBlock_226 (fun H locs hP hD hS => ?_)
        have hP : va_P D sqCl [(q, .inr (0, [.ref v, .int 0, .int 0, .int 0])), (v, eB dB K t), (d, eN dH n (va_up (zd n (gf_P i) (ecF n (gf_P i) t a) (t a) r) 0 (gm (ecM n (ecF n (gf_P i) t a) (t a)) (gf_P i 0))))] H := hP
        have hD : va_D A [(q, .inr (0, [.ref v, .int 0, .int 0, .int 0])), (v, eB dB K t), (d, eN dH n (va_up (zd n (gf_P i) (ecF n (gf_P i) t a) (t a) r) 0 (gm (ecM n (ecF n (gf_P i) t a) (t a)) (gf_P i 0))))] := hD
        obtain ⟨hP, hD⟩ := sq_cg (g := fun j => nI ((ecF n (gf_P i) t (a + 1)) j)) hP hD 2 rfl (fun j hj => congrArg nI (zd_last hc5 rfl j))
        have hP : va_P D sqCl [(q, .inr (0, [.ref v, .int 0, .int 0, .int 0])), (v, eB dB K t), (d, eN dH n (ecF n (gf_P i) t (a + 1)))] H := hP
        have hD : va_D A [(q, .inr (0, [.ref v, .int 0, .int 0, .int 0])), (v, eB dB K t), (d, eN dH n (ecF n (gf_P i) t (a + 1)))] := hD
        refine lv_goto (tgt := 235) hx hb dX3_createECCBlock_227 (by decide) ?_
        refine lv_iinc (v := nI (a + 1)) (lv' := [(5, .int (nI (a + 1))), (0, .ref q), (1, .int (nI n)), (2, .int (nI i)), (3, .ref (ad (16 + i))), (4, .ref d), (6, .int (nI (ecM n (ecF n (gf_P i) t a) (t a)))), (7, .int (nI (n - 1 - r)))]) hx hb dX3_createECCBlock_235 hl (k := 5) rfl (nI_1 a) (by decide) rfl (fun ls hl => ?_)
        refine lv_goto (tgt := 81) hx hb dX3_createECCBlock_238 (by decide) ?_
        exact ih3 _ _ _ (hc4) ⟨hP.sub [0, 1, 2] rfl, hD.sub [0, 1, 2] (by decide) rfl, hS, lv_sub hl [1, 2, 3, 4, 5, 0] rfl⟩
    have hKa : a = K := by omega
    subst hKa
    refine lv_iload_n hx hb dX3_createECCBlock_241 rfl (lv_at hl 1 rfl) ?_
    refine sq_newH hx hb (hts _ q35) hK hP hD hS hA 2 72 (by omega) (by omega) (by omega) (Nat.le_of_ble_eq_true rfl) (Nat.le_of_ble_eq_true rfl) dX3_createECCBlock_242 (fun f H hP hD hS => ?_)
    have hP : va_P D sqCl [(d, eN dH n (ecF n (gf_P i) t a)), (q, .inr (0, [.ref v, .int 0, .int 0, .int 0])), (v, eB dB a t), (f, eN dH n (fun _ => 0))] H := hP
    have hD : va_D A [(d, eN dH n (ecF n (gf_P i) t a)), (q, .inr (0, [.ref v, .int 0, .int 0, .int 0])), (v, eB dB a t), (f, eN dH n (fun _ => 0))] := hD
    refine lv_astore (lv' := [(5, .ref f), (0, .ref q), (1, .int (nI n)), (2, .int (nI i)), (3, .ref (ad (16 + i))), (4, .ref d)]) hx hb dX3_createECCBlock_244 hl (by decide) rfl (fun ls hl => ?_)
    refine lv_iconst (v := nI 0) hx hb dX3_createECCBlock_246 (by decide) ?_
    refine lv_istore (lv' := [(6, .int (nI 0)), (5, .ref f), (0, .ref q), (1, .int (nI n)), (2, .int (nI i)), (3, .ref (ad (16 + i))), (4, .ref d)]) hx hb dX3_createECCBlock_247 hl (by decide) rfl (fun ls hl => ?_)
    obtain ⟨hP, hD⟩ := sq_cg (g := fun j => nI ((zc 0 (fun j => ecF n (gf_P i) t a (n - 1 - j))) j)) hP hD 3 rfl (fun j hj => congrArg nI (zc_0 _ j))
    have hP : va_P D sqCl [(d, eN dH n (ecF n (gf_P i) t a)), (q, .inr (0, [.ref v, .int 0, .int 0, .int 0])), (v, eB dB a t), (f, eN dH n (zc 0 (fun j => ecF n (gf_P i) t a (n - 1 - j))))] H := hP
    have hD : va_D A [(d, eN dH n (ecF n (gf_P i) t a)), (q, .inr (0, [.ref v, .int 0, .int 0, .int 0])), (v, eB dB a t), (f, eN dH n (zc 0 (fun j => ecF n (gf_P i) t a (n - 1 - j))))] := hD
    refine sq_loop (fun (k : Nat) H locs ls => va_P D sqCl [(q, .inr (0, [.ref v, .int 0, .int 0, .int 0])), (v, eB dB a t), (d, eN dH n (ecF n (gf_P i) t a)), (f, eN dH n (zc k (fun j => ecF n (gf_P i) t a (n - 1 - j))))] H ∧ va_D A [(q, .inr (0, [.ref v, .int 0, .int 0, .int 0])), (v, eB dB a t), (d, eN dH n (ecF n (gf_P i) t a)), (f, eN dH n (zc k (fun j => ecF n (gf_P i) t a (n - 1 - j))))] ∧ va_S A s.heap H locs ∧ lv_has ls 8 [(0, .ref q), (1, .int (nI n)), (2, .int (nI i)), (3, .ref (ad (16 + i))), (4, .ref d), (5, .ref f), (6, .int (nI k))]) n ?_ 0 _ _ _ (Nat.zero_le _) ⟨hP.sub [1, 2, 0, 3] rfl, hD.sub [1, 2, 0, 3] (by decide) rfl, hS, lv_sub hl [2, 3, 4, 5, 6, 1, 0] rfl⟩
    intro k H locs ls h_k hI ih5
    obtain ⟨hP, hD, hS, hl⟩ := hI
    refine lv_iload hx hb dX3_createECCBlock_249 (lv_at hl 6 rfl) ?_
    refine lv_iload_n hx hb dX3_createECCBlock_251 rfl (lv_at hl 1 rfl) ?_
    refine sq_ge (tgt := 275) hx hb dX3_createECCBlock_252 (by decide) (by omega) (by omega) (fun hc6 => ?_) (fun hc6 => ?_)
    rotate_left
    · skip
      refine lv_aload hx hb dX3_createECCBlock_255 (lv_at hl 5 rfl) ?_
      refine lv_iload hx hb dX3_createECCBlock_257 (lv_at hl 6 rfl) ?_
      refine lv_aload hx hb dX3_createECCBlock_259 (lv_at hl 4 rfl) ?_
      refine lv_iload_n hx hb dX3_createECCBlock_261 rfl (lv_at hl 1 rfl) ?_
      refine lv_iload hx hb dX3_createECCBlock_262 (lv_at hl 6 rfl) ?_
      refine sq_isub hx hb dX3_createECCBlock_264 (by omega) ?_
      refine lv_iconst (v := nI 1) hx hb dX3_createECCBlock_265 (by decide) ?_
      refine sq_isub hx hb dX3_createECCBlock_266 (by omega) ?_
      refine sq_cald hx hb hK hP 2 rfl (by omega) (by omega) dX3_createECCBlock_267 ?_
      refine sq_top (y := nI ((fun j => ecF n (gf_P i) t a (n - 1 - j)) k)) (by rw [show n - k - 1 = n - 1 - k by omega]) ?_
      refine sq_cast hx hb hK hP hD hS 3 rfl (hc6) (by omega) (by have := ecF_lt (n := n) (g := gf_P i) (t := t) a (n - 1 - k); show ecF n _ t a (n - 1 - k) < _; omega) dX3_createECCBlock_268 (fun H locs hP hD hS => ?_)
      have hP : va_P D sqCl [(q, .inr (0, [.ref v, .int 0, .int 0, .int 0])), (v, eB dB a t), (d, eN dH n (ecF n (gf_P i) t a)), (f, eN dH n (va_up (zc k (fun j => ecF n (gf_P i) t a (n - 1 - j))) k ((fun j => ecF n (gf_P i) t a (n - 1 - j)) k)))] H := hP
      have hD : va_D A [(q, .inr (0, [.ref v, .int 0, .int 0, .int 0])), (v, eB dB a t), (d, eN dH n (ecF n (gf_P i) t a)), (f, eN dH n (va_up (zc k (fun j => ecF n (gf_P i) t a (n - 1 - j))) k ((fun j => ecF n (gf_P i) t a (n - 1 - j)) k)))] := hD
      obtain ⟨hP, hD⟩ := sq_cg (g := fun j => nI ((zc (k + 1) (fun j => ecF n (gf_P i) t a (n - 1 - j))) j)) hP hD 3 rfl (fun j hj => congrArg nI (zc_up k (fun j => ecF n (gf_P i) t a (n - 1 - j)) j))
      have hP : va_P D sqCl [(q, .inr (0, [.ref v, .int 0, .int 0, .int 0])), (v, eB dB a t), (d, eN dH n (ecF n (gf_P i) t a)), (f, eN dH n (zc (k + 1) (fun j => ecF n (gf_P i) t a (n - 1 - j))))] H := hP
      have hD : va_D A [(q, .inr (0, [.ref v, .int 0, .int 0, .int 0])), (v, eB dB a t), (d, eN dH n (ecF n (gf_P i) t a)), (f, eN dH n (zc (k + 1) (fun j => ecF n (gf_P i) t a (n - 1 - j))))] := hD
      refine lv_iinc (v := nI (k + 1)) (lv' := [(6, .int (nI (k + 1))), (0, .ref q), (1, .int (nI n)), (2, .int (nI i)), (3, .ref (ad (16 + i))), (4, .ref d), (5, .ref f)]) hx hb dX3_createECCBlock_269 hl (k := 6) rfl (nI_1 k) (by decide) rfl (fun ls hl => ?_)
      refine lv_goto (tgt := 249) hx hb dX3_createECCBlock_272 (by decide) ?_
      exact ih5 _ _ _ (hc6) ⟨hP.sub [0, 1, 2, 3] rfl, hD.sub [0, 1, 2, 3] (by decide) rfl, hS, lv_sub hl [1, 2, 3, 4, 5, 6, 0] rfl⟩
    obtain ⟨hP, hD⟩ := sq_cg (g := fun j => nI ((fun j => ecF n (gf_P i) t a (n - 1 - j)) j)) hP hD 3 rfl (fun j hj => congrArg nI (zc_all hc6 j hj))
    have hP : va_P D sqCl [(q, .inr (0, [.ref v, .int 0, .int 0, .int 0])), (v, eB dB a t), (d, eN dH n (ecF n (gf_P i) t a)), (f, eN dH n (fun j => ecF n (gf_P i) t a (n - 1 - j)))] H := hP
    have hD : va_D A [(q, .inr (0, [.ref v, .int 0, .int 0, .int 0])), (v, eB dB a t), (d, eN dH n (ecF n (gf_P i) t a)), (f, eN dH n (fun j => ecF n (gf_P i) t a (n - 1 - j)))] := hD
    refine lv_aload hx hb dX3_createECCBlock_275 (lv_at hl 5 rfl) ?_
    refine sq_retr (wc := [(f, eN dH n (fun j => ecF n (gf_P i) t a (n - 1 - j)))]) (wr := [(q, .inr (0, [.ref v, .int 0, .int 0, .int 0])), (v, eB dB a t), (d, eN dH n (ecF n (gf_P i) t a))]) hP hD hS hA [3] [0, 1, 2] rfl rfl (by decide) (by decide) (va_runS (As := [.ref f]) (rest := []) ⟨hx, hb, hml, hown, htz⟩ (mt_valueOf l H.size f n (fun j => ecF n (gf_P i) t a (n - 1 - j)) (by omega) (by omega) (fun j => ecF_lt _ _)) (va_cwS 1 htz (z_S q456 q457 q3 q458) rfl rfl rfl (by decide +kernel) ⟨(Nat.le_of_ble_eq_true rfl), (Nat.le_of_ble_eq_true rfl)⟩) (sq_preS (wc := [(f, eN dH n (fun j => ecF n (gf_P i) t a (n - 1 - j)))]) hP hD hK hE hS hA [3] rfl (by decide)) rfl rfl hl.1 rfl (lv_room (Nat.le_of_ble_eq_true rfl)) dX3_createECCBlock_277 ⟨(Nat.le_of_ble_eq_true rfl), (Nat.le_of_ble_eq_true rfl)⟩) (fun u k2 H locs _ hP hD hS => ?_)
    refine W.widen (k := 4) (n := 174) (Nat.le_refl _) (Nat.le_refl _) ?_
    obtain ⟨v2, rfl⟩ : ∃ z, z = u := ⟨_, rfl⟩
    have hP : va_P D sqCl [(q, .inr (0, [.ref v, .int 0, .int 0, .int 0])), (v, eB dB a t), (d, eN dH n (ecF n (gf_P i) t a)), (f, eN dH n (fun j => ecF n (gf_P i) t a (n - 1 - j))), (k2, .inr (0, [.ref v2, .int 0, .int 0, .int 0])), (v2, eB dB n (fun j => ecF n (gf_P i) t a (n - 1 - j)))] H := hP
    have hD : va_D A [(q, .inr (0, [.ref v, .int 0, .int 0, .int 0])), (v, eB dB a t), (d, eN dH n (ecF n (gf_P i) t a)), (f, eN dH n (fun j => ecF n (gf_P i) t a (n - 1 - j))), (k2, .inr (0, [.ref v2, .int 0, .int 0, .int 0])), (v2, eB dB n (fun j => ecF n (gf_P i) t a (n - 1 - j)))] := hD
    exact sq_aret v2 hx hb hr hlocks (Or.inl ⟨_, rfl⟩) (trivial) (hP.sub [0, 1, 4, 5] rfl) (hD.sub [0, 1, 4, 5] (by decide) rfl) hS dX3_createECCBlock_280
set_option maxHeartbeats 4000000 in
set_option maxRecDepth 100000 in
theorem mt_encode (sz : Nat) (q v y K n ti : Nat) (t : Nat → Nat) (hK0 : 0 < K) (hK1 : K ≤ 62) (hn0 : 5 ≤ n) (hn1 : n ≤ 36) (hti : ti < 16) (hS0 : gf_S ti = n) (hS1 : ∀ i, i < ti → gf_S i ≠ n) (hF : (gf_FL.getD ti []).length = n) (hG : ∀ j, j < n → gf_P ti j < 256 ∧ gf_P ti j ≠ 0) (ht : ∀ j, t j < 256) : Met l yX3_encodeECC200 (wz_ yX3_encodeECC200 cX3_encodeECC200 11 (some (.object "java/lang/String"))) ({ frames := 6, cells := 8, slots := 378, locals := 144 }) (sq_Pc D (sqT dB dH dN) ro ad b L xs [.ref q, .ref y] sz [(q, .inr (0, [.ref v, .int 0, .int 0, .int 0])), (v, eB dB K t), (y, .inr (2, [.int (nI 0), .int (nI K), .int (nI n), .int (nI 8), .int (nI 8), .int (nI 1), .int (nI K), .int (nI n)]))]) (va_Qr (fun (u : Nat) => True) (sq_R D (va_A [(q, .inr (0, [.ref v, .int 0, .int 0, .int 0])), (v, eB dB K t), (y, .inr (2, [.int (nI 0), .int (nI K), .int (nI n), .int (nI 8), .int (nI 8), .int (nI 1), .int (nI K), .int (nI n)]))] sz) (fun (u : Nat) (ra : Nat) => [(q, .inr (0, [.ref v, .int 0, .int 0, .int 0])), (v, eB dB K t), (ra, .inr (0, [.ref u, .int 0, .int 0, .int 0])), (u, eB dB (K + n) (wd K n (gf_P ti) t))])) (va_A [(q, .inr (0, [.ref v, .int 0, .int 0, .int 0])), (v, eB dB K t), (y, .inr (2, [.int (nI 0), .int (nI K), .int (nI n), .int (nI 8), .int (nI 8), .int (nI 1), .int (nI K), .int (nI n)]))] sz)) 8 378 (va_A [(q, .inr (0, [.ref v, .int 0, .int 0, .int 0])), (v, eB dB K t), (y, .inr (2, [.int (nI 0), .int (nI K), .int (nI n), .int (nI 8), .int (nI 8), .int (nI 1), .int (nI K), .int (nI n)]))] sz) := by
  refine sq_met (fun A => va_Qr (fun (u : Nat) => True) (sq_R D A (fun (u : Nat) (ra : Nat) => [(q, .inr (0, [.ref v, .int 0, .int 0, .int 0])), (v, eB dB K t), (ra, .inr (0, [.ref u, .int 0, .int 0, .int 0])), (u, eB dB (K + n) (wd K n (gf_P ti) t))])) A) (by decide) (Nat.le_of_ble_eq_true rfl) ?_
  intro p e s m below meth c A hx hb hr hlocks hml hown hin htz hP hK hD hE hS hA ls hl
  have hts : ∀ w ∈ lw_all, w.before _ s = true := fun w h => htz w (zq_in h)
  have hl : lv_has ls 11 [(0, .ref q), (1, .ref y)] := hl
  refine lv_aload_n hx hb dX3_encodeECC200_0 rfl (lv_at hl 0 rfl) ?_
  refine sq_reti (wc := [(q, .inr (0, [.ref v, .int 0, .int 0, .int 0])), (v, eB dB K t)]) (wr := [(y, .inr (2, [.int (nI 0), .int (nI K), .int (nI n), .int (nI 8), .int (nI 8), .int (nI 1), .int (nI K), .int (nI n)]))]) hP hD hS hA [0, 1] [2] rfl rfl (by decide) (by decide) (va_runV (As := []) (rest := []) ⟨hx, hb, hml, hown, htz⟩ (mt_length l s.heap.size q v K t) (cwV 0 htz (z_V q217 q51 q52 q3 q53) rfl rfl rfl (by decide +kernel) ⟨(Nat.le_of_ble_eq_true rfl), (Nat.le_of_ble_eq_true rfl)⟩) (sq_preV (wc := [(q, .inr (0, [.ref v, .int 0, .int 0, .int 0])), (v, eB dB K t)]) (va_recv hK hP (ci := 0) (q0 := 0) rfl rfl) hP hD hK hE hS hA [0, 1] rfl (by decide)) rfl rfl hl.1 rfl (lv_room (Nat.le_of_ble_eq_true rfl)) dX3_encodeECC200_1 ⟨(Nat.le_of_ble_eq_true rfl), (Nat.le_of_ble_eq_true rfl)⟩) (fun r u H locs hw hP hD hS => ?_)
  rw [hw]
  have hP : va_P D sqCl [(y, .inr (2, [.int (nI 0), .int (nI K), .int (nI n), .int (nI 8), .int (nI 8), .int (nI 1), .int (nI K), .int (nI n)])), (q, .inr (0, [.ref v, .int 0, .int 0, .int 0])), (v, eB dB K t)] H := hP
  have hD : va_D A [(y, .inr (2, [.int (nI 0), .int (nI K), .int (nI n), .int (nI 8), .int (nI 8), .int (nI 1), .int (nI K), .int (nI n)])), (q, .inr (0, [.ref v, .int 0, .int 0, .int 0])), (v, eB dB K t)] := hD
  refine lv_aload_n hx hb dX3_encodeECC200_4 rfl (lv_at hl 1 rfl) ?_
  refine sq_reti (wc := [(y, .inr (2, [.int (nI 0), .int (nI K), .int (nI n), .int (nI 8), .int (nI 8), .int (nI 1), .int (nI K), .int (nI n)]))]) (wr := [(q, .inr (0, [.ref v, .int 0, .int 0, .int 0])), (v, eB dB K t)]) hP hD hS hA [0] [1, 2] rfl rfl (by decide) (by decide) (va_runV (As := []) (rest := [.int (nI K)]) ⟨hx, hb, hml, hown, htz⟩ (mt_dataCap l H.size y K n) (cwV 0 htz (z_V q218 q219 q220 q7 q221) rfl rfl rfl (by decide +kernel) ⟨(Nat.le_of_ble_eq_true rfl), (Nat.le_of_ble_eq_true rfl)⟩) (sq_preV (wc := [(y, .inr (2, [.int (nI 0), .int (nI K), .int (nI n), .int (nI 8), .int (nI 8), .int (nI 1), .int (nI K), .int (nI n)]))]) (va_recv hK hP (ci := 2) (q0 := 0) rfl rfl) hP hD hK hE hS hA [0] rfl (by decide)) rfl rfl hl.1 rfl (lv_room (Nat.le_of_ble_eq_true rfl)) dX3_encodeECC200_5 ⟨(Nat.le_of_ble_eq_true rfl), (Nat.le_of_ble_eq_true rfl)⟩) (fun r u H locs hw hP hD hS => ?_)
  rw [hw]
  have hP : va_P D sqCl [(q, .inr (0, [.ref v, .int 0, .int 0, .int 0])), (v, eB dB K t), (y, .inr (2, [.int (nI 0), .int (nI K), .int (nI n), .int (nI 8), .int (nI 8), .int (nI 1), .int (nI K), .int (nI n)]))] H := hP
  have hD : va_D A [(q, .inr (0, [.ref v, .int 0, .int 0, .int 0])), (v, eB dB K t), (y, .inr (2, [.int (nI 0), .int (nI K), .int (nI n), .int (nI 8), .int (nI 8), .int (nI 1), .int (nI K), .int (nI n)]))] := hD
  refine sq_eq (tgt := 21) hx hb dX3_encodeECC200_8 (by decide) (by omega) (by omega) (fun hc => ?_) (fun hc => by exfalso; omega)
  refine va_new (ci := 1) (fs := [.null, .int 0, .int 0, .int 0]) (C := RJ9) (T := TJ9) (N := 4) hx hb hts in_J9 tyJ9 tyJ9_ok hown (hts _ q287) (hts _ q288) (hts _ q14) hK hP hD hS hA rfl (fun j hj => by rcases (show j = 0 ∨ j = 1 ∨ j = 2 ∨ j = 3 by omega) with rfl | rfl | rfl | rfl <;> rfl) (Nat.le_of_ble_eq_true rfl) (Nat.le_of_ble_eq_true rfl) dX3_encodeECC200_21 (fun g H hP hD hS => ?_)
  have hP : va_P D sqCl [(q, .inr (0, [.ref v, .int 0, .int 0, .int 0])), (v, eB dB K t), (y, .inr (2, [.int (nI 0), .int (nI K), .int (nI n), .int (nI 8), .int (nI 8), .int (nI 1), .int (nI K), .int (nI n)])), (g, .inr (1, [.null, .int 0, .int 0, .int 0]))] H := hP
  have hD : va_D A [(q, .inr (0, [.ref v, .int 0, .int 0, .int 0])), (v, eB dB K t), (y, .inr (2, [.int (nI 0), .int (nI K), .int (nI n), .int (nI 8), .int (nI 8), .int (nI 1), .int (nI K), .int (nI n)])), (g, .inr (1, [.null, .int 0, .int 0, .int 0]))] := hD
  refine W.widen (k := 1) (n := 4) (Nat.le_refl _) (Nat.le_refl _) ?_
  refine lv_dup hx hb dX3_encodeECC200_24 rfl ?_
  refine lv_aload_n hx hb dX3_encodeECC200_25 rfl (lv_at hl 1 rfl) ?_
  refine sq_reti (wc := [(y, .inr (2, [.int (nI 0), .int (nI K), .int (nI n), .int (nI 8), .int (nI 8), .int (nI 1), .int (nI K), .int (nI n)]))]) (wr := [(q, .inr (0, [.ref v, .int 0, .int 0, .int 0])), (v, eB dB K t), (g, .inr (1, [.null, .int 0, .int 0, .int 0]))]) hP hD hS hA [2] [0, 1, 3] rfl rfl (by decide) (by decide) (va_runV (As := []) (rest := [.ref g, .ref g]) ⟨hx, hb, hml, hown, htz⟩ (mt_dataCap l H.size y K n) (cwV 0 htz (z_V q218 q219 q220 q7 q221) rfl rfl rfl (by decide +kernel) ⟨(Nat.le_of_ble_eq_true rfl), (Nat.le_of_ble_eq_true rfl)⟩) (sq_preV (wc := [(y, .inr (2, [.int (nI 0), .int (nI K), .int (nI n), .int (nI 8), .int (nI 8), .int (nI 1), .int (nI K), .int (nI n)]))]) (va_recv hK hP (ci := 2) (q0 := 2) rfl rfl) hP hD hK hE hS hA [2] rfl (by decide)) rfl rfl hl.1 rfl (lv_room (Nat.le_of_ble_eq_true rfl)) dX3_encodeECC200_26 ⟨(Nat.le_of_ble_eq_true rfl), (Nat.le_of_ble_eq_true rfl)⟩) (fun r u H locs hw hP hD hS => ?_)
  rw [hw]
  have hP : va_P D sqCl [(q, .inr (0, [.ref v, .int 0, .int 0, .int 0])), (v, eB dB K t), (g, .inr (1, [.null, .int 0, .int 0, .int 0])), (y, .inr (2, [.int (nI 0), .int (nI K), .int (nI n), .int (nI 8), .int (nI 8), .int (nI 1), .int (nI K), .int (nI n)]))] H := hP
  have hD : va_D A [(q, .inr (0, [.ref v, .int 0, .int 0, .int 0])), (v, eB dB K t), (g, .inr (1, [.null, .int 0, .int 0, .int 0])), (y, .inr (2, [.int (nI 0), .int (nI K), .int (nI n), .int (nI 8), .int (nI 8), .int (nI 1), .int (nI K), .int (nI n)]))] := hD
  refine lv_aload_n hx hb dX3_encodeECC200_29 rfl (lv_at hl 1 rfl) ?_
  refine sq_reti (wc := [(y, .inr (2, [.int (nI 0), .int (nI K), .int (nI n), .int (nI 8), .int (nI 8), .int (nI 1), .int (nI K), .int (nI n)]))]) (wr := [(q, .inr (0, [.ref v, .int 0, .int 0, .int 0])), (v, eB dB K t), (g, .inr (1, [.null, .int 0, .int 0, .int 0]))]) hP hD hS hA [3] [0, 1, 2] rfl rfl (by decide) (by decide) (va_runV (As := []) (rest := [.int (nI K), .ref g, .ref g]) ⟨hx, hb, hml, hown, htz⟩ (mt_errCode l H.size y K n) (cwV 0 htz (z_V q289 q290 q291 q7 q292) rfl rfl rfl (by decide +kernel) ⟨(Nat.le_of_ble_eq_true rfl), (Nat.le_of_ble_eq_true rfl)⟩) (sq_preV (wc := [(y, .inr (2, [.int (nI 0), .int (nI K), .int (nI n), .int (nI 8), .int (nI 8), .int (nI 1), .int (nI K), .int (nI n)]))]) (va_recv hK hP (ci := 2) (q0 := 3) rfl rfl) hP hD hK hE hS hA [3] rfl (by decide)) rfl rfl hl.1 rfl (lv_room (Nat.le_of_ble_eq_true rfl)) dX3_encodeECC200_30 ⟨(Nat.le_of_ble_eq_true rfl), (Nat.le_of_ble_eq_true rfl)⟩) (fun r u H locs hw hP hD hS => ?_)
  rw [hw]
  have hP : va_P D sqCl [(q, .inr (0, [.ref v, .int 0, .int 0, .int 0])), (v, eB dB K t), (g, .inr (1, [.null, .int 0, .int 0, .int 0])), (y, .inr (2, [.int (nI 0), .int (nI K), .int (nI n), .int (nI 8), .int (nI 8), .int (nI 1), .int (nI K), .int (nI n)]))] H := hP
  have hD : va_D A [(q, .inr (0, [.ref v, .int 0, .int 0, .int 0])), (v, eB dB K t), (g, .inr (1, [.null, .int 0, .int 0, .int 0])), (y, .inr (2, [.int (nI 0), .int (nI K), .int (nI n), .int (nI 8), .int (nI 8), .int (nI 1), .int (nI K), .int (nI n)]))] := hD
  refine sq_iadd hx hb dX3_encodeECC200_33 ?_
  refine sq_retv (wc := [(g, .inr (1, [.null, .int 0, .int 0, .int 0]))]) (wr := [(q, .inr (0, [.ref v, .int 0, .int 0, .int 0])), (v, eB dB K t), (y, .inr (2, [.int (nI 0), .int (nI K), .int (nI n), .int (nI 8), .int (nI 8), .int (nI 1), .int (nI K), .int (nI n)]))]) hP hD hS hA [2] [0, 1, 3] rfl rfl (by decide) (by decide) (va_runI (As := [.int (nI (K + n))]) (rest := [.ref g]) ⟨hx, hb, hml, hown, htz⟩ (mt_sbInit l H.size g (K + n) (by omega)) (cwI 1 htz (z_meth q295) rfl rfl rfl (hts _ q14) (hts _ q293) (hts _ q294) rfl (by decide +kernel) ⟨(Nat.le_of_ble_eq_true rfl), (Nat.le_of_ble_eq_true rfl)⟩) (sq_preS (wc := [(g, .inr (1, [.null, .int 0, .int 0, .int 0]))]) hP hD hK hE hS hA [2] rfl (by decide)) rfl rfl hl.1 rfl (lv_room (Nat.le_of_ble_eq_true rfl)) dX3_encodeECC200_34 ⟨(Nat.le_of_ble_eq_true rfl), (Nat.le_of_ble_eq_true rfl)⟩) (fun u H locs _ hP hD hS => ?_)
  refine W.widen (k := 2) (n := 102) (Nat.le_refl _) (Nat.le_refl _) ?_
  obtain ⟨d, rfl⟩ : ∃ z, z = u := ⟨_, rfl⟩
  have hP : va_P D sqCl [(q, .inr (0, [.ref v, .int 0, .int 0, .int 0])), (v, eB dB K t), (y, .inr (2, [.int (nI 0), .int (nI K), .int (nI n), .int (nI 8), .int (nI 8), .int (nI 1), .int (nI K), .int (nI n)])), (g, .inr (1, [.ref d, .int 0, .int 0, .int (nI 0)])), (d, eB dB (K + n) (fun _ => 0))] H := hP
  have hD : va_D A [(q, .inr (0, [.ref v, .int 0, .int 0, .int 0])), (v, eB dB K t), (y, .inr (2, [.int (nI 0), .int (nI K), .int (nI n), .int (nI 8), .int (nI 8), .int (nI 1), .int (nI K), .int (nI n)])), (g, .inr (1, [.ref d, .int 0, .int 0, .int (nI 0)])), (d, eB dB (K + n) (fun _ => 0))] := hD
  refine lv_astore_n (lv' := [(2, .ref g), (0, .ref q), (1, .ref y)]) hx hb dX3_encodeECC200_37 rfl hl (by decide) rfl (fun ls hl => ?_)
  refine lv_aload_n hx hb dX3_encodeECC200_38 rfl (lv_at hl 0 rfl) ?_
  refine lv_aload_n hx hb dX3_encodeECC200_39 rfl (lv_at hl 1 rfl) ?_
  refine sq_retr (wc := [(g, .inr (1, [.ref d, .int 0, .int 0, .int (nI 0)])), (q, .inr (0, [.ref v, .int 0, .int 0, .int 0])), (v, eB dB K t), (d, eB dB (K + n) (fun _ => 0))]) (wr := [(y, .inr (2, [.int (nI 0), .int (nI K), .int (nI n), .int (nI 8), .int (nI 8), .int (nI 1), .int (nI K), .int (nI n)]))]) hP hD hS hA [3, 0, 1, 4] [2] rfl rfl (by decide) (by decide) (va_runV (As := [.ref q]) (rest := []) ⟨hx, hb, hml, hown, htz⟩ (mt_append l H.size g d q v K (K + n) 0 t (fun _ => 0) (by omega) (by omega)) (cwV 1 htz (z_V q316 q317 q318 q14 q319) rfl rfl rfl (by decide +kernel) ⟨(Nat.le_of_ble_eq_true rfl), (Nat.le_of_ble_eq_true rfl)⟩) (sq_preV (wc := [(g, .inr (1, [.ref d, .int 0, .int 0, .int (nI 0)])), (q, .inr (0, [.ref v, .int 0, .int 0, .int 0])), (v, eB dB K t), (d, eB dB (K + n) (fun _ => 0))]) (va_recv hK hP (ci := 1) (q0 := 3) rfl rfl) hP hD hK hE hS hA [3, 0, 1, 4] rfl (by decide)) rfl rfl hl.1 rfl (lv_room (Nat.le_of_ble_eq_true rfl)) dX3_encodeECC200_40 ⟨(Nat.le_of_ble_eq_true rfl), (Nat.le_of_ble_eq_true rfl)⟩) (fun u ra H locs _ hP hD hS => ?_)
  have hP : va_P D sqCl [(y, .inr (2, [.int (nI 0), .int (nI K), .int (nI n), .int (nI 8), .int (nI 8), .int (nI 1), .int (nI K), .int (nI n)])), (g, .inr (1, [.ref d, .int 0, .int 0, .int (nI (0 + K))])), (q, .inr (0, [.ref v, .int 0, .int 0, .int 0])), (v, eB dB K t), (d, eB dB (K + n) (zp 0 K t (fun _ => 0)))] H := hP
  have hD : va_D A [(y, .inr (2, [.int (nI 0), .int (nI K), .int (nI n), .int (nI 8), .int (nI 8), .int (nI 1), .int (nI K), .int (nI n)])), (g, .inr (1, [.ref d, .int 0, .int 0, .int (nI (0 + K))])), (q, .inr (0, [.ref v, .int 0, .int 0, .int 0])), (v, eB dB K t), (d, eB dB (K + n) (zp 0 K t (fun _ => 0)))] := hD
  rw [Nat.zero_add] at hP hD
  have hP : va_P D sqCl [(y, .inr (2, [.int (nI 0), .int (nI K), .int (nI n), .int (nI 8), .int (nI 8), .int (nI 1), .int (nI K), .int (nI n)])), (g, .inr (1, [.ref d, .int 0, .int 0, .int (nI K)])), (q, .inr (0, [.ref v, .int 0, .int 0, .int 0])), (v, eB dB K t), (d, eB dB (K + n) (zp 0 K t (fun _ => 0)))] H := hP
  have hD : va_D A [(y, .inr (2, [.int (nI 0), .int (nI K), .int (nI n), .int (nI 8), .int (nI 8), .int (nI 1), .int (nI K), .int (nI n)])), (g, .inr (1, [.ref d, .int 0, .int 0, .int (nI K)])), (q, .inr (0, [.ref v, .int 0, .int 0, .int 0])), (v, eB dB K t), (d, eB dB (K + n) (zp 0 K t (fun _ => 0)))] := hD
  refine lv_pop hx hb dX3_encodeECC200_43 rfl ?_
  refine lv_aload_n hx hb dX3_encodeECC200_44 rfl (lv_at hl 2 rfl) ?_
  refine sq_reti (wc := [(y, .inr (2, [.int (nI 0), .int (nI K), .int (nI n), .int (nI 8), .int (nI 8), .int (nI 1), .int (nI K), .int (nI n)]))]) (wr := [(g, .inr (1, [.ref d, .int 0, .int 0, .int (nI K)])), (q, .inr (0, [.ref v, .int 0, .int 0, .int 0])), (v, eB dB K t), (d, eB dB (K + n) (zp 0 K t (fun _ => 0)))]) hP hD hS hA [0] [1, 2, 3, 4] rfl rfl (by decide) (by decide) (va_runV (As := []) (rest := []) ⟨hx, hb, hml, hown, htz⟩ (mt_blocks l H.size y K n hK0 (by omega)) (cwV 0 htz (z_V q405 q406 q407 q7 q408) rfl rfl rfl (by decide +kernel) ⟨(Nat.le_of_ble_eq_true rfl), (Nat.le_of_ble_eq_true rfl)⟩) (sq_preV (wc := [(y, .inr (2, [.int (nI 0), .int (nI K), .int (nI n), .int (nI 8), .int (nI 8), .int (nI 1), .int (nI K), .int (nI n)]))]) (va_recv hK hP (ci := 2) (q0 := 0) rfl rfl) hP hD hK hE hS hA [0] rfl (by decide)) rfl rfl hl.1 rfl (lv_room (Nat.le_of_ble_eq_true rfl)) dX3_encodeECC200_45 ⟨(Nat.le_of_ble_eq_true rfl), (Nat.le_of_ble_eq_true rfl)⟩) (fun r u H locs hw hP hD hS => ?_)
  rw [hw]
  have hP : va_P D sqCl [(g, .inr (1, [.ref d, .int 0, .int 0, .int (nI K)])), (q, .inr (0, [.ref v, .int 0, .int 0, .int 0])), (v, eB dB K t), (d, eB dB (K + n) (zp 0 K t (fun _ => 0))), (y, .inr (2, [.int (nI 0), .int (nI K), .int (nI n), .int (nI 8), .int (nI 8), .int (nI 1), .int (nI K), .int (nI n)]))] H := hP
  have hD : va_D A [(g, .inr (1, [.ref d, .int 0, .int 0, .int (nI K)])), (q, .inr (0, [.ref v, .int 0, .int 0, .int 0])), (v, eB dB K t), (d, eB dB (K + n) (zp 0 K t (fun _ => 0))), (y, .inr (2, [.int (nI 0), .int (nI K), .int (nI n), .int (nI 8), .int (nI 8), .int (nI 1), .int (nI K), .int (nI n)]))] := hD
  refine lv_istore_n (lv' := [(3, .int (nI 1)), (2, .ref g), (0, .ref q), (1, .ref y)]) hx hb dX3_encodeECC200_48 rfl hl (by decide) rfl (fun ls hl => ?_)
  refine lv_iload_n hx hb dX3_encodeECC200_49 rfl (lv_at hl 0 rfl) ?_
  refine lv_iconst (v := nI 1) hx hb dX3_encodeECC200_50 (by decide) ?_
  refine sq_ne (tgt := 74) hx hb dX3_encodeECC200_51 (by decide) (by decide) (by decide) (fun hc => absurd rfl hc) (fun hc => ?_)
  refine lv_aload_n hx hb dX3_encodeECC200_54 rfl (lv_at hl 2 rfl) ?_
  refine lv_aload_n hx hb dX3_encodeECC200_55 rfl (lv_at hl 3 rfl) ?_
  refine sq_reti (wc := [(y, .inr (2, [.int (nI 0), .int (nI K), .int (nI n), .int (nI 8), .int (nI 8), .int (nI 1), .int (nI K), .int (nI n)]))]) (wr := [(g, .inr (1, [.ref d, .int 0, .int 0, .int (nI K)])), (q, .inr (0, [.ref v, .int 0, .int 0, .int 0])), (v, eB dB K t), (d, eB dB (K + n) (zp 0 K t (fun _ => 0)))]) hP hD hS hA [4] [0, 1, 2, 3] rfl rfl (by decide) (by decide) (va_runV (As := []) (rest := [.ref q]) ⟨hx, hb, hml, hown, htz⟩ (mt_errCode l H.size y K n) (cwV 0 htz (z_V q289 q290 q291 q7 q292) rfl rfl rfl (by decide +kernel) ⟨(Nat.le_of_ble_eq_true rfl), (Nat.le_of_ble_eq_true rfl)⟩) (sq_preV (wc := [(y, .inr (2, [.int (nI 0), .int (nI K), .int (nI n), .int (nI 8), .int (nI 8), .int (nI 1), .int (nI K), .int (nI n)]))]) (va_recv hK hP (ci := 2) (q0 := 4) rfl rfl) hP hD hK hE hS hA [4] rfl (by decide)) rfl rfl hl.1 rfl (lv_room (Nat.le_of_ble_eq_true rfl)) dX3_encodeECC200_56 ⟨(Nat.le_of_ble_eq_true rfl), (Nat.le_of_ble_eq_true rfl)⟩) (fun r u H locs hw hP hD hS => ?_)
  rw [hw]
  have hP : va_P D sqCl [(g, .inr (1, [.ref d, .int 0, .int 0, .int (nI K)])), (q, .inr (0, [.ref v, .int 0, .int 0, .int 0])), (v, eB dB K t), (d, eB dB (K + n) (zp 0 K t (fun _ => 0))), (y, .inr (2, [.int (nI 0), .int (nI K), .int (nI n), .int (nI 8), .int (nI 8), .int (nI 1), .int (nI K), .int (nI n)]))] H := hP
  have hD : va_D A [(g, .inr (1, [.ref d, .int 0, .int 0, .int (nI K)])), (q, .inr (0, [.ref v, .int 0, .int 0, .int 0])), (v, eB dB K t), (d, eB dB (K + n) (zp 0 K t (fun _ => 0))), (y, .inr (2, [.int (nI 0), .int (nI K), .int (nI n), .int (nI 8), .int (nI 8), .int (nI 1), .int (nI K), .int (nI n)]))] := hD
  refine sq_retr (wc := [(q, .inr (0, [.ref v, .int 0, .int 0, .int 0])), (v, eB dB K t)]) (wr := [(g, .inr (1, [.ref d, .int 0, .int 0, .int (nI K)])), (d, eB dB (K + n) (zp 0 K t (fun _ => 0))), (y, .inr (2, [.int (nI 0), .int (nI K), .int (nI n), .int (nI 8), .int (nI 8), .int (nI 1), .int (nI K), .int (nI n)]))]) hP hD hS hA [1, 2] [0, 3, 4] rfl rfl (by decide) (by decide) (va_runS (As := [.ref q, .int (nI n)]) (rest := []) ⟨hx, hb, hml, hown, htz⟩ (mt_create l H.size q v K n ti t hK1 hn0 hn1 hti hS0 hS1 hF hG ht) (va_cwS 2 htz (z_S q409 q410 q8 q411) rfl rfl rfl (by decide +kernel) ⟨(Nat.le_of_ble_eq_true rfl), (Nat.le_of_ble_eq_true rfl)⟩) (sq_preS (wc := [(q, .inr (0, [.ref v, .int 0, .int 0, .int 0])), (v, eB dB K t)]) hP hD hK hE hS hA [1, 2] rfl (by decide)) rfl rfl hl.1 rfl (lv_room (Nat.le_of_ble_eq_true rfl)) dX3_encodeECC200_59 ⟨(Nat.le_of_ble_eq_true rfl), (Nat.le_of_ble_eq_true rfl)⟩) (fun u k2 H locs _ hP hD hS => ?_)
  refine W.widen (k := 6) (n := 276) (Nat.le_refl _) (Nat.le_refl _) ?_
  obtain ⟨v2, rfl⟩ : ∃ z, z = u := ⟨_, rfl⟩
  have hP : va_P D sqCl [(g, .inr (1, [.ref d, .int 0, .int 0, .int (nI K)])), (d, eB dB (K + n) (zp 0 K t (fun _ => 0))), (y, .inr (2, [.int (nI 0), .int (nI K), .int (nI n), .int (nI 8), .int (nI 8), .int (nI 1), .int (nI K), .int (nI n)])), (q, .inr (0, [.ref v, .int 0, .int 0, .int 0])), (v, eB dB K t), (k2, .inr (0, [.ref v2, .int 0, .int 0, .int 0])), (v2, eB dB n (fun j => ecF n (gf_P ti) t K (n - 1 - j)))] H := hP
  have hD : va_D A [(g, .inr (1, [.ref d, .int 0, .int 0, .int (nI K)])), (d, eB dB (K + n) (zp 0 K t (fun _ => 0))), (y, .inr (2, [.int (nI 0), .int (nI K), .int (nI n), .int (nI 8), .int (nI 8), .int (nI 1), .int (nI K), .int (nI n)])), (q, .inr (0, [.ref v, .int 0, .int 0, .int 0])), (v, eB dB K t), (k2, .inr (0, [.ref v2, .int 0, .int 0, .int 0])), (v2, eB dB n (fun j => ecF n (gf_P ti) t K (n - 1 - j)))] := hD
  refine lv_astore (lv' := [(4, .ref k2), (3, .int (nI 1)), (2, .ref g), (0, .ref q), (1, .ref y)]) hx hb dX3_encodeECC200_62 hl (by decide) rfl (fun ls hl => ?_)
  refine lv_aload_n hx hb dX3_encodeECC200_64 rfl (lv_at hl 2 rfl) ?_
  refine lv_aload hx hb dX3_encodeECC200_65 (lv_at hl 0 rfl) ?_
  refine sq_retr (wc := [(g, .inr (1, [.ref d, .int 0, .int 0, .int (nI K)])), (k2, .inr (0, [.ref v2, .int 0, .int 0, .int 0])), (v2, eB dB n (fun j => ecF n (gf_P ti) t K (n - 1 - j))), (d, eB dB (K + n) (zp 0 K t (fun _ => 0)))]) (wr := [(y, .inr (2, [.int (nI 0), .int (nI K), .int (nI n), .int (nI 8), .int (nI 8), .int (nI 1), .int (nI K), .int (nI n)])), (q, .inr (0, [.ref v, .int 0, .int 0, .int 0])), (v, eB dB K t)]) hP hD hS hA [0, 5, 6, 1] [2, 3, 4] rfl rfl (by decide) (by decide) (va_runV (As := [.ref k2]) (rest := []) ⟨hx, hb, hml, hown, htz⟩ (mt_append l H.size g d k2 v2 n (K + n) K (fun j => ecF n (gf_P ti) t K (n - 1 - j)) (zp 0 K t (fun _ => 0)) (by omega) (by omega)) (cwV 1 htz (z_V q316 q317 q318 q14 q319) rfl rfl rfl (by decide +kernel) ⟨(Nat.le_of_ble_eq_true rfl), (Nat.le_of_ble_eq_true rfl)⟩) (sq_preV (wc := [(g, .inr (1, [.ref d, .int 0, .int 0, .int (nI K)])), (k2, .inr (0, [.ref v2, .int 0, .int 0, .int 0])), (v2, eB dB n (fun j => ecF n (gf_P ti) t K (n - 1 - j))), (d, eB dB (K + n) (zp 0 K t (fun _ => 0)))]) (va_recv hK hP (ci := 1) (q0 := 0) rfl rfl) hP hD hK hE hS hA [0, 5, 6, 1] rfl (by decide)) rfl rfl hl.1 rfl (lv_room (Nat.le_of_ble_eq_true rfl)) dX3_encodeECC200_67 ⟨(Nat.le_of_ble_eq_true rfl), (Nat.le_of_ble_eq_true rfl)⟩) (fun u ra H locs _ hP hD hS => ?_)
  have hP : va_P D sqCl [(y, .inr (2, [.int (nI 0), .int (nI K), .int (nI n), .int (nI 8), .int (nI 8), .int (nI 1), .int (nI K), .int (nI n)])), (q, .inr (0, [.ref v, .int 0, .int 0, .int 0])), (v, eB dB K t), (g, .inr (1, [.ref d, .int 0, .int 0, .int (nI (K + n))])), (k2, .inr (0, [.ref v2, .int 0, .int 0, .int 0])), (v2, eB dB n (fun j => ecF n (gf_P ti) t K (n - 1 - j))), (d, eB dB (K + n) (zp K n (fun j => ecF n (gf_P ti) t K (n - 1 - j)) (zp 0 K t (fun _ => 0))))] H := hP
  have hD : va_D A [(y, .inr (2, [.int (nI 0), .int (nI K), .int (nI n), .int (nI 8), .int (nI 8), .int (nI 1), .int (nI K), .int (nI n)])), (q, .inr (0, [.ref v, .int 0, .int 0, .int 0])), (v, eB dB K t), (g, .inr (1, [.ref d, .int 0, .int 0, .int (nI (K + n))])), (k2, .inr (0, [.ref v2, .int 0, .int 0, .int 0])), (v2, eB dB n (fun j => ecF n (gf_P ti) t K (n - 1 - j))), (d, eB dB (K + n) (zp K n (fun j => ecF n (gf_P ti) t K (n - 1 - j)) (zp 0 K t (fun _ => 0))))] := hD
  refine lv_pop hx hb dX3_encodeECC200_70 rfl ?_
  refine lv_goto (tgt := 260) hx hb dX3_encodeECC200_71 (by decide) ?_
  obtain ⟨hP, hD⟩ := sq_cg (g := fun j => sb_b ((wd K n (gf_P ti) t) j)) hP hD 6 rfl (fun j hj => congrArg sb_b (wd_two j hj))
  have hP : va_P D sqCl [(y, .inr (2, [.int (nI 0), .int (nI K), .int (nI n), .int (nI 8), .int (nI 8), .int (nI 1), .int (nI K), .int (nI n)])), (q, .inr (0, [.ref v, .int 0, .int 0, .int 0])), (v, eB dB K t), (g, .inr (1, [.ref d, .int 0, .int 0, .int (nI (K + n))])), (k2, .inr (0, [.ref v2, .int 0, .int 0, .int 0])), (v2, eB dB n (fun j => ecF n (gf_P ti) t K (n - 1 - j))), (d, eB dB (K + n) (wd K n (gf_P ti) t))] H := hP
  have hD : va_D A [(y, .inr (2, [.int (nI 0), .int (nI K), .int (nI n), .int (nI 8), .int (nI 8), .int (nI 1), .int (nI K), .int (nI n)])), (q, .inr (0, [.ref v, .int 0, .int 0, .int 0])), (v, eB dB K t), (g, .inr (1, [.ref d, .int 0, .int 0, .int (nI (K + n))])), (k2, .inr (0, [.ref v2, .int 0, .int 0, .int 0])), (v2, eB dB n (fun j => ecF n (gf_P ti) t K (n - 1 - j))), (d, eB dB (K + n) (wd K n (gf_P ti) t))] := hD
  refine lv_aload_n hx hb dX3_encodeECC200_260 rfl (lv_at hl 2 rfl) ?_
  refine sq_retr (wc := [(g, .inr (1, [.ref d, .int 0, .int 0, .int (nI (K + n))])), (d, eB dB (K + n) (wd K n (gf_P ti) t))]) (wr := [(y, .inr (2, [.int (nI 0), .int (nI K), .int (nI n), .int (nI 8), .int (nI 8), .int (nI 1), .int (nI K), .int (nI n)])), (q, .inr (0, [.ref v, .int 0, .int 0, .int 0])), (v, eB dB K t), (k2, .inr (0, [.ref v2, .int 0, .int 0, .int 0])), (v2, eB dB n (fun j => ecF n (gf_P ti) t K (n - 1 - j)))]) hP hD hS hA [3, 6] [0, 1, 2, 4, 5] rfl rfl (by decide) (by decide) (va_runV (As := []) (rest := []) ⟨hx, hb, hml, hown, htz⟩ (mt_toString l H.size g d (K + n) (wd K n (gf_P ti) t) (by omega)) (cwV 0 htz (z_V q512 q513 q514 q14 q515) rfl rfl rfl (by decide +kernel) ⟨(Nat.le_of_ble_eq_true rfl), (Nat.le_of_ble_eq_true rfl)⟩) (sq_preV (wc := [(g, .inr (1, [.ref d, .int 0, .int 0, .int (nI (K + n))])), (d, eB dB (K + n) (wd K n (gf_P ti) t))]) (va_recv hK hP (ci := 1) (q0 := 3) rfl rfl) hP hD hK hE hS hA [3, 6] rfl (by decide)) rfl rfl hl.1 rfl (lv_room (Nat.le_of_ble_eq_true rfl)) dX3_encodeECC200_261 ⟨(Nat.le_of_ble_eq_true rfl), (Nat.le_of_ble_eq_true rfl)⟩) (fun u k3 H locs _ hP hD hS => ?_)
  refine W.widen (k := 8) (n := 378) (Nat.le_refl _) (Nat.le_refl _) ?_
  obtain ⟨v3, rfl⟩ : ∃ z, z = u := ⟨_, rfl⟩
  have hP : va_P D sqCl [(y, .inr (2, [.int (nI 0), .int (nI K), .int (nI n), .int (nI 8), .int (nI 8), .int (nI 1), .int (nI K), .int (nI n)])), (q, .inr (0, [.ref v, .int 0, .int 0, .int 0])), (v, eB dB K t), (k2, .inr (0, [.ref v2, .int 0, .int 0, .int 0])), (v2, eB dB n (fun j => ecF n (gf_P ti) t K (n - 1 - j))), (g, .inr (1, [.ref d, .int 0, .int 0, .int (nI (K + n))])), (d, eB dB (K + n) (wd K n (gf_P ti) t)), (k3, .inr (0, [.ref v3, .int 0, .int 0, .int 0])), (v3, eB dB (K + n) (wd K n (gf_P ti) t))] H := hP
  have hD : va_D A [(y, .inr (2, [.int (nI 0), .int (nI K), .int (nI n), .int (nI 8), .int (nI 8), .int (nI 1), .int (nI K), .int (nI n)])), (q, .inr (0, [.ref v, .int 0, .int 0, .int 0])), (v, eB dB K t), (k2, .inr (0, [.ref v2, .int 0, .int 0, .int 0])), (v2, eB dB n (fun j => ecF n (gf_P ti) t K (n - 1 - j))), (g, .inr (1, [.ref d, .int 0, .int 0, .int (nI (K + n))])), (d, eB dB (K + n) (wd K n (gf_P ti) t)), (k3, .inr (0, [.ref v3, .int 0, .int 0, .int 0])), (v3, eB dB (K + n) (wd K n (gf_P ti) t))] := hD
  exact sq_aret v3 hx hb hr hlocks (Or.inl ⟨_, rfl⟩) (trivial) (hP.sub [1, 2, 7, 8] rfl) (hD.sub [1, 2, 7, 8] (by decide) rfl) hS dX3_encodeECC200_264
end SQO1
end
section
/-! SquareParity -/
set_option maxRecDepth 100000
def ps (x : Int32) : Nat := x.toBitVec.toNat % 2 ^ 31
def lo8 (x : Int32) : Nat := x.toBitVec.toNat % 2 ^ 8
theorem ps_lt (x : Int32) : ps x < 2 ^ 31 := Nat.mod_lt _ (by decide)
theorem lo8_lt (x : Int32) : lo8 x < 256 := Nat.mod_lt _ (by decide)
theorem ps_e (x : Int32) : x &&& 2147483647 = nI (ps x) := pk_and x 31 (by decide)
theorem lo8_e (x : Int32) : x &&& nI 255 = nI (lo8 x) := pk_and x 8 (by decide)
/-- fill, i letters done -/
def zf (x y : Int32) (i : Nat) (t : Nat → Nat) : Nat → Nat := fun j => if j < i then lo8 (x + y * nI j) else t j
theorem zf_0 (x y : Int32) (t : Nat → Nat) (j : Nat) : t j = zf x y 0 t j := by
  unfold zf
  rw [if_neg (by omega)]
theorem zf_up (x y : Int32) (i : Nat) (t : Nat → Nat) (j : Nat) : va_up (zf x y i t) i (lo8 (x + y * nI i)) j = zf x y (i + 1) t j := by
  unfold va_up zf
  by_cases h : j = i
  · rw [if_pos h, if_pos (by omega), h]
  · rw [if_neg h]
    by_cases h2 : j < i
    · rw [if_pos h2, if_pos (by omega)]
    · rw [if_neg h2, if_neg (by omega)]
theorem zf_all (x y : Int32) {i n : Nat} (t : Nat → Nat) (h : n ≤ i) (j : Nat) (hj : j < n) : zf x y i t j = lo8 (x + y * nI j) := by
  unfold zf
  rw [if_pos (by omega)]
theorem len_RL : sq_z2.2.length = 10 := by decide +kernel
theorem len_CL : sq_z3.2.length = 10 := by decide +kernel
section SQO2
variable (l : Launch) {D : va_G} {dB dH dN : ClassId} {ro : Option Nat} {ad : Nat → Nat} {b L : Nat} {xs : Nat → Int32}
set_option maxHeartbeats 4000000 in
set_option maxRecDepth 100000 in
theorem mt_spInit (sz : Nat) (o : Nat)  : Met l yX1_init (wz_ yX1_init cX1_init 1 none) ({ frames := 1, cells := 1, slots := 62, locals := 12 }) (sq_Pc D (sqT dB dH dN) ro ad b L xs [.ref o] sz [(o, .inr (3, [.null, .null]))]) (va_Qv (fun (u : Nat) => True) (sq_B D (va_A [(o, .inr (3, [.null, .null]))] sz) (fun (u : Nat) => [(o, .inr (3, [.ref u, .ref (ad 8)])), (u, eN dH 62 (fun _ => 0))])) (va_A [(o, .inr (3, [.null, .null]))] sz)) 1 62 (va_A [(o, .inr (3, [.null, .null]))] sz) := by
  refine sq_met (fun A => va_Qv (fun (u : Nat) => True) (sq_B D A (fun (u : Nat) => [(o, .inr (3, [.ref u, .ref (ad 8)])), (u, eN dH 62 (fun _ => 0))])) A) (by decide) (Nat.le_of_ble_eq_true rfl) ?_
  intro p e s m below meth c A hx hb hr hlocks hml hown hin htz hP hK hD hE hS hA ls hl
  have hts : ∀ w ∈ lw_all, w.before _ s = true := fun w h => htz w (zq_in h)
  have hl : lv_has ls 1 [(0, .ref o)] := hl
  refine lv_aload_n hx hb dX1_init_0 rfl (lv_at hl 0 rfl) ?_
  refine W.objInit hx hb hown (hts _ q24) (hts _ q25) (hts _ q26) rfl (by rw [hml]; exact hl.1) rfl dX1_init_1 (Nat.le_of_ble_eq_true rfl) (Nat.le_of_ble_eq_true rfl) ?_
  refine W.eq (g2 := F0 m 4 ls []) rfl ?_
  refine lv_aload_n hx hb dX1_init_4 rfl (lv_at hl 0 rfl) ?_
  refine lv_bipush (v := nI 62) hx hb dX1_init_5 (by decide) ?_
  refine sq_newH hx hb (hts _ q35) hK hP hD hS hA 1 62 (by omega) (by omega) (by omega) (Nat.le_of_ble_eq_true rfl) (Nat.le_of_ble_eq_true rfl) dX1_init_7 (fun a H hP hD hS => ?_)
  have hP : va_P D sqCl [(o, .inr (3, [.null, .null])), (a, eN dH 62 (fun _ => 0))] H := hP
  have hD : va_D A [(o, .inr (3, [.null, .null])), (a, eN dH 62 (fun _ => 0))] := hD
  refine va_putF (D := D) (ci := 3) (v := .ref a) (ty := .array .char) (C := RX1) (T := TX1) (N := 2) hx hb hts in_X1 tyX1 tyX1_ok nmX1 hown hK hP hD hS 0 rfl rfl 0 (by decide) (hts _ q28) (fun _ h9 => h9) rfl hin rfl (by decide +kernel) rfl rfl (Nat.le_of_ble_eq_true rfl) dX1_init_9 (fun H locs hP hD hS => ?_)
  have hP : va_P D sqCl [(o, .inr (3, [.ref a, .null])), (a, eN dH 62 (fun _ => 0))] H := hP
  have hD : va_D A [(o, .inr (3, [.ref a, .null])), (a, eN dH 62 (fun _ => 0))] := hD
  refine lv_aload_n hx hb dX1_init_12 rfl (lv_at hl 0 rfl) ?_
  refine va_ldcS hx hb hown hE.2.2.2.2.2.2.2 dX1_init_13 ?_
  refine va_put (D := D) (ci := 3) (v := .ref (ad 8)) (ty := .object "java/lang/String") (C := RX1) (T := TX1) (N := 2) hx hb hts in_X1 tyX1 tyX1_ok nmX1 hown hK hP hD hS 0 rfl rfl 1 (by decide) (hts _ q29) (fun _ h9 => h9) rfl (by decide +kernel) rfl rfl (Nat.le_of_ble_eq_true rfl) dX1_init_15 (fun H locs hP hD hS => ?_)
  have hP : va_P D sqCl [(o, .inr (3, [.ref a, .ref (ad 8)])), (a, eN dH 62 (fun _ => 0))] H := hP
  have hD : va_D A [(o, .inr (3, [.ref a, .ref (ad 8)])), (a, eN dH 62 (fun _ => 0))] := hD
  exact sq_vret a hx hb hr hlocks (trivial) (hP.sub [0, 1] rfl) (hD.sub [0, 1] (by decide) rfl) hS dX1_init_18
set_option maxHeartbeats 4000000 in
set_option maxRecDepth 100000 in
theorem mt_letter (sz : Nat) (o a q : Nat) (x y : Int32) (t : Nat → Nat)  : Met l yX1_letter (wz_ yX1_letter cX1_letter 3 none) ({ frames := 0, cells := 0, slots := 0, locals := 0 }) (sq_Pc D (sqT dB dH dN) ro ad b L xs [.ref o, .int x, .int y] sz [(o, .inr (3, [.ref a, .ref q])), (a, eN dH 62 t)]) (va_Qv (fun (u : Unit) => True) (sq_B D (va_A [(o, .inr (3, [.ref a, .ref q])), (a, eN dH 62 t)] sz) (fun (u : Unit) => [(o, .inr (3, [.ref a, .ref q])), (a, eN dH 62 (va_up t (ps x % 62) (lo8 y)))])) (va_A [(o, .inr (3, [.ref a, .ref q])), (a, eN dH 62 t)] sz)) 0 0 (va_A [(o, .inr (3, [.ref a, .ref q])), (a, eN dH 62 t)] sz) := by
  refine sq_met (fun A => va_Qv (fun (u : Unit) => True) (sq_B D A (fun (u : Unit) => [(o, .inr (3, [.ref a, .ref q])), (a, eN dH 62 (va_up t (ps x % 62) (lo8 y)))])) A) (by decide) (Nat.le_of_ble_eq_true rfl) ?_
  intro p e s m below meth c A hx hb hr hlocks hml hown hin htz hP hK hD hE hS hA ls hl
  have hts : ∀ w ∈ lw_all, w.before _ s = true := fun w h => htz w (zq_in h)
  have hl : lv_has ls 3 [(0, .ref o), (1, .int x), (2, .int y)] := hl
  have hy := lo8_lt y
  have hxx := ps_lt x
  refine lv_aload_n hx hb dX1_letter_0 rfl (lv_at hl 0 rfl) ?_
  refine va_get (D := D) (ci := 3) (v := .ref a) (C := RX1) (T := TX1) (N := 2) hx hb hts in_X1 hown hK hP 0 rfl rfl 0 (by decide) (hts _ q28) (fun _ h9 => h9) rfl dX1_letter_1 ?_
  refine lv_iload_n hx hb dX1_letter_4 rfl (lv_at hl 1 rfl) ?_
  refine lv_ldc hx hb hown (hts _ q41) dX1_letter_5 ?_
  refine lv_iand hx hb dX1_letter_7 (sq_top (ps_e x) ?_)
  refine lv_bipush (v := nI 62) hx hb dX1_letter_8 (by decide) ?_
  refine sq_irem hx hb dX1_letter_10 (hxx) (by decide) (by decide) ?_
  refine lv_iload_n hx hb dX1_letter_11 rfl (lv_at hl 2 rfl) ?_
  refine lv_sipush (v := nI 255) hx hb dX1_letter_12 (by decide) ?_
  refine lv_iand hx hb dX1_letter_15 (sq_top (lo8_e y) ?_)
  refine sq_i2c hx hb dX1_letter_16 (by omega) ?_
  refine sq_cast hx hb hK hP hD hS 1 rfl (Nat.mod_lt _ (by decide)) (by decide) (by omega) dX1_letter_17 (fun H locs hP hD hS => ?_)
  have hP : va_P D sqCl [(o, .inr (3, [.ref a, .ref q])), (a, eN dH 62 (va_up t ((ps x) % 62) (lo8 y)))] H := hP
  have hD : va_D A [(o, .inr (3, [.ref a, .ref q])), (a, eN dH 62 (va_up t ((ps x) % 62) (lo8 y)))] := hD
  exact sq_vret () hx hb hr hlocks (trivial) (hP.sub [0, 1] rfl) (hD.sub [0, 1] (by decide) rfl) hS dX1_letter_18
set_option maxHeartbeats 4000000 in
set_option maxRecDepth 100000 in
theorem mt_fill (sz : Nat) (o a q : Nat) (x y : Int32) (t : Nat → Nat)  : Met l yX1_fill (wz_ yX1_fill cX1_fill 4 none) ({ frames := 0, cells := 0, slots := 0, locals := 0 }) (sq_Pc D (sqT dB dH dN) ro ad b L xs [.ref o, .int x, .int y] sz [(o, .inr (3, [.ref a, .ref q])), (a, eN dH 62 t)]) (va_Qv (fun (u : Unit) => True) (sq_B D (va_A [(o, .inr (3, [.ref a, .ref q])), (a, eN dH 62 t)] sz) (fun (u : Unit) => [(o, .inr (3, [.ref a, .ref q])), (a, eN dH 62 (fun j => lo8 (x + y * nI j)))])) (va_A [(o, .inr (3, [.ref a, .ref q])), (a, eN dH 62 t)] sz)) 0 0 (va_A [(o, .inr (3, [.ref a, .ref q])), (a, eN dH 62 t)] sz) := by
  refine sq_met (fun A => va_Qv (fun (u : Unit) => True) (sq_B D A (fun (u : Unit) => [(o, .inr (3, [.ref a, .ref q])), (a, eN dH 62 (fun j => lo8 (x + y * nI j)))])) A) (by decide) (Nat.le_of_ble_eq_true rfl) ?_
  intro p e s m below meth c A hx hb hr hlocks hml hown hin htz hP hK hD hE hS hA ls hl
  have hts : ∀ w ∈ lw_all, w.before _ s = true := fun w h => htz w (zq_in h)
  have hl : lv_has ls 4 [(0, .ref o), (1, .int x), (2, .int y)] := hl
  refine lv_iconst (v := nI 0) hx hb dX1_fill_0 (by decide) ?_
  refine lv_istore_n (lv' := [(3, .int (nI 0)), (0, .ref o), (1, .int x), (2, .int y)]) hx hb dX1_fill_1 rfl hl (by decide) rfl (fun ls hl => ?_)
  obtain ⟨hP, hD⟩ := sq_cg (g := fun j => nI ((zf x y 0 t) j)) hP hD 1 rfl (fun j hj => congrArg nI (zf_0 x y t j))
  have hP : va_P D sqCl [(o, .inr (3, [.ref a, .ref q])), (a, eN dH 62 (zf x y 0 t))] s.heap := hP
  have hD : va_D A [(o, .inr (3, [.ref a, .ref q])), (a, eN dH 62 (zf x y 0 t))] := hD
  refine sq_loop (fun (i : Nat) H locs ls => va_P D sqCl [(o, .inr (3, [.ref a, .ref q])), (a, eN dH 62 (zf x y i t))] H ∧ va_D A [(o, .inr (3, [.ref a, .ref q])), (a, eN dH 62 (zf x y i t))] ∧ va_S A s.heap H locs ∧ lv_has ls 4 [(0, .ref o), (1, .int x), (2, .int y), (3, .int (nI i))]) 62 ?_ 0 _ _ _ (Nat.zero_le _) ⟨hP.sub [0, 1] rfl, hD.sub [0, 1] (by decide) rfl, hS, lv_sub hl [1, 2, 3, 0] rfl⟩
  intro i H locs ls h_i hI ih
  obtain ⟨hP, hD, hS, hl⟩ := hI
  refine lv_iload_n hx hb dX1_fill_2 rfl (lv_at hl 3 rfl) ?_
  refine lv_bipush (v := nI 62) hx hb dX1_fill_3 (by decide) ?_
  refine sq_ge (tgt := 30) hx hb dX1_fill_5 (by decide) (by omega) (by decide) (fun hc1 => ?_) (fun hc1 => ?_)
  rotate_left
  · have hy := lo8_lt (x + y * nI i)
    refine lv_aload_n hx hb dX1_fill_8 rfl (lv_at hl 0 rfl) ?_
    refine va_get (D := D) (ci := 3) (v := .ref a) (C := RX1) (T := TX1) (N := 2) hx hb hts in_X1 hown hK hP 0 rfl rfl 0 (by decide) (hts _ q28) (fun _ h9 => h9) rfl dX1_fill_9 ?_
    refine lv_iload_n hx hb dX1_fill_12 rfl (lv_at hl 3 rfl) ?_
    refine lv_iload_n hx hb dX1_fill_13 rfl (lv_at hl 1 rfl) ?_
    refine lv_iload_n hx hb dX1_fill_14 rfl (lv_at hl 2 rfl) ?_
    refine lv_iload_n hx hb dX1_fill_15 rfl (lv_at hl 3 rfl) ?_
    refine lv_imul hx hb dX1_fill_16 ?_
    refine lv_iadd hx hb dX1_fill_17 ?_
    refine lv_sipush (v := nI 255) hx hb dX1_fill_18 (by decide) ?_
    refine lv_iand hx hb dX1_fill_21 (sq_top (lo8_e _) ?_)
    refine sq_i2c hx hb dX1_fill_22 (by omega) ?_
    refine sq_cast hx hb hK hP hD hS 1 rfl (hc1) (by decide) (by omega) dX1_fill_23 (fun H locs hP hD hS => ?_)
    have hP : va_P D sqCl [(o, .inr (3, [.ref a, .ref q])), (a, eN dH 62 (va_up (zf x y i t) i (lo8 (x + y * nI i))))] H := hP
    have hD : va_D A [(o, .inr (3, [.ref a, .ref q])), (a, eN dH 62 (va_up (zf x y i t) i (lo8 (x + y * nI i))))] := hD
    obtain ⟨hP, hD⟩ := sq_cg (g := fun j => nI ((zf x y (i + 1) t) j)) hP hD 1 rfl (fun j hj => congrArg nI (zf_up x y i t j))
    have hP : va_P D sqCl [(o, .inr (3, [.ref a, .ref q])), (a, eN dH 62 (zf x y (i + 1) t))] H := hP
    have hD : va_D A [(o, .inr (3, [.ref a, .ref q])), (a, eN dH 62 (zf x y (i + 1) t))] := hD
    refine lv_iinc (v := nI (i + 1)) (lv' := [(3, .int (nI (i + 1))), (0, .ref o), (1, .int x), (2, .int y)]) hx hb dX1_fill_24 hl (k := 3) rfl (nI_1 i) (by decide) rfl (fun ls hl => ?_)
    refine lv_goto (tgt := 2) hx hb dX1_fill_27 (by decide) ?_
    exact ih _ _ _ (hc1) ⟨hP.sub [0, 1] rfl, hD.sub [0, 1] (by decide) rfl, hS, lv_sub hl [1, 2, 3, 0] rfl⟩
  obtain ⟨hP, hD⟩ := sq_cg (g := fun j => nI ((fun j => lo8 (x + y * nI j)) j)) hP hD 1 rfl (fun j hj => congrArg nI (zf_all x y t hc1 j hj))
  have hP : va_P D sqCl [(o, .inr (3, [.ref a, .ref q])), (a, eN dH 62 (fun j => lo8 (x + y * nI j)))] H := hP
  have hD : va_D A [(o, .inr (3, [.ref a, .ref q])), (a, eN dH 62 (fun j => lo8 (x + y * nI j)))] := hD
  exact sq_vret () hx hb hr hlocks (trivial) (hP.sub [0, 1] rfl) (hD.sub [0, 1] (by decide) rfl) hS dX1_fill_30
set_option maxHeartbeats 4000000 in
set_option maxRecDepth 100000 in
theorem mt_write (sz : Nat) (o a q : Nat) (x : Int32) (t : Nat → Nat) (ht : ∀ j, t j < 256) : Met l yX1_write (wz_ yX1_write cX1_write 3 (some .int)) ({ frames := 7, cells := 11, slots := 488, locals := 174 }) (sq_Pc D (sqT dB dH dN) ro ad b L xs [.ref o, .int x] sz [(o, .inr (3, [.ref a, .ref q])), (a, eN dH 62 t)]) (va_Qi (fun (r : Int32) (u : Nat × Nat) => r = nI (gn (ps x % 10))) (sq_B D (va_A [(o, .inr (3, [.ref a, .ref q])), (a, eN dH 62 t)] sz) (fun (u : Nat × Nat) => [(o, .inr (3, [.ref a, .ref u.1])), (a, eN dH 62 t), (u.1, .inr (0, [.ref u.2, .int 0, .int 0, .int 0])), (u.2, eB dB (gn (ps x % 10)) (gw (ps x % 10) t))])) (va_A [(o, .inr (3, [.ref a, .ref q])), (a, eN dH 62 t)] sz)) 11 488 (va_A [(o, .inr (3, [.ref a, .ref q])), (a, eN dH 62 t)] sz) := by
  refine sq_met (fun A => va_Qi (fun (r : Int32) (u : Nat × Nat) => r = nI (gn (ps x % 10))) (sq_B D A (fun (u : Nat × Nat) => [(o, .inr (3, [.ref a, .ref u.1])), (a, eN dH 62 t), (u.1, .inr (0, [.ref u.2, .int 0, .int 0, .int 0])), (u.2, eB dB (gn (ps x % 10)) (gw (ps x % 10) t))])) A) (by decide) (Nat.le_of_ble_eq_true rfl) ?_
  intro p e s m below meth c A hx hb hr hlocks hml hown hin htz hP hK hD hE hS hA ls hl
  have hts : ∀ w ∈ lw_all, w.before _ s = true := fun w h => htz w (zq_in h)
  have hl : lv_has ls 3 [(0, .ref o), (1, .int x)] := hl
  have hxx := ps_lt x
  obtain ⟨kd, hkd⟩ : ∃ z, z = ps x % 10 := ⟨_, rfl⟩
  have hk : kd < 10 := by omega
  rw [← hkd]
  have hkk := gf_kind kd hk
  refine lv_iload_n hx hb dX1_write_0 rfl (lv_at hl 1 rfl) ?_
  refine lv_ldc hx hb hown (hts _ q41) dX1_write_1 ?_
  refine lv_iand hx hb dX1_write_3 (sq_top (ps_e x) ?_)
  refine lv_bipush (v := nI 10) hx hb dX1_write_4 (by decide) ?_
  refine sq_irem hx hb dX1_write_6 (hxx) (by decide) (by decide) ?_
  refine sq_top (y := nI kd) (by rw [hkd]) ?_
  refine lv_istore_n (lv' := [(2, .int (nI kd)), (0, .ref o), (1, .int x)]) hx hb dX1_write_7 rfl hl (by decide) rfl (fun ls hl => ?_)
  refine lv_aload_n hx hb dX1_write_8 rfl (lv_at hl 1 rfl) ?_
  refine va_new (ci := 0) (fs := [.null, .int 0, .int 0, .int 0]) (C := RJ0) (T := TJ0) (N := 4) hx hb hts in_J0 tyJ0 tyJ0_ok hown (hts _ q116) (hts _ q117) (hts _ q3) hK hP hD hS hA rfl (fun j hj => by rcases (show j = 0 ∨ j = 1 ∨ j = 2 ∨ j = 3 by omega) with rfl | rfl | rfl | rfl <;> rfl) (Nat.le_of_ble_eq_true rfl) (Nat.le_of_ble_eq_true rfl) dX1_write_9 (fun s1 H hP hD hS => ?_)
  have hP : va_P D sqCl [(o, .inr (3, [.ref a, .ref q])), (a, eN dH 62 t), (s1, .inr (0, [.null, .int 0, .int 0, .int 0]))] H := hP
  have hD : va_D A [(o, .inr (3, [.ref a, .ref q])), (a, eN dH 62 t), (s1, .inr (0, [.null, .int 0, .int 0, .int 0]))] := hD
  refine W.widen (k := 1) (n := 4) (Nat.le_refl _) (Nat.le_refl _) ?_
  refine lv_dup hx hb dX1_write_12 rfl ?_
  refine lv_aload_n hx hb dX1_write_13 rfl (lv_at hl 1 rfl) ?_
  refine va_get (D := D) (ci := 3) (v := .ref a) (C := RX1) (T := TX1) (N := 2) hx hb hts in_X1 hown hK hP 0 rfl rfl 0 (by decide) (hts _ q28) (fun _ h9 => h9) rfl dX1_write_14 ?_
  refine lv_iconst (v := nI 0) hx hb dX1_write_17 (by decide) ?_
  refine sq_gs (v := .ref (ad 2)) 4 rfl hx hb hE hS hown (hts _ q118) (fun _ h9 => h9) dX1_write_18 ?_
  refine lv_iload_n hx hb dX1_write_21 rfl (lv_at hl 0 rfl) ?_
  refine sq_ti (z := sq_z2) hx hb hE hS (List.mem_of_getElem? (i := 2) rfl) (by rw [len_RL]; exact hk) (by rw [len_RL]; decide) dX1_write_22 ?_
  refine sq_top (y := nI (gf_R kd)) (rfl) ?_
  refine sq_retv (wc := [(s1, .inr (0, [.null, .int 0, .int 0, .int 0])), (a, eN dH 62 t)]) (wr := [(o, .inr (3, [.ref a, .ref q]))]) hP hD hS hA [2, 1] [0] rfl rfl (by decide) (by decide) (va_runI (As := [.ref a, .int (nI 0), .int (nI (gf_R kd))]) (rest := [.ref s1, .ref o]) ⟨hx, hb, hml, hown, htz⟩ (mt_init1 l H.size s1 a (gf_R kd) 62 t (by omega) (by omega) (by omega) (by decide) ht) (cwI 3 htz (z_meth q122) rfl rfl rfl (hts _ q3) (hts _ q120) (hts _ q121) rfl (by decide +kernel) ⟨(Nat.le_of_ble_eq_true rfl), (Nat.le_of_ble_eq_true rfl)⟩) (sq_preS (wc := [(s1, .inr (0, [.null, .int 0, .int 0, .int 0])), (a, eN dH 62 t)]) hP hD hK hE hS hA [2, 1] rfl (by decide)) rfl rfl hl.1 rfl (lv_room (Nat.le_of_ble_eq_true rfl)) dX1_write_23 ⟨(Nat.le_of_ble_eq_true rfl), (Nat.le_of_ble_eq_true rfl)⟩) (fun u H locs _ hP hD hS => ?_)
  refine W.widen (k := 2) (n := 102) (Nat.le_refl _) (Nat.le_refl _) ?_
  obtain ⟨v1, rfl⟩ : ∃ z, z = u := ⟨_, rfl⟩
  have hP : va_P D sqCl [(o, .inr (3, [.ref a, .ref q])), (s1, .inr (0, [.ref v1, .int 0, .int 0, .int 0])), (a, eN dH 62 t), (v1, eB dB (gf_R kd) t)] H := hP
  have hD : va_D A [(o, .inr (3, [.ref a, .ref q])), (s1, .inr (0, [.ref v1, .int 0, .int 0, .int 0])), (a, eN dH 62 t), (v1, eB dB (gf_R kd) t)] := hD
  refine va_new (ci := 2) (fs := [.int 0, .int 0, .int 0, .int 0, .int 0, .int 0, .int 0, .int 0]) (C := RX2) (T := TX2) (N := 8) hx hb hts in_X2 tyX2 tyX2_ok hown (hts _ q178) (hts _ q179) (hts _ q7) hK hP hD hS hA rfl (fun j hj => by rcases (show j = 0 ∨ j = 1 ∨ j = 2 ∨ j = 3 ∨ j = 4 ∨ j = 5 ∨ j = 6 ∨ j = 7 by omega) with rfl | rfl | rfl | rfl | rfl | rfl | rfl | rfl <;> rfl) (Nat.le_of_ble_eq_true rfl) (Nat.le_of_ble_eq_true rfl) dX1_write_26 (fun y1 H hP hD hS => ?_)
  have hP : va_P D sqCl [(o, .inr (3, [.ref a, .ref q])), (s1, .inr (0, [.ref v1, .int 0, .int 0, .int 0])), (a, eN dH 62 t), (v1, eB dB (gf_R kd) t), (y1, .inr (2, [.int 0, .int 0, .int 0, .int 0, .int 0, .int 0, .int 0, .int 0]))] H := hP
  have hD : va_D A [(o, .inr (3, [.ref a, .ref q])), (s1, .inr (0, [.ref v1, .int 0, .int 0, .int 0])), (a, eN dH 62 t), (v1, eB dB (gf_R kd) t), (y1, .inr (2, [.int 0, .int 0, .int 0, .int 0, .int 0, .int 0, .int 0, .int 0]))] := hD
  refine W.widen (k := 3) (n := 110) (Nat.le_refl _) (Nat.le_refl _) ?_
  refine lv_dup hx hb dX1_write_29 rfl ?_
  refine lv_iconst (v := nI 0) hx hb dX1_write_30 (by decide) ?_
  refine sq_gs (v := .ref (ad 2)) 4 rfl hx hb hE hS hown (hts _ q118) (fun _ h9 => h9) dX1_write_31 ?_
  refine lv_iload_n hx hb dX1_write_34 rfl (lv_at hl 0 rfl) ?_
  refine sq_ti (z := sq_z2) hx hb hE hS (List.mem_of_getElem? (i := 2) rfl) (by rw [len_RL]; exact hk) (by rw [len_RL]; decide) dX1_write_35 ?_
  refine sq_top (y := nI (gf_R kd)) (rfl) ?_
  refine sq_gs (v := .ref (ad 3)) 5 rfl hx hb hE hS hown (hts _ q180) (fun _ h9 => h9) dX1_write_36 ?_
  refine lv_iload_n hx hb dX1_write_39 rfl (lv_at hl 0 rfl) ?_
  refine sq_ti (z := sq_z3) hx hb hE hS (List.mem_of_getElem? (i := 3) rfl) (by rw [len_CL]; exact hk) (by rw [len_CL]; decide) dX1_write_40 ?_
  refine sq_top (y := nI (gf_C kd)) (rfl) ?_
  refine lv_bipush (v := nI 8) hx hb dX1_write_41 (by decide) ?_
  refine lv_bipush (v := nI 8) hx hb dX1_write_43 (by decide) ?_
  refine lv_iconst (v := nI 1) hx hb dX1_write_45 (by decide) ?_
  refine sq_retv (wc := [(y1, .inr (2, [.int 0, .int 0, .int 0, .int 0, .int 0, .int 0, .int 0, .int 0]))]) (wr := [(o, .inr (3, [.ref a, .ref q])), (s1, .inr (0, [.ref v1, .int 0, .int 0, .int 0])), (a, eN dH 62 t), (v1, eB dB (gf_R kd) t)]) hP hD hS hA [4] [0, 1, 2, 3] rfl rfl (by decide) (by decide) (va_runI (As := [.int (nI 0), .int (nI (gf_R kd)), .int (nI (gf_C kd)), .int (nI 8), .int (nI 8), .int (nI 1)]) (rest := [.ref y1, .ref s1, .ref o]) ⟨hx, hb, hml, hown, htz⟩ (mt_symInit l H.size y1 (gf_R kd) (gf_C kd)) (cwI 6 htz (z_meth q184) rfl rfl rfl (hts _ q7) (hts _ q182) (hts _ q183) rfl (by decide +kernel) ⟨(Nat.le_of_ble_eq_true rfl), (Nat.le_of_ble_eq_true rfl)⟩) (sq_preS (wc := [(y1, .inr (2, [.int 0, .int 0, .int 0, .int 0, .int 0, .int 0, .int 0, .int 0]))]) hP hD hK hE hS hA [4] rfl (by decide)) rfl rfl hl.1 rfl (lv_room (Nat.le_of_ble_eq_true rfl)) dX1_write_46 ⟨(Nat.le_of_ble_eq_true rfl), (Nat.le_of_ble_eq_true rfl)⟩) (fun u H locs _ hP hD hS => ?_)
  have hP : va_P D sqCl [(o, .inr (3, [.ref a, .ref q])), (s1, .inr (0, [.ref v1, .int 0, .int 0, .int 0])), (a, eN dH 62 t), (v1, eB dB (gf_R kd) t), (y1, .inr (2, [.int (nI 0), .int (nI (gf_R kd)), .int (nI (gf_C kd)), .int (nI 8), .int (nI 8), .int (nI 1), .int (nI (gf_R kd)), .int (nI (gf_C kd))]))] H := hP
  have hD : va_D A [(o, .inr (3, [.ref a, .ref q])), (s1, .inr (0, [.ref v1, .int 0, .int 0, .int 0])), (a, eN dH 62 t), (v1, eB dB (gf_R kd) t), (y1, .inr (2, [.int (nI 0), .int (nI (gf_R kd)), .int (nI (gf_C kd)), .int (nI 8), .int (nI 8), .int (nI 1), .int (nI (gf_R kd)), .int (nI (gf_C kd))]))] := hD
  refine sq_retr (wc := [(s1, .inr (0, [.ref v1, .int 0, .int 0, .int 0])), (v1, eB dB (gf_R kd) t), (y1, .inr (2, [.int (nI 0), .int (nI (gf_R kd)), .int (nI (gf_C kd)), .int (nI 8), .int (nI 8), .int (nI 1), .int (nI (gf_R kd)), .int (nI (gf_C kd))]))]) (wr := [(o, .inr (3, [.ref a, .ref q])), (a, eN dH 62 t)]) hP hD hS hA [1, 3, 4] [0, 2] rfl rfl (by decide) (by decide) (va_runS (As := [.ref s1, .ref y1]) (rest := [.ref o]) ⟨hx, hb, hml, hown, htz⟩ (mt_encode l H.size s1 v1 y1 (gf_R kd) (gf_C kd) (gf_T kd) t (by omega) (by omega) (by omega) (by omega) (by omega) hkk.2.2.2.2.2.1 (fun i hi => gf_first kd hk i hi) hkk.2.2.2.2.2.2 (fun j hj => gf_P_ok kd hk j hj) ht) (va_cwS 2 htz (z_S q214 q215 q8 q216) rfl rfl rfl (by decide +kernel) ⟨(Nat.le_of_ble_eq_true rfl), (Nat.le_of_ble_eq_true rfl)⟩) (sq_preS (wc := [(s1, .inr (0, [.ref v1, .int 0, .int 0, .int 0])), (v1, eB dB (gf_R kd) t), (y1, .inr (2, [.int (nI 0), .int (nI (gf_R kd)), .int (nI (gf_C kd)), .int (nI 8), .int (nI 8), .int (nI 1), .int (nI (gf_R kd)), .int (nI (gf_C kd))]))]) hP hD hK hE hS hA [1, 3, 4] rfl (by decide)) rfl rfl hl.1 rfl (lv_room (Nat.le_of_ble_eq_true rfl)) dX1_write_49 ⟨(Nat.le_of_ble_eq_true rfl), (Nat.le_of_ble_eq_true rfl)⟩) (fun u k3 H locs _ hP hD hS => ?_)
  refine W.widen (k := 11) (n := 488) (Nat.le_refl _) (Nat.le_refl _) ?_
  obtain ⟨v3, rfl⟩ : ∃ z, z = u := ⟨_, rfl⟩
  have hP : va_P D sqCl [(o, .inr (3, [.ref a, .ref q])), (a, eN dH 62 t), (s1, .inr (0, [.ref v1, .int 0, .int 0, .int 0])), (v1, eB dB (gf_R kd) t), (k3, .inr (0, [.ref v3, .int 0, .int 0, .int 0])), (v3, eB dB (gn kd) (gw kd t))] H := hP
  have hD : va_D A [(o, .inr (3, [.ref a, .ref q])), (a, eN dH 62 t), (s1, .inr (0, [.ref v1, .int 0, .int 0, .int 0])), (v1, eB dB (gf_R kd) t), (k3, .inr (0, [.ref v3, .int 0, .int 0, .int 0])), (v3, eB dB (gn kd) (gw kd t))] := hD
  refine va_put (D := D) (ci := 3) (v := .ref k3) (ty := .object "java/lang/String") (C := RX1) (T := TX1) (N := 2) hx hb hts in_X1 tyX1 tyX1_ok nmX1 hown hK hP hD hS 0 rfl rfl 1 (by decide) (hts _ q29) (fun _ h9 => h9) rfl (by decide +kernel) rfl rfl (Nat.le_of_ble_eq_true rfl) dX1_write_52 (fun H locs hP hD hS => ?_)
  have hP : va_P D sqCl [(o, .inr (3, [.ref a, .ref k3])), (a, eN dH 62 t), (s1, .inr (0, [.ref v1, .int 0, .int 0, .int 0])), (v1, eB dB (gf_R kd) t), (k3, .inr (0, [.ref v3, .int 0, .int 0, .int 0])), (v3, eB dB (gn kd) (gw kd t))] H := hP
  have hD : va_D A [(o, .inr (3, [.ref a, .ref k3])), (a, eN dH 62 t), (s1, .inr (0, [.ref v1, .int 0, .int 0, .int 0])), (v1, eB dB (gf_R kd) t), (k3, .inr (0, [.ref v3, .int 0, .int 0, .int 0])), (v3, eB dB (gn kd) (gw kd t))] := hD
  refine lv_aload_n hx hb dX1_write_55 rfl (lv_at hl 1 rfl) ?_
  refine va_get (D := D) (ci := 3) (v := .ref k3) (C := RX1) (T := TX1) (N := 2) hx hb hts in_X1 hown hK hP 0 rfl rfl 1 (by decide) (hts _ q29) (fun _ h9 => h9) rfl dX1_write_56 ?_
  refine sq_reti (wc := [(k3, .inr (0, [.ref v3, .int 0, .int 0, .int 0])), (v3, eB dB (gn kd) (gw kd t))]) (wr := [(o, .inr (3, [.ref a, .ref k3])), (a, eN dH 62 t), (s1, .inr (0, [.ref v1, .int 0, .int 0, .int 0])), (v1, eB dB (gf_R kd) t)]) hP hD hS hA [4, 5] [0, 1, 2, 3] rfl rfl (by decide) (by decide) (va_runV (As := []) (rest := []) ⟨hx, hb, hml, hown, htz⟩ (mt_length l H.size k3 v3 (gn kd) (gw kd t)) (cwV 0 htz (z_V q50 q51 q52 q3 q53) rfl rfl rfl (by decide +kernel) ⟨(Nat.le_of_ble_eq_true rfl), (Nat.le_of_ble_eq_true rfl)⟩) (sq_preV (wc := [(k3, .inr (0, [.ref v3, .int 0, .int 0, .int 0])), (v3, eB dB (gn kd) (gw kd t))]) (va_recv hK hP (ci := 0) (q0 := 4) rfl rfl) hP hD hK hE hS hA [4, 5] rfl (by decide)) rfl rfl hl.1 rfl (lv_room (Nat.le_of_ble_eq_true rfl)) dX1_write_59 ⟨(Nat.le_of_ble_eq_true rfl), (Nat.le_of_ble_eq_true rfl)⟩) (fun r u H locs hw hP hD hS => ?_)
  rw [hw]
  have hP : va_P D sqCl [(o, .inr (3, [.ref a, .ref k3])), (a, eN dH 62 t), (s1, .inr (0, [.ref v1, .int 0, .int 0, .int 0])), (v1, eB dB (gf_R kd) t), (k3, .inr (0, [.ref v3, .int 0, .int 0, .int 0])), (v3, eB dB (gn kd) (gw kd t))] H := hP
  have hD : va_D A [(o, .inr (3, [.ref a, .ref k3])), (a, eN dH 62 t), (s1, .inr (0, [.ref v1, .int 0, .int 0, .int 0])), (v1, eB dB (gf_R kd) t), (k3, .inr (0, [.ref v3, .int 0, .int 0, .int 0])), (v3, eB dB (gn kd) (gw kd t))] := hD
  exact sq_iret (k3, v3) hx hb hr hlocks (rfl) (rfl) (hP.sub [0, 1, 4, 5] rfl) (hD.sub [0, 1, 4, 5] (by decide) rfl) hS dX1_write_62
set_option maxHeartbeats 4000000 in
set_option maxRecDepth 100000 in
theorem mt_whole (sz : Nat) (o a q v n : Nat) (x : Int32) (t : Nat → Nat) (h0 : 0 < n) (hn : n < 2 ^ 31) (ht : ∀ j, t j < 256) : Met l yX1_whole (wz_ yX1_whole cX1_whole 2 (some .int)) ({ frames := 4, cells := 0, slots := 0, locals := 85 }) (sq_Pc D (sqT dB dH dN) ro ad b L xs [.ref o, .int x] sz [(o, .inr (3, [.ref a, .ref q])), (q, .inr (0, [.ref v, .int 0, .int 0, .int 0])), (v, eB dB n t)]) (va_Qi (fun (r : Int32) (u : Unit) => r = nI (t (ps x % n))) (sq_B D (va_A [(o, .inr (3, [.ref a, .ref q])), (q, .inr (0, [.ref v, .int 0, .int 0, .int 0])), (v, eB dB n t)] sz) (fun (u : Unit) => [(o, .inr (3, [.ref a, .ref q])), (q, .inr (0, [.ref v, .int 0, .int 0, .int 0])), (v, eB dB n t)])) (va_A [(o, .inr (3, [.ref a, .ref q])), (q, .inr (0, [.ref v, .int 0, .int 0, .int 0])), (v, eB dB n t)] sz)) 0 0 (va_A [(o, .inr (3, [.ref a, .ref q])), (q, .inr (0, [.ref v, .int 0, .int 0, .int 0])), (v, eB dB n t)] sz) := by
  refine sq_met (fun A => va_Qi (fun (r : Int32) (u : Unit) => r = nI (t (ps x % n))) (sq_B D A (fun (u : Unit) => [(o, .inr (3, [.ref a, .ref q])), (q, .inr (0, [.ref v, .int 0, .int 0, .int 0])), (v, eB dB n t)])) A) (by decide) (Nat.le_of_ble_eq_true rfl) ?_
  intro p e s m below meth c A hx hb hr hlocks hml hown hin htz hP hK hD hE hS hA ls hl
  have hts : ∀ w ∈ lw_all, w.before _ s = true := fun w h => htz w (zq_in h)
  have hl : lv_has ls 2 [(0, .ref o), (1, .int x)] := hl
  refine lv_aload_n hx hb dX1_whole_0 rfl (lv_at hl 0 rfl) ?_
  refine va_get (D := D) (ci := 3) (v := .ref q) (C := RX1) (T := TX1) (N := 2) hx hb hts in_X1 hown hK hP 0 rfl rfl 1 (by decide) (hts _ q29) (fun _ h9 => h9) rfl dX1_whole_1 ?_
  refine sq_reti (wc := [(q, .inr (0, [.ref v, .int 0, .int 0, .int 0])), (v, eB dB n t)]) (wr := [(o, .inr (3, [.ref a, .ref q]))]) hP hD hS hA [1, 2] [0] rfl rfl (by decide) (by decide) (va_runV (As := []) (rest := []) ⟨hx, hb, hml, hown, htz⟩ (mt_length l s.heap.size q v n t) (cwV 0 htz (z_V q50 q51 q52 q3 q53) rfl rfl rfl (by decide +kernel) ⟨(Nat.le_of_ble_eq_true rfl), (Nat.le_of_ble_eq_true rfl)⟩) (sq_preV (wc := [(q, .inr (0, [.ref v, .int 0, .int 0, .int 0])), (v, eB dB n t)]) (va_recv hK hP (ci := 0) (q0 := 1) rfl rfl) hP hD hK hE hS hA [1, 2] rfl (by decide)) rfl rfl hl.1 rfl (lv_room (Nat.le_of_ble_eq_true rfl)) dX1_whole_4 ⟨(Nat.le_of_ble_eq_true rfl), (Nat.le_of_ble_eq_true rfl)⟩) (fun r u H locs hw hP hD hS => ?_)
  rw [hw]
  have hP : va_P D sqCl [(o, .inr (3, [.ref a, .ref q])), (q, .inr (0, [.ref v, .int 0, .int 0, .int 0])), (v, eB dB n t)] H := hP
  have hD : va_D A [(o, .inr (3, [.ref a, .ref q])), (q, .inr (0, [.ref v, .int 0, .int 0, .int 0])), (v, eB dB n t)] := hD
  refine sq_if_ne (tgt := 14) hx hb dX1_whole_7 (by decide) (hn) (fun hc => ?_) (fun hc => by exfalso; omega)
  refine lv_aload_n hx hb dX1_whole_14 rfl (lv_at hl 0 rfl) ?_
  refine va_get (D := D) (ci := 3) (v := .ref q) (C := RX1) (T := TX1) (N := 2) hx hb hts in_X1 hown hK hP 0 rfl rfl 1 (by decide) (hts _ q29) (fun _ h9 => h9) rfl dX1_whole_15 ?_
  refine lv_iload_n hx hb dX1_whole_18 rfl (lv_at hl 1 rfl) ?_
  refine lv_ldc hx hb hown (hts _ q41) dX1_whole_19 ?_
  refine lv_iand hx hb dX1_whole_21 (sq_top (ps_e x) ?_)
  refine lv_aload_n hx hb dX1_whole_22 rfl (lv_at hl 0 rfl) ?_
  refine va_get (D := D) (ci := 3) (v := .ref q) (C := RX1) (T := TX1) (N := 2) hx hb hts in_X1 hown hK hP 0 rfl rfl 1 (by decide) (hts _ q29) (fun _ h9 => h9) rfl dX1_whole_23 ?_
  refine sq_reti (wc := [(q, .inr (0, [.ref v, .int 0, .int 0, .int 0])), (v, eB dB n t)]) (wr := [(o, .inr (3, [.ref a, .ref q]))]) hP hD hS hA [1, 2] [0] rfl rfl (by decide) (by decide) (va_runV (As := []) (rest := [.int (nI (ps x)), .ref q]) ⟨hx, hb, hml, hown, htz⟩ (mt_length l H.size q v n t) (cwV 0 htz (z_V q50 q51 q52 q3 q53) rfl rfl rfl (by decide +kernel) ⟨(Nat.le_of_ble_eq_true rfl), (Nat.le_of_ble_eq_true rfl)⟩) (sq_preV (wc := [(q, .inr (0, [.ref v, .int 0, .int 0, .int 0])), (v, eB dB n t)]) (va_recv hK hP (ci := 0) (q0 := 1) rfl rfl) hP hD hK hE hS hA [1, 2] rfl (by decide)) rfl rfl hl.1 rfl (lv_room (Nat.le_of_ble_eq_true rfl)) dX1_whole_26 ⟨(Nat.le_of_ble_eq_true rfl), (Nat.le_of_ble_eq_true rfl)⟩) (fun r u H locs hw hP hD hS => ?_)
  rw [hw]
  have hP : va_P D sqCl [(o, .inr (3, [.ref a, .ref q])), (q, .inr (0, [.ref v, .int 0, .int 0, .int 0])), (v, eB dB n t)] H := hP
  have hD : va_D A [(o, .inr (3, [.ref a, .ref q])), (q, .inr (0, [.ref v, .int 0, .int 0, .int 0])), (v, eB dB n t)] := hD
  refine sq_irem hx hb dX1_whole_29 (ps_lt x) (h0) (hn) ?_
  refine sq_reti (wc := [(q, .inr (0, [.ref v, .int 0, .int 0, .int 0])), (v, eB dB n t)]) (wr := [(o, .inr (3, [.ref a, .ref q]))]) hP hD hS hA [1, 2] [0] rfl rfl (by decide) (by decide) (va_runV (As := [.int (nI ((ps x) % n))]) (rest := []) ⟨hx, hb, hml, hown, htz⟩ (mt_charAt l H.size q v n (ps x % n) t (Nat.mod_lt _ h0) hn ht) (cwV 1 htz (z_V q60 q61 q62 q3 q63) rfl rfl rfl (by decide +kernel) ⟨(Nat.le_of_ble_eq_true rfl), (Nat.le_of_ble_eq_true rfl)⟩) (sq_preV (wc := [(q, .inr (0, [.ref v, .int 0, .int 0, .int 0])), (v, eB dB n t)]) (va_recv hK hP (ci := 0) (q0 := 1) rfl rfl) hP hD hK hE hS hA [1, 2] rfl (by decide)) rfl rfl hl.1 rfl (lv_room (Nat.le_of_ble_eq_true rfl)) dX1_whole_30 ⟨(Nat.le_of_ble_eq_true rfl), (Nat.le_of_ble_eq_true rfl)⟩) (fun r u H locs hw hP hD hS => ?_)
  rw [hw]
  have hP : va_P D sqCl [(o, .inr (3, [.ref a, .ref q])), (q, .inr (0, [.ref v, .int 0, .int 0, .int 0])), (v, eB dB n t)] H := hP
  have hD : va_D A [(o, .inr (3, [.ref a, .ref q])), (q, .inr (0, [.ref v, .int 0, .int 0, .int 0])), (v, eB dB n t)] := hD
  exact sq_iret () hx hb hr hlocks (rfl) (rfl) (hP.sub [0, 1, 2] rfl) (hD.sub [0, 1, 2] (by decide) rfl) hS dX1_whole_33
set_option maxHeartbeats 4000000 in
set_option maxRecDepth 100000 in
theorem mt_coder0 (sz : Nat)   : Met l yJ0_coder (wz_ yJ0_coder cJ0_coder 1 (some .byte)) ({ frames := 0, cells := 0, slots := 0, locals := 0 }) (sq_Pc D (sqT dB dH dN) ro ad b L xs [.ref (ad 8)] sz []) (va_Qi (fun (r : Int32) (u : Unit) => r = 0) (sq_B D (va_A [] sz) (fun (u : Unit) => [])) (va_A [] sz)) 0 0 (va_A [] sz) := by
  refine sq_met (fun A => va_Qi (fun (r : Int32) (u : Unit) => r = 0) (sq_B D A (fun (u : Unit) => [])) A) (by decide) (Nat.le_of_ble_eq_true rfl) ?_
  intro p e s m below meth c A hx hb hr hlocks hml hown hin htz hP hK hD hE hS hA ls hl
  have hts : ∀ w ∈ lw_all, w.before _ s = true := fun w h => htz w (zq_in h)
  have hl : lv_has ls 1 [(0, .ref (ad 8))] := hl
  refine sq_gs (v := .int 1) 0 rfl hx hb hE hS hown (hts _ q58) (fun _ h9 => h9) dJ0_coder_0 ?_
  refine lv_if_eq (tgt := 13) hx hb dJ0_coder_3 (by decide) (fun hc => absurd hc (by decide)) (fun _ => ?_)
  refine lv_aload_n hx hb dJ0_coder_6 rfl (lv_at hl 0 rfl) ?_
  refine vk_getf hx hb hE.2.2.2.1.2.1 hS hown (hts _ q168) (fun _ h9 => h9) dJ0_coder_7 ?_
  refine lv_goto (tgt := 14) hx hb dJ0_coder_10 (by decide) ?_
  exact sq_iret () hx hb hr hlocks (rfl) (rfl) (hP.sub [] rfl) (hD.sub [] (by decide) rfl) hS dJ0_coder_14
set_option maxHeartbeats 4000000 in
set_option maxRecDepth 100000 in
theorem mt_length0 (sz : Nat)   : Met l yJ0_length (wz_ yJ0_length cJ0_length 1 (some .int)) ({ frames := 1, cells := 0, slots := 0, locals := 20 }) (sq_Pc D (sqT dB dH dN) ro ad b L xs [.ref (ad 8)] sz []) (va_Qi (fun (r : Int32) (u : Unit) => r = nI 0) (sq_B D (va_A [] sz) (fun (u : Unit) => [])) (va_A [] sz)) 0 0 (va_A [] sz) := by
  refine sq_met (fun A => va_Qi (fun (r : Int32) (u : Unit) => r = nI 0) (sq_B D A (fun (u : Unit) => [])) A) (by decide) (Nat.le_of_ble_eq_true rfl) ?_
  intro p e s m below meth c A hx hb hr hlocks hml hown hin htz hP hK hD hE hS hA ls hl
  have hts : ∀ w ∈ lw_all, w.before _ s = true := fun w h => htz w (zq_in h)
  have hl : lv_has ls 1 [(0, .ref (ad 8))] := hl
  refine lv_aload_n hx hb dJ0_length_0 rfl (lv_at hl 0 rfl) ?_
  refine vk_getf hx hb hE.2.2.2.1.2.2.1 hS hown (hts _ q167) (fun _ h9 => h9) dJ0_length_1 ?_
  refine va_tlen (v := nI 0) hx hb hE.2.2.2.1.2.2.2 hS rfl dJ0_length_4 ?_
  refine lv_aload_n hx hb dJ0_length_5 rfl (lv_at hl 0 rfl) ?_
  refine sq_reti (wc := []) (wr := []) hP hD hS hA [] [] rfl rfl (by decide) (by decide) (va_runV (As := []) (rest := [.int (nI 0)]) ⟨hx, hb, hml, hown, htz⟩ (mt_coder0 l s.heap.size) (cwV 0 htz (z_V q54 q55 q56 q3 q57) rfl rfl rfl (by decide +kernel) ⟨(Nat.le_of_ble_eq_true rfl), (Nat.le_of_ble_eq_true rfl)⟩) (sq_preV (wc := []) (va_Orecv hE.2.2.2.1.1 hS) hP hD hK hE hS hA [] rfl (by decide)) rfl rfl hl.1 rfl (lv_room (Nat.le_of_ble_eq_true rfl)) dJ0_length_6 ⟨(Nat.le_of_ble_eq_true rfl), (Nat.le_of_ble_eq_true rfl)⟩) (fun r u H locs hw hP hD hS => ?_)
  rw [hw]
  have hP : va_P D sqCl [] H := hP
  have hD : va_D A [] := hD
  refine sq_sh0 hx hb dJ0_length_9 ?_
  exact sq_iret () hx hb hr hlocks (rfl) (rfl) (hP.sub [] rfl) (hD.sub [] (by decide) rfl) hS dJ0_length_10
set_option maxHeartbeats 4000000 in
set_option maxRecDepth 100000 in
theorem mt_whole0 (sz : Nat) (o a : Nat) (x : Int32)  : Met l yX1_whole (wz_ yX1_whole cX1_whole 2 (some .int)) ({ frames := 2, cells := 0, slots := 0, locals := 40 }) (sq_Pc D (sqT dB dH dN) ro ad b L xs [.ref o, .int x] sz [(o, .inr (3, [.ref a, .ref (ad 8)]))]) (va_Qi (fun (r : Int32) (u : Unit) => r = -1) (sq_B D (va_A [(o, .inr (3, [.ref a, .ref (ad 8)]))] sz) (fun (u : Unit) => [(o, .inr (3, [.ref a, .ref (ad 8)]))])) (va_A [(o, .inr (3, [.ref a, .ref (ad 8)]))] sz)) 0 0 (va_A [(o, .inr (3, [.ref a, .ref (ad 8)]))] sz) := by
  refine sq_met (fun A => va_Qi (fun (r : Int32) (u : Unit) => r = -1) (sq_B D A (fun (u : Unit) => [(o, .inr (3, [.ref a, .ref (ad 8)]))])) A) (by decide) (Nat.le_of_ble_eq_true rfl) ?_
  intro p e s m below meth c A hx hb hr hlocks hml hown hin htz hP hK hD hE hS hA ls hl
  have hts : ∀ w ∈ lw_all, w.before _ s = true := fun w h => htz w (zq_in h)
  have hl : lv_has ls 2 [(0, .ref o), (1, .int x)] := hl
  refine lv_aload_n hx hb dX1_whole_0 rfl (lv_at hl 0 rfl) ?_
  refine va_get (D := D) (ci := 3) (v := .ref (ad 8)) (C := RX1) (T := TX1) (N := 2) hx hb hts in_X1 hown hK hP 0 rfl rfl 1 (by decide) (hts _ q29) (fun _ h9 => h9) rfl dX1_whole_1 ?_
  refine sq_reti (wc := []) (wr := [(o, .inr (3, [.ref a, .ref (ad 8)]))]) hP hD hS hA [] [0] rfl rfl (by decide) (by decide) (va_runV (As := []) (rest := []) ⟨hx, hb, hml, hown, htz⟩ (mt_length0 l s.heap.size) (cwV 0 htz (z_V q50 q51 q52 q3 q53) rfl rfl rfl (by decide +kernel) ⟨(Nat.le_of_ble_eq_true rfl), (Nat.le_of_ble_eq_true rfl)⟩) (sq_preV (wc := []) (va_Orecv hE.2.2.2.1.1 hS) hP hD hK hE hS hA [] rfl (by decide)) rfl rfl hl.1 rfl (lv_room (Nat.le_of_ble_eq_true rfl)) dX1_whole_4 ⟨(Nat.le_of_ble_eq_true rfl), (Nat.le_of_ble_eq_true rfl)⟩) (fun r u H locs hw hP hD hS => ?_)
  rw [hw]
  have hP : va_P D sqCl [(o, .inr (3, [.ref a, .ref (ad 8)]))] H := hP
  have hD : va_D A [(o, .inr (3, [.ref a, .ref (ad 8)]))] := hD
  refine sq_if_ne (tgt := 14) hx hb dX1_whole_7 (by decide) (by decide) (fun hc => absurd rfl hc) (fun hc => ?_)
  refine lv_iconst (v := -1) hx hb dX1_whole_10 (by decide) ?_
  refine lv_goto (tgt := 33) hx hb dX1_whole_11 (by decide) ?_
  exact sq_iret () hx hb hr hlocks (rfl) (rfl) (hP.sub [0] rfl) (hD.sub [0] (by decide) rfl) hS dX1_whole_33
end SQO2
end
section
/-! the methods of the law -/
set_option maxRecDepth 100000
/-- cell k of the script -/
def cz (L : Nat) (xs : Nat → Int32) (k : Nat) : Int32 := if k < L then xs k else 0
theorem gb_key : ∀ x, x < 256 → x = (x % 2) ^^^ gx (x / 2) := by decide +kernel
theorem gb_lt : ∀ x, x < 256 → gx (x / 2) < 256 := by decide +kernel
/-- one round of the product -/
theorem gb_step {y x : Nat} (hy : y < 256) (hx : x < 256) : gm y x = (if x % 2 = 1 then y else 0) ^^^ gm (gx y) (x / 2) := by
  have e1 : gm (gx y) (x / 2) = gm y (gx (x / 2)) := by
    rw [gm_comm, gm_gx (x / 2) hy, gm_gx y (by omega), gm_comm y]
  have e2 : gm y (x % 2) = if x % 2 = 1 then y else 0 := by
    rcases (show x % 2 = 0 ∨ x % 2 = 1 by omega) with e | e
    · rw [e, gm_0r, if_neg (by decide)]
    · rw [e, gm_1r hy, if_pos rfl]
  rw [e1, ← e2, ← gm_xor y (by omega) (gb_lt x hx), ← gb_key x hx]
theorem gx_s {y : Nat} (h : y * 2 ≤ 255) : gx y = y * 2 := by
  unfold gx
  rw [if_neg (by omega)]
theorem gx_b {y : Nat} (h : 255 < y * 2) : gx y = (y * 2) ^^^ 301 := by
  unfold gx
  rw [if_pos h]
theorem gb_sum {z y x g : Nat} (hy : y < 256) (hx : x < 256) (h : z ^^^ gm y x = g) : (if x % 2 = 1 then z ^^^ y else z) ^^^ gm (gx y) (x / 2) = g := by
  rw [← h, gb_step hy hx]
  by_cases e : x % 2 = 1
  · rw [if_pos e, if_pos e, Nat.xor_assoc]
  · rw [if_neg e, if_neg e, Nat.zero_xor]
theorem len_R0 : sq_z0.2.length = 10 := by decide +kernel
theorem len_C0 : sq_z1.2.length = 10 := by decide +kernel
theorem gf_rt {i : Nat} (h : i + 1 < 255) : gm (gf_A i) 2 = gf_A (i + 1) := by
  have h1 := gf_AS i (by omega)
  rw [Nat.mod_eq_of_lt h] at h1
  rw [h1, show (2 : Nat) = gx 1 by decide, gm_gx _ (by decide), gm_1r (gf_At i)]
section SQO3
variable (l : Launch) {D : va_G} {dB dH dN : ClassId} {ro : Option Nat} {ad : Nat → Nat} {b L : Nat} {xs : Nat → Int32}
set_option maxHeartbeats 4000000 in
set_option maxRecDepth 100000 in
theorem mt_cell (sz : Nat) (k : Nat) (hL : L ≤ 96) (hk : k < 2 ^ 31) : Met l yX0_cell (wz_ yX0_cell cX0_cell 2 (some .int)) ({ frames := 0, cells := 0, slots := 0, locals := 0 }) (sq_Pc D (sqT dB dH dN) ro ad b L xs [.ref b, .int (nI k)] sz []) (va_Qi (fun (r : Int32) (u : Unit) => r = cz L xs k) (sq_B D (va_A [] sz) (fun (u : Unit) => [])) (va_A [] sz)) 0 0 (va_A [] sz) := by
  refine sq_met (fun A => va_Qi (fun (r : Int32) (u : Unit) => r = cz L xs k) (sq_B D A (fun (u : Unit) => [])) A) (by decide) (Nat.le_of_ble_eq_true rfl) ?_
  intro p e s m below meth c A hx hb hr hlocks hml hown hin htz hP hK hD hE hS hA ls hl
  have hts : ∀ w ∈ lw_all, w.before _ s = true := fun w h => htz w (zq_in h)
  have hl : lv_has ls 2 [(0, .ref b), (1, .int (nI k))] := hl
  refine lv_iload_n hx hb dX0_cell_0 rfl (lv_at hl 1 rfl) ?_
  refine lv_aload_n hx hb dX0_cell_1 rfl (lv_at hl 0 rfl) ?_
  refine sq_sl hx hb hE hS dX0_cell_2 ?_
  refine sq_ge (tgt := 12) hx hb dX0_cell_3 (by decide) (hk) (by omega) (fun hc1 => ?_) (fun hc1 => ?_)
  · skip
    refine lv_iconst (v := 0) hx hb dX0_cell_12 (by decide) ?_
    exact sq_iret () hx hb hr hlocks (rfl) ((if_neg (by omega)).symm) (hP.sub [] rfl) (hD.sub [] (by decide) rfl) hS dX0_cell_13
  · skip
    refine lv_aload_n hx hb dX0_cell_6 rfl (lv_at hl 0 rfl) ?_
    refine lv_iload_n hx hb dX0_cell_7 rfl (lv_at hl 1 rfl) ?_
    refine sq_sc hx hb hE hS hc1 (by omega) dX0_cell_8 ?_
    refine lv_goto (tgt := 13) hx hb dX0_cell_9 (by decide) ?_
    exact sq_iret () hx hb hr hlocks (rfl) ((if_pos hc1).symm) (hP.sub [] rfl) (hD.sub [] (by decide) rfl) hS dX0_cell_13
set_option maxHeartbeats 4000000 in
set_option maxRecDepth 100000 in
theorem mt_rest (sz : Nat) (x : Int32) (n : Nat) (h0 : 0 < n) (hn : n < 2 ^ 31) : Met l yX0_rest (wz_ yX0_rest cX0_rest 2 (some .int)) ({ frames := 0, cells := 0, slots := 0, locals := 0 }) (sq_Pc D (sqT dB dH dN) ro ad b L xs [.int x, .int (nI n)] sz []) (va_Qi (fun (r : Int32) (u : Unit) => r = nI (ps x % n)) (sq_B D (va_A [] sz) (fun (u : Unit) => [])) (va_A [] sz)) 0 0 (va_A [] sz) := by
  refine sq_met (fun A => va_Qi (fun (r : Int32) (u : Unit) => r = nI (ps x % n)) (sq_B D A (fun (u : Unit) => [])) A) (by decide) (Nat.le_of_ble_eq_true rfl) ?_
  intro p e s m below meth c A hx hb hr hlocks hml hown hin htz hP hK hD hE hS hA ls hl
  have hts : ∀ w ∈ lw_all, w.before _ s = true := fun w h => htz w (zq_in h)
  have hl : lv_has ls 2 [(0, .int x), (1, .int (nI n))] := hl
  refine lv_iload_n hx hb dX0_rest_0 rfl (lv_at hl 0 rfl) ?_
  refine lv_ldc hx hb hown (hts _ q104) dX0_rest_1 ?_
  refine lv_iand hx hb dX0_rest_3 (sq_top (ps_e x) ?_)
  refine lv_iload_n hx hb dX0_rest_4 rfl (lv_at hl 1 rfl) ?_
  refine sq_irem hx hb dX0_rest_5 (ps_lt x) (h0) (hn) ?_
  exact sq_iret () hx hb hr hlocks (rfl) (rfl) (hP.sub [] rfl) (hD.sub [] (by decide) rfl) hS dX0_rest_6
set_option maxHeartbeats 4000000 in
set_option maxRecDepth 100000 in
theorem mt_product (sz : Nat) (x y : Nat) (hxl : x < 256) (hyl : y < 256) : Met l yX0_product (wz_ yX0_product cX0_product 5 (some .int)) ({ frames := 0, cells := 0, slots := 0, locals := 0 }) (sq_Pc D (sqT dB dH dN) ro ad b L xs [.int (nI x), .int (nI y)] sz []) (va_Qi (fun (r : Int32) (u : Unit) => r = nI (gm x y)) (sq_B D (va_A [] sz) (fun (u : Unit) => [])) (va_A [] sz)) 0 0 (va_A [] sz) := by
  refine sq_met (fun A => va_Qi (fun (r : Int32) (u : Unit) => r = nI (gm x y)) (sq_B D A (fun (u : Unit) => [])) A) (by decide) (Nat.le_of_ble_eq_true rfl) ?_
  intro p e s m below meth c A hx hb hr hlocks hml hown hin htz hP hK hD hE hS hA ls hl
  have hts : ∀ w ∈ lw_all, w.before _ s = true := fun w h => htz w (zq_in h)
  have hl : lv_has ls 5 [(0, .int (nI x)), (1, .int (nI y))] := hl
  refine lv_iconst (v := nI 0) hx hb dX0_product_0 (by decide) ?_
  refine lv_istore_n (lv' := [(2, .int (nI 0)), (0, .int (nI x)), (1, .int (nI y))]) hx hb dX0_product_1 rfl hl (by decide) rfl (fun ls hl => ?_)
  refine lv_iload_n hx hb dX0_product_2 rfl (lv_at hl 1 rfl) ?_
  refine lv_istore_n (lv' := [(3, .int (nI x)), (2, .int (nI 0)), (0, .int (nI x)), (1, .int (nI y))]) hx hb dX0_product_3 rfl hl (by decide) rfl (fun ls hl => ?_)
  refine lv_iload_n hx hb dX0_product_4 rfl (lv_at hl 3 rfl) ?_
  refine lv_istore (lv' := [(4, .int (nI y)), (3, .int (nI x)), (2, .int (nI 0)), (0, .int (nI x)), (1, .int (nI y))]) hx hb dX0_product_5 hl (by decide) rfl (fun ls hl => ?_)
  refine sq_loop (fun (i : Nat) H locs ls => ∃ z u v : Nat, (z < 256 ∧ u < 256 ∧ v < 2 ^ (8 - i) ∧ z ^^^ gm u v = gm x y) ∧ va_P D sqCl [] H ∧ va_D A [] ∧ va_S A s.heap H locs ∧ lv_has ls 5 [(0, .int (nI x)), (1, .int (nI y)), (2, .int (nI z)), (3, .int (nI u)), (4, .int (nI v))]) 8 ?_ 0 _ _ _ (Nat.zero_le _) ⟨0, x, y, ⟨by decide, hxl, hyl, Nat.zero_xor _⟩, hP.sub [] rfl, hD.sub [] (by decide) rfl, hS, lv_sub hl [3, 4, 2, 1, 0] rfl⟩
  intro i H locs ls h_i hI ih
  obtain ⟨z, u, v, ⟨hz, hu, hv, hg⟩, hP, hD, hS, hl⟩ := hI
  have hv8 : v < 256 := Nat.lt_of_lt_of_le hv (Nat.pow_le_pow_right (by decide) (by omega : 8 - i ≤ 8))
  refine lv_iload hx hb dX0_product_7 (lv_at hl 4 rfl) ?_
  refine sq_if_eq (tgt := 50) hx hb dX0_product_9 (by decide) (by omega) (fun hc1 => ?_) (fun hc1 => ?_)
  · subst hc1
    refine lv_iload_n hx hb dX0_product_50 rfl (lv_at hl 2 rfl) ?_
    exact sq_iret () hx hb hr hlocks (rfl) (by rw [← hg, gm_0r, Nat.xor_zero]) (hP.sub [] rfl) (hD.sub [] (by decide) rfl) hS dX0_product_51
  · have hi8 : i < 8 := by
      rcases Nat.lt_or_ge i 8 with e0 | e0
      · exact e0
      · rw [show i = 8 by omega] at hv; simp at hv; exact absurd hv hc1
    have hv2 : v / 2 < 2 ^ (8 - (i + 1)) := by
      rw [show 8 - i = (8 - (i + 1)) + 1 by omega, Nat.pow_succ] at hv
      omega
    have hstep := gb_sum hu hv8 hg
    refine lv_iload hx hb dX0_product_12 (lv_at hl 4 rfl) ?_
    refine lv_iconst (v := nI 1) hx hb dX0_product_14 (by decide) ?_
    refine lv_iand hx hb dX0_product_15 (sq_top (y := nI (v % 2)) (by rw [nx_and, Nat.and_one_is_mod]) ?_)
    refine lv_iconst (v := nI 1) hx hb dX0_product_16 (by decide) ?_
    refine sq_ne (tgt := 24) hx hb dX0_product_17 (by decide) (by omega) (by decide) (fun hc2 => ?_) (fun hc2 => ?_)
    · rw [if_neg hc2] at hstep
      refine lv_iload_n hx hb dX0_product_24 rfl (lv_at hl 3 rfl) ?_
      refine lv_iconst (v := nI 1) hx hb dX0_product_25 (by decide) ?_
      refine lv_ishl hx hb dX0_product_26 (sq_top (y := nI (u * 2)) (pk_shlN (nI 1 &&& 31) 1 (by decide) (by omega)) ?_)
      refine lv_istore_n (lv' := [(3, .int (nI (u * 2))), (0, .int (nI x)), (1, .int (nI y)), (2, .int (nI z)), (4, .int (nI v))]) hx hb dX0_product_27 rfl hl (by decide) rfl (fun ls hl => ?_)
      refine lv_iload_n hx hb dX0_product_28 rfl (lv_at hl 0 rfl) ?_
      refine lv_sipush (v := nI 255) hx hb dX0_product_29 (by decide) ?_
      refine sq_le (tgt := 41) hx hb dX0_product_32 (by decide) (by omega) (by decide) (fun hc3 => ?_) (fun hc3 => ?_)
      · skip
        refine lv_iload hx hb dX0_product_41 (lv_at hl 4 rfl) ?_
        refine lv_iconst (v := nI 1) hx hb dX0_product_43 (by decide) ?_
        refine lv_ishr hx hb dX0_product_44 (sq_top (y := nI (v / 2)) (pk_shrN (k := 1) (by omega) (nI 1 &&& 31) (by decide)) ?_)
        refine lv_istore (lv' := [(4, .int (nI (v / 2))), (3, .int (nI (u * 2))), (0, .int (nI x)), (1, .int (nI y)), (2, .int (nI z))]) hx hb dX0_product_45 hl (by decide) rfl (fun ls hl => ?_)
        refine lv_goto (tgt := 7) hx hb dX0_product_47 (by decide) ?_
        exact ih _ _ _ hi8 ⟨z, (u * 2), v / 2, ⟨hz, by rw [← gx_s hc3]; exact gx_lt _ hu, hv2, by rw [← gx_s hc3]; exact hstep⟩, hP.sub [] rfl, hD.sub [] (by decide) rfl, hS, lv_sub hl [2, 3, 4, 1, 0] rfl⟩
      · skip
        refine lv_iload_n hx hb dX0_product_35 rfl (lv_at hl 0 rfl) ?_
        refine lv_sipush (v := nI 301) hx hb dX0_product_36 (by decide) ?_
        refine sq_ixor hx hb dX0_product_39 ?_
        refine lv_istore_n (lv' := [(3, .int (nI ((u * 2) ^^^ 301))), (0, .int (nI x)), (1, .int (nI y)), (2, .int (nI z)), (4, .int (nI v))]) hx hb dX0_product_40 rfl hl (by decide) rfl (fun ls hl => ?_)
        refine lv_iload hx hb dX0_product_41 (lv_at hl 4 rfl) ?_
        refine lv_iconst (v := nI 1) hx hb dX0_product_43 (by decide) ?_
        refine lv_ishr hx hb dX0_product_44 (sq_top (y := nI (v / 2)) (pk_shrN (k := 1) (by omega) (nI 1 &&& 31) (by decide)) ?_)
        refine lv_istore (lv' := [(4, .int (nI (v / 2))), (3, .int (nI ((u * 2) ^^^ 301))), (0, .int (nI x)), (1, .int (nI y)), (2, .int (nI z))]) hx hb dX0_product_45 hl (by decide) rfl (fun ls hl => ?_)
        refine lv_goto (tgt := 7) hx hb dX0_product_47 (by decide) ?_
        exact ih _ _ _ hi8 ⟨z, (u * 2 ^^^ 301), v / 2, ⟨hz, by rw [← gx_b hc3]; exact gx_lt _ hu, hv2, by rw [← gx_b hc3]; exact hstep⟩, hP.sub [] rfl, hD.sub [] (by decide) rfl, hS, lv_sub hl [2, 3, 4, 1, 0] rfl⟩
    · rw [if_pos hc2] at hstep
      refine lv_iload_n hx hb dX0_product_20 rfl (lv_at hl 2 rfl) ?_
      refine lv_iload_n hx hb dX0_product_21 rfl (lv_at hl 3 rfl) ?_
      refine sq_ixor hx hb dX0_product_22 ?_
      refine lv_istore_n (lv' := [(2, .int (nI (z ^^^ u))), (0, .int (nI x)), (1, .int (nI y)), (3, .int (nI u)), (4, .int (nI v))]) hx hb dX0_product_23 rfl hl (by decide) rfl (fun ls hl => ?_)
      refine lv_iload_n hx hb dX0_product_24 rfl (lv_at hl 3 rfl) ?_
      refine lv_iconst (v := nI 1) hx hb dX0_product_25 (by decide) ?_
      refine lv_ishl hx hb dX0_product_26 (sq_top (y := nI (u * 2)) (pk_shlN (nI 1 &&& 31) 1 (by decide) (by omega)) ?_)
      refine lv_istore_n (lv' := [(3, .int (nI (u * 2))), (2, .int (nI (z ^^^ u))), (0, .int (nI x)), (1, .int (nI y)), (4, .int (nI v))]) hx hb dX0_product_27 rfl hl (by decide) rfl (fun ls hl => ?_)
      refine lv_iload_n hx hb dX0_product_28 rfl (lv_at hl 0 rfl) ?_
      refine lv_sipush (v := nI 255) hx hb dX0_product_29 (by decide) ?_
      refine sq_le (tgt := 41) hx hb dX0_product_32 (by decide) (by omega) (by decide) (fun hc3 => ?_) (fun hc3 => ?_)
      · skip
        refine lv_iload hx hb dX0_product_41 (lv_at hl 4 rfl) ?_
        refine lv_iconst (v := nI 1) hx hb dX0_product_43 (by decide) ?_
        refine lv_ishr hx hb dX0_product_44 (sq_top (y := nI (v / 2)) (pk_shrN (k := 1) (by omega) (nI 1 &&& 31) (by decide)) ?_)
        refine lv_istore (lv' := [(4, .int (nI (v / 2))), (3, .int (nI (u * 2))), (2, .int (nI (z ^^^ u))), (0, .int (nI x)), (1, .int (nI y))]) hx hb dX0_product_45 hl (by decide) rfl (fun ls hl => ?_)
        refine lv_goto (tgt := 7) hx hb dX0_product_47 (by decide) ?_
        exact ih _ _ _ hi8 ⟨(z ^^^ u), (u * 2), v / 2, ⟨x8 hz hu, by rw [← gx_s hc3]; exact gx_lt _ hu, hv2, by rw [← gx_s hc3]; exact hstep⟩, hP.sub [] rfl, hD.sub [] (by decide) rfl, hS, lv_sub hl [3, 4, 2, 1, 0] rfl⟩
      · skip
        refine lv_iload_n hx hb dX0_product_35 rfl (lv_at hl 0 rfl) ?_
        refine lv_sipush (v := nI 301) hx hb dX0_product_36 (by decide) ?_
        refine sq_ixor hx hb dX0_product_39 ?_
        refine lv_istore_n (lv' := [(3, .int (nI ((u * 2) ^^^ 301))), (2, .int (nI (z ^^^ u))), (0, .int (nI x)), (1, .int (nI y)), (4, .int (nI v))]) hx hb dX0_product_40 rfl hl (by decide) rfl (fun ls hl => ?_)
        refine lv_iload hx hb dX0_product_41 (lv_at hl 4 rfl) ?_
        refine lv_iconst (v := nI 1) hx hb dX0_product_43 (by decide) ?_
        refine lv_ishr hx hb dX0_product_44 (sq_top (y := nI (v / 2)) (pk_shrN (k := 1) (by omega) (nI 1 &&& 31) (by decide)) ?_)
        refine lv_istore (lv' := [(4, .int (nI (v / 2))), (3, .int (nI ((u * 2) ^^^ 301))), (2, .int (nI (z ^^^ u))), (0, .int (nI x)), (1, .int (nI y))]) hx hb dX0_product_45 hl (by decide) rfl (fun ls hl => ?_)
        refine lv_goto (tgt := 7) hx hb dX0_product_47 (by decide) ?_
        exact ih _ _ _ hi8 ⟨(z ^^^ u), (u * 2 ^^^ 301), v / 2, ⟨x8 hz hu, by rw [← gx_b hc3]; exact gx_lt _ hu, hv2, by rw [← gx_b hc3]; exact hstep⟩, hP.sub [] rfl, hD.sub [] (by decide) rfl, hS, lv_sub hl [3, 4, 2, 1, 0] rfl⟩
set_option maxHeartbeats 4000000 in
set_option maxRecDepth 100000 in
theorem mt_stays (sz : Nat) (o a q v g n : Nat) (x : Int32) (t : Nat → Nat) (h0 : 0 < n) (hn : n < 2 ^ 31) (ht : ∀ j, t j < 256) : Met l yX0_stays (wz_ yX0_stays cX0_stays 4 (some .boolean)) ({ frames := 5, cells := 0, slots := 0, locals := 106 }) (sq_Pc D (sqT dB dH dN) ro ad b L xs [.ref o, .ref g, .int x] sz [(o, .inr (3, [.ref a, .ref q])), (q, .inr (0, [.ref v, .int 0, .int 0, .int 0])), (v, eB dB n t), (g, eN dN n t)]) (va_Qi (fun (r : Int32) (u : Unit) => r = nI 1) (sq_B D (va_A [(o, .inr (3, [.ref a, .ref q])), (q, .inr (0, [.ref v, .int 0, .int 0, .int 0])), (v, eB dB n t), (g, eN dN n t)] sz) (fun (u : Unit) => [(o, .inr (3, [.ref a, .ref q])), (q, .inr (0, [.ref v, .int 0, .int 0, .int 0])), (v, eB dB n t), (g, eN dN n t)])) (va_A [(o, .inr (3, [.ref a, .ref q])), (q, .inr (0, [.ref v, .int 0, .int 0, .int 0])), (v, eB dB n t), (g, eN dN n t)] sz)) 0 0 (va_A [(o, .inr (3, [.ref a, .ref q])), (q, .inr (0, [.ref v, .int 0, .int 0, .int 0])), (v, eB dB n t), (g, eN dN n t)] sz) := by
  refine sq_met (fun A => va_Qi (fun (r : Int32) (u : Unit) => r = nI 1) (sq_B D A (fun (u : Unit) => [(o, .inr (3, [.ref a, .ref q])), (q, .inr (0, [.ref v, .int 0, .int 0, .int 0])), (v, eB dB n t), (g, eN dN n t)])) A) (by decide) (Nat.le_of_ble_eq_true rfl) ?_
  intro p e s m below meth c A hx hb hr hlocks hml hown hin htz hP hK hD hE hS hA ls hl
  have hts : ∀ w ∈ lw_all, w.before _ s = true := fun w h => htz w (zq_in h)
  have hl : lv_has ls 4 [(0, .ref o), (1, .ref g), (2, .int x)] := hl
  refine lv_iconst (v := nI 0) hx hb dX0_stays_0 (by decide) ?_
  refine lv_istore_n (lv' := [(3, .int (nI 0)), (0, .ref o), (1, .ref g), (2, .int x)]) hx hb dX0_stays_1 rfl hl (by decide) rfl (fun ls hl => ?_)
  refine sq_loop (fun (i : Nat) H locs ls => va_P D sqCl [(o, .inr (3, [.ref a, .ref q])), (q, .inr (0, [.ref v, .int 0, .int 0, .int 0])), (v, eB dB n t), (g, eN dN n t)] H ∧ va_D A [(o, .inr (3, [.ref a, .ref q])), (q, .inr (0, [.ref v, .int 0, .int 0, .int 0])), (v, eB dB n t), (g, eN dN n t)] ∧ va_S A s.heap H locs ∧ lv_has ls 4 [(0, .ref o), (1, .ref g), (2, .int x), (3, .int (nI i))]) n ?_ 0 _ _ _ (Nat.zero_le _) ⟨hP.sub [0, 1, 2, 3] rfl, hD.sub [0, 1, 2, 3] (by decide) rfl, hS, lv_sub hl [1, 2, 3, 0] rfl⟩
  intro i H locs ls h_i hI ih
  obtain ⟨hP, hD, hS, hl⟩ := hI
  refine lv_iload_n hx hb dX0_stays_2 rfl (lv_at hl 3 rfl) ?_
  refine lv_aload_n hx hb dX0_stays_3 rfl (lv_at hl 1 rfl) ?_
  refine va_alen (v := nI n) hx hb hK hP 3 2 rfl rfl rfl dX0_stays_4 ?_
  refine sq_ge (tgt := 27) hx hb dX0_stays_5 (by decide) (by omega) (by omega) (fun hc1 => ?_) (fun hc1 => ?_)
  rotate_left
  · have hpi : ps (nI i) = i := by
      unfold ps
      rw [pk_tn (by omega), Nat.mod_eq_of_lt (by omega)]
    have hti := ht i
    refine lv_aload_n hx hb dX0_stays_8 rfl (lv_at hl 0 rfl) ?_
    refine lv_iload_n hx hb dX0_stays_9 rfl (lv_at hl 3 rfl) ?_
    refine sq_reti (wc := [(o, .inr (3, [.ref a, .ref q])), (q, .inr (0, [.ref v, .int 0, .int 0, .int 0])), (v, eB dB n t)]) (wr := [(g, eN dN n t)]) hP hD hS hA [0, 1, 2] [3] rfl rfl (by decide) (by decide) (va_runV (As := [.int (nI i)]) (rest := []) ⟨hx, hb, hml, hown, htz⟩ (mt_whole l H.size o a q v n (nI i) t h0 hn ht) (cwV 1 htz (z_V q46 q47 q48 q2 q49) rfl rfl rfl (by decide +kernel) ⟨(Nat.le_of_ble_eq_true rfl), (Nat.le_of_ble_eq_true rfl)⟩) (sq_preV (wc := [(o, .inr (3, [.ref a, .ref q])), (q, .inr (0, [.ref v, .int 0, .int 0, .int 0])), (v, eB dB n t)]) (va_recv hK hP (ci := 3) (q0 := 0) rfl rfl) hP hD hK hE hS hA [0, 1, 2] rfl (by decide)) rfl rfl hl.1 rfl (lv_room (Nat.le_of_ble_eq_true rfl)) dX0_stays_10 ⟨(Nat.le_of_ble_eq_true rfl), (Nat.le_of_ble_eq_true rfl)⟩) (fun r u H locs hw hP hD hS => ?_)
    rw [hpi, Nat.mod_eq_of_lt hc1] at hw
    rw [hw]
    have hP : va_P D sqCl [(g, eN dN n t), (o, .inr (3, [.ref a, .ref q])), (q, .inr (0, [.ref v, .int 0, .int 0, .int 0])), (v, eB dB n t)] H := hP
    have hD : va_D A [(g, eN dN n t), (o, .inr (3, [.ref a, .ref q])), (q, .inr (0, [.ref v, .int 0, .int 0, .int 0])), (v, eB dB n t)] := hD
    refine lv_aload_n hx hb dX0_stays_13 rfl (lv_at hl 1 rfl) ?_
    refine lv_iload_n hx hb dX0_stays_14 rfl (lv_at hl 3 rfl) ?_
    refine sq_iald hx hb hK hP 0 rfl (hc1) (hn) dX0_stays_15 ?_
    refine sq_eq (tgt := 21) hx hb dX0_stays_16 (by decide) (by omega) (by omega) (fun hc => ?_) (fun hc => by exfalso; omega)
    refine lv_iinc (v := nI (i + 1)) (lv' := [(3, .int (nI (i + 1))), (0, .ref o), (1, .ref g), (2, .int x)]) hx hb dX0_stays_21 hl (k := 3) rfl (nI_1 i) (by decide) rfl (fun ls hl => ?_)
    refine lv_goto (tgt := 2) hx hb dX0_stays_24 (by decide) ?_
    exact ih _ _ _ (hc1) ⟨hP.sub [1, 2, 3, 0] rfl, hD.sub [1, 2, 3, 0] (by decide) rfl, hS, lv_sub hl [1, 2, 3, 0] rfl⟩
  have hti := ht (ps x % n)
  refine lv_aload_n hx hb dX0_stays_27 rfl (lv_at hl 0 rfl) ?_
  refine lv_iload_n hx hb dX0_stays_28 rfl (lv_at hl 2 rfl) ?_
  refine sq_reti (wc := [(o, .inr (3, [.ref a, .ref q])), (q, .inr (0, [.ref v, .int 0, .int 0, .int 0])), (v, eB dB n t)]) (wr := [(g, eN dN n t)]) hP hD hS hA [0, 1, 2] [3] rfl rfl (by decide) (by decide) (va_runV (As := [.int x]) (rest := []) ⟨hx, hb, hml, hown, htz⟩ (mt_whole l H.size o a q v n x t h0 hn ht) (cwV 1 htz (z_V q46 q47 q48 q2 q49) rfl rfl rfl (by decide +kernel) ⟨(Nat.le_of_ble_eq_true rfl), (Nat.le_of_ble_eq_true rfl)⟩) (sq_preV (wc := [(o, .inr (3, [.ref a, .ref q])), (q, .inr (0, [.ref v, .int 0, .int 0, .int 0])), (v, eB dB n t)]) (va_recv hK hP (ci := 3) (q0 := 0) rfl rfl) hP hD hK hE hS hA [0, 1, 2] rfl (by decide)) rfl rfl hl.1 rfl (lv_room (Nat.le_of_ble_eq_true rfl)) dX0_stays_29 ⟨(Nat.le_of_ble_eq_true rfl), (Nat.le_of_ble_eq_true rfl)⟩) (fun r u H locs hw hP hD hS => ?_)
  rw [hw]
  have hP : va_P D sqCl [(g, eN dN n t), (o, .inr (3, [.ref a, .ref q])), (q, .inr (0, [.ref v, .int 0, .int 0, .int 0])), (v, eB dB n t)] H := hP
  have hD : va_D A [(g, eN dN n t), (o, .inr (3, [.ref a, .ref q])), (q, .inr (0, [.ref v, .int 0, .int 0, .int 0])), (v, eB dB n t)] := hD
  refine lv_aload_n hx hb dX0_stays_32 rfl (lv_at hl 1 rfl) ?_
  refine lv_iload_n hx hb dX0_stays_33 rfl (lv_at hl 2 rfl) ?_
  refine lv_aload_n hx hb dX0_stays_34 rfl (lv_at hl 1 rfl) ?_
  refine va_alen (v := nI n) hx hb hK hP 0 2 rfl rfl rfl dX0_stays_35 ?_
  refine sq_reti (wc := []) (wr := [(g, eN dN n t), (o, .inr (3, [.ref a, .ref q])), (q, .inr (0, [.ref v, .int 0, .int 0, .int 0])), (v, eB dB n t)]) hP hD hS hA [] [0, 1, 2, 3] rfl rfl (by decide) (by decide) (va_runS (As := [.int x, .int (nI n)]) (rest := [.ref g, .int (nI (t (ps x % n)))]) ⟨hx, hb, hml, hown, htz⟩ (mt_rest l H.size x n h0 hn) (va_cwS 2 htz (z_S q101 q102 q1 q103) rfl rfl rfl (by decide +kernel) ⟨(Nat.le_of_ble_eq_true rfl), (Nat.le_of_ble_eq_true rfl)⟩) (sq_preS (wc := []) hP hD hK hE hS hA [] rfl (by decide)) rfl rfl hl.1 rfl (lv_room (Nat.le_of_ble_eq_true rfl)) dX0_stays_36 ⟨(Nat.le_of_ble_eq_true rfl), (Nat.le_of_ble_eq_true rfl)⟩) (fun r u H locs hw hP hD hS => ?_)
  rw [hw]
  have hP : va_P D sqCl [(g, eN dN n t), (o, .inr (3, [.ref a, .ref q])), (q, .inr (0, [.ref v, .int 0, .int 0, .int 0])), (v, eB dB n t)] H := hP
  have hD : va_D A [(g, eN dN n t), (o, .inr (3, [.ref a, .ref q])), (q, .inr (0, [.ref v, .int 0, .int 0, .int 0])), (v, eB dB n t)] := hD
  refine sq_iald hx hb hK hP 0 rfl (Nat.mod_lt _ h0) (hn) dX0_stays_39 ?_
  refine sq_ne (tgt := 47) hx hb dX0_stays_40 (by decide) (by omega) (by omega) (fun hc => absurd rfl hc) (fun hc => ?_)
  refine lv_iconst (v := nI 1) hx hb dX0_stays_43 (by decide) ?_
  refine lv_goto (tgt := 48) hx hb dX0_stays_44 (by decide) ?_
  exact sq_iret () hx hb hr hlocks (by decide) (rfl) (hP.sub [1, 2, 3, 0] rfl) (hD.sub [1, 2, 3, 0] (by decide) rfl) hS dX0_stays_48
set_option maxHeartbeats 4000000 in
set_option maxRecDepth 100000 in
theorem mt_written (sz : Nat) (o a q g : Nat) (x : Int32) (t : Nat → Nat) (ht : ∀ j, t j < 256) : Met l yX0_written (wz_ yX0_written cX0_written 10 (some (.array .int))) ({ frames := 8, cells := 12, slots := 586, locals := 196 }) (sq_Pc D (sqT dB dH dN) ro ad b L xs [.ref o, .ref g, .int x] sz [(o, .inr (3, [.ref a, .ref q])), (a, eN dH 62 t), (g, eN dN 62 t)]) (va_Qr (fun (u : Nat × Nat) => True) (sq_R D (va_A [(o, .inr (3, [.ref a, .ref q])), (a, eN dH 62 t), (g, eN dN 62 t)] sz) (fun (u : Nat × Nat) (ra : Nat) => [(o, .inr (3, [.ref a, .ref u.1])), (a, eN dH 62 t), (u.1, .inr (0, [.ref u.2, .int 0, .int 0, .int 0])), (u.2, eB dB (gn (ps x % 10)) (gw (ps x % 10) t)), (g, eN dN 62 t), (ra, eN dN (gn (ps x % 10)) (gw (ps x % 10) t))])) (va_A [(o, .inr (3, [.ref a, .ref q])), (a, eN dH 62 t), (g, eN dN 62 t)] sz)) 12 586 (va_A [(o, .inr (3, [.ref a, .ref q])), (a, eN dH 62 t), (g, eN dN 62 t)] sz) := by
  refine sq_met (fun A => va_Qr (fun (u : Nat × Nat) => True) (sq_R D A (fun (u : Nat × Nat) (ra : Nat) => [(o, .inr (3, [.ref a, .ref u.1])), (a, eN dH 62 t), (u.1, .inr (0, [.ref u.2, .int 0, .int 0, .int 0])), (u.2, eB dB (gn (ps x % 10)) (gw (ps x % 10) t)), (g, eN dN 62 t), (ra, eN dN (gn (ps x % 10)) (gw (ps x % 10) t))])) A) (by decide) (Nat.le_of_ble_eq_true rfl) ?_
  intro p e s m below meth c A hx hb hr hlocks hml hown hin htz hP hK hD hE hS hA ls hl
  have hts : ∀ w ∈ lw_all, w.before _ s = true := fun w h => htz w (zq_in h)
  have hl : lv_has ls 10 [(0, .ref o), (1, .ref g), (2, .int x)] := hl
  have hxx := ps_lt x
  obtain ⟨kd, hkd⟩ : ∃ z, z = ps x % 10 := ⟨_, rfl⟩
  have hk : kd < 10 := by omega
  rw [← hkd]
  have hkk := gf_kind kd hk
  have hgn := gn_le hk
  have hgd : gf_R kd + gf_C kd = gn kd := rfl
  refine sq_gs (v := .ref (ad 0)) 2 rfl hx hb hE hS hown (hts _ q108) (fun _ h9 => h9) dX0_written_0 ?_
  refine lv_iload_n hx hb dX0_written_3 rfl (lv_at hl 2 rfl) ?_
  refine lv_bipush (v := nI 10) hx hb dX0_written_4 (by decide) ?_
  refine sq_reti (wc := []) (wr := [(o, .inr (3, [.ref a, .ref q])), (a, eN dH 62 t), (g, eN dN 62 t)]) hP hD hS hA [] [0, 1, 2] rfl rfl (by decide) (by decide) (va_runS (As := [.int x, .int (nI 10)]) (rest := [.ref (ad 0)]) ⟨hx, hb, hml, hown, htz⟩ (mt_rest l s.heap.size x 10 (by decide) (by decide)) (va_cwS 2 htz (z_S q101 q102 q1 q103) rfl rfl rfl (by decide +kernel) ⟨(Nat.le_of_ble_eq_true rfl), (Nat.le_of_ble_eq_true rfl)⟩) (sq_preS (wc := []) hP hD hK hE hS hA [] rfl (by decide)) rfl rfl hl.1 rfl (lv_room (Nat.le_of_ble_eq_true rfl)) dX0_written_6 ⟨(Nat.le_of_ble_eq_true rfl), (Nat.le_of_ble_eq_true rfl)⟩) (fun r u H locs hw hP hD hS => ?_)
  rw [← hkd] at hw
  rw [hw]
  have hP : va_P D sqCl [(o, .inr (3, [.ref a, .ref q])), (a, eN dH 62 t), (g, eN dN 62 t)] H := hP
  have hD : va_D A [(o, .inr (3, [.ref a, .ref q])), (a, eN dH 62 t), (g, eN dN 62 t)] := hD
  refine sq_ti (z := sq_z0) hx hb hE hS (List.mem_of_getElem? (i := 0) rfl) (by rw [len_R0]; exact hk) (by rw [len_R0]; decide) dX0_written_9 ?_
  refine sq_top (y := nI (gf_R kd)) (rfl) ?_
  refine lv_istore_n (lv' := [(3, .int (nI (gf_R kd))), (0, .ref o), (1, .ref g), (2, .int x)]) hx hb dX0_written_10 rfl hl (by decide) rfl (fun ls hl => ?_)
  refine sq_gs (v := .ref (ad 1)) 3 rfl hx hb hE hS hown (hts _ q110) (fun _ h9 => h9) dX0_written_11 ?_
  refine lv_iload_n hx hb dX0_written_14 rfl (lv_at hl 3 rfl) ?_
  refine lv_bipush (v := nI 10) hx hb dX0_written_15 (by decide) ?_
  refine sq_reti (wc := []) (wr := [(o, .inr (3, [.ref a, .ref q])), (a, eN dH 62 t), (g, eN dN 62 t)]) hP hD hS hA [] [0, 1, 2] rfl rfl (by decide) (by decide) (va_runS (As := [.int x, .int (nI 10)]) (rest := [.ref (ad 1)]) ⟨hx, hb, hml, hown, htz⟩ (mt_rest l H.size x 10 (by decide) (by decide)) (va_cwS 2 htz (z_S q101 q102 q1 q103) rfl rfl rfl (by decide +kernel) ⟨(Nat.le_of_ble_eq_true rfl), (Nat.le_of_ble_eq_true rfl)⟩) (sq_preS (wc := []) hP hD hK hE hS hA [] rfl (by decide)) rfl rfl hl.1 rfl (lv_room (Nat.le_of_ble_eq_true rfl)) dX0_written_17 ⟨(Nat.le_of_ble_eq_true rfl), (Nat.le_of_ble_eq_true rfl)⟩) (fun r u H locs hw hP hD hS => ?_)
  rw [← hkd] at hw
  rw [hw]
  have hP : va_P D sqCl [(o, .inr (3, [.ref a, .ref q])), (a, eN dH 62 t), (g, eN dN 62 t)] H := hP
  have hD : va_D A [(o, .inr (3, [.ref a, .ref q])), (a, eN dH 62 t), (g, eN dN 62 t)] := hD
  refine sq_ti (z := sq_z1) hx hb hE hS (List.mem_of_getElem? (i := 1) rfl) (by rw [len_C0]; exact hk) (by rw [len_C0]; decide) dX0_written_20 ?_
  refine sq_top (y := nI (gf_C kd)) (rfl) ?_
  refine lv_istore (lv' := [(4, .int (nI (gf_C kd))), (3, .int (nI (gf_R kd))), (0, .ref o), (1, .ref g), (2, .int x)]) hx hb dX0_written_21 hl (by decide) rfl (fun ls hl => ?_)
  refine lv_aload_n hx hb dX0_written_23 rfl (lv_at hl 2 rfl) ?_
  refine lv_iload_n hx hb dX0_written_24 rfl (lv_at hl 4 rfl) ?_
  refine sq_reti (wc := [(o, .inr (3, [.ref a, .ref q])), (a, eN dH 62 t)]) (wr := [(g, eN dN 62 t)]) hP hD hS hA [0, 1] [2] rfl rfl (by decide) (by decide) (va_runV (As := [.int x]) (rest := []) ⟨hx, hb, hml, hown, htz⟩ (mt_write l H.size o a q x t ht) (cwV 1 htz (z_V q112 q113 q114 q2 q115) rfl rfl rfl (by decide +kernel) ⟨(Nat.le_of_ble_eq_true rfl), (Nat.le_of_ble_eq_true rfl)⟩) (sq_preV (wc := [(o, .inr (3, [.ref a, .ref q])), (a, eN dH 62 t)]) (va_recv hK hP (ci := 3) (q0 := 0) rfl rfl) hP hD hK hE hS hA [0, 1] rfl (by decide)) rfl rfl hl.1 rfl (lv_room (Nat.le_of_ble_eq_true rfl)) dX0_written_25 ⟨(Nat.le_of_ble_eq_true rfl), (Nat.le_of_ble_eq_true rfl)⟩) (fun r u H locs hw hP hD hS => ?_)
  refine W.widen (k := 11) (n := 488) (Nat.le_refl _) (Nat.le_refl _) ?_
  rw [← hkd] at hw hP hD
  obtain ⟨qq, vv⟩ := u
  rw [hw]
  have hP : va_P D sqCl [(g, eN dN 62 t), (o, .inr (3, [.ref a, .ref qq])), (a, eN dH 62 t), (qq, .inr (0, [.ref vv, .int 0, .int 0, .int 0])), (vv, eB dB (gn kd) (gw kd t))] H := hP
  have hD : va_D A [(g, eN dN 62 t), (o, .inr (3, [.ref a, .ref qq])), (a, eN dH 62 t), (qq, .inr (0, [.ref vv, .int 0, .int 0, .int 0])), (vv, eB dB (gn kd) (gw kd t))] := hD
  refine lv_iload_n hx hb dX0_written_28 rfl (lv_at hl 1 rfl) ?_
  refine lv_iload hx hb dX0_written_29 (lv_at hl 0 rfl) ?_
  refine sq_iadd hx hb dX0_written_31 ?_
  refine sq_top (y := nI (gn kd)) (rfl) ?_
  refine sq_eq (tgt := 37) hx hb dX0_written_32 (by decide) (by omega) (by omega) (fun hc => ?_) (fun hc => by exfalso; omega)
  refine lv_iload_n hx hb dX0_written_37 rfl (lv_at hl 1 rfl) ?_
  refine lv_iload hx hb dX0_written_38 (lv_at hl 0 rfl) ?_
  refine sq_iadd hx hb dX0_written_40 ?_
  refine sq_top (y := nI (gn kd)) (rfl) ?_
  refine sq_newN hx hb (hts _ q553) hK hP hD hS hA 12 586 (by omega) (by omega) (by omega) (Nat.le_of_ble_eq_true rfl) (Nat.le_of_ble_eq_true rfl) dX0_written_41 (fun d H hP hD hS => ?_)
  have hP : va_P D sqCl [(g, eN dN 62 t), (o, .inr (3, [.ref a, .ref qq])), (a, eN dH 62 t), (qq, .inr (0, [.ref vv, .int 0, .int 0, .int 0])), (vv, eB dB (gn kd) (gw kd t)), (d, eN dN (gn kd) (fun _ => 0))] H := hP
  have hD : va_D A [(g, eN dN 62 t), (o, .inr (3, [.ref a, .ref qq])), (a, eN dH 62 t), (qq, .inr (0, [.ref vv, .int 0, .int 0, .int 0])), (vv, eB dB (gn kd) (gw kd t)), (d, eN dN (gn kd) (fun _ => 0))] := hD
  refine lv_astore (lv' := [(5, .ref d), (4, .int (nI (gf_C kd))), (3, .int (nI (gf_R kd))), (0, .ref o), (1, .ref g), (2, .int x)]) hx hb dX0_written_43 hl (by decide) rfl (fun ls hl => ?_)
  refine lv_iconst (v := nI 0) hx hb dX0_written_45 (by decide) ?_
  refine lv_istore (lv' := [(6, .int (nI 0)), (5, .ref d), (4, .int (nI (gf_C kd))), (3, .int (nI (gf_R kd))), (0, .ref o), (1, .ref g), (2, .int x)]) hx hb dX0_written_46 hl (by decide) rfl (fun ls hl => ?_)
  have hW := gw_lt (k := kd) ht
  obtain ⟨hP, hD⟩ := sq_cg (g := fun j => nI ((zc 0 (gw kd t)) j)) hP hD 5 rfl (fun j hj => congrArg nI (zc_0 _ j))
  have hP : va_P D sqCl [(g, eN dN 62 t), (o, .inr (3, [.ref a, .ref qq])), (a, eN dH 62 t), (qq, .inr (0, [.ref vv, .int 0, .int 0, .int 0])), (vv, eB dB (gn kd) (gw kd t)), (d, eN dN (gn kd) (zc 0 (gw kd t)))] H := hP
  have hD : va_D A [(g, eN dN 62 t), (o, .inr (3, [.ref a, .ref qq])), (a, eN dH 62 t), (qq, .inr (0, [.ref vv, .int 0, .int 0, .int 0])), (vv, eB dB (gn kd) (gw kd t)), (d, eN dN (gn kd) (zc 0 (gw kd t)))] := hD
  refine sq_loop (fun (i : Nat) H locs ls => va_P D sqCl [(o, .inr (3, [.ref a, .ref qq])), (a, eN dH 62 t), (qq, .inr (0, [.ref vv, .int 0, .int 0, .int 0])), (vv, eB dB (gn kd) (gw kd t)), (g, eN dN 62 t), (d, eN dN (gn kd) (zc i (gw kd t)))] H ∧ va_D A [(o, .inr (3, [.ref a, .ref qq])), (a, eN dH 62 t), (qq, .inr (0, [.ref vv, .int 0, .int 0, .int 0])), (vv, eB dB (gn kd) (gw kd t)), (g, eN dN 62 t), (d, eN dN (gn kd) (zc i (gw kd t)))] ∧ va_S A s.heap H locs ∧ lv_has ls 10 [(0, .ref o), (1, .ref g), (2, .int x), (3, .int (nI (gf_R kd))), (4, .int (nI (gf_C kd))), (5, .ref d), (6, .int (nI i))]) (gn kd) ?_ 0 _ _ _ (Nat.zero_le _) ⟨hP.sub [1, 2, 3, 4, 0, 5] rfl, hD.sub [1, 2, 3, 4, 0, 5] (by decide) rfl, hS, lv_sub hl [4, 5, 6, 3, 2, 1, 0] rfl⟩
  intro i H locs ls h_i hI ih
  obtain ⟨hP, hD, hS, hl⟩ := hI
  refine lv_iload hx hb dX0_written_48 (lv_at hl 6 rfl) ?_
  refine lv_aload hx hb dX0_written_50 (lv_at hl 5 rfl) ?_
  refine va_alen (v := nI (gn kd)) hx hb hK hP 5 2 rfl rfl rfl dX0_written_52 ?_
  refine sq_ge (tgt := 112) hx hb dX0_written_53 (by decide) (by omega) (by omega) (fun hc1 => ?_) (fun hc1 => ?_)
  rotate_left
  · have hpi : ps (nI i) = i := by
      unfold ps
      rw [pk_tn (by omega), Nat.mod_eq_of_lt (by omega)]
    have hti := hW i
    refine lv_aload hx hb dX0_written_56 (lv_at hl 5 rfl) ?_
    refine lv_iload hx hb dX0_written_58 (lv_at hl 6 rfl) ?_
    refine lv_aload_n hx hb dX0_written_60 rfl (lv_at hl 0 rfl) ?_
    refine lv_iload hx hb dX0_written_61 (lv_at hl 6 rfl) ?_
    refine sq_reti (wc := [(o, .inr (3, [.ref a, .ref qq])), (qq, .inr (0, [.ref vv, .int 0, .int 0, .int 0])), (vv, eB dB (gn kd) (gw kd t))]) (wr := [(a, eN dH 62 t), (g, eN dN 62 t), (d, eN dN (gn kd) (zc i (gw kd t)))]) hP hD hS hA [0, 2, 3] [1, 4, 5] rfl rfl (by decide) (by decide) (va_runV (As := [.int (nI i)]) (rest := [.int (nI i), .ref d]) ⟨hx, hb, hml, hown, htz⟩ (mt_whole l H.size o a qq vv (gn kd) (nI i) (gw kd t) (by omega) (by omega) hW) (cwV 1 htz (z_V q46 q47 q48 q2 q49) rfl rfl rfl (by decide +kernel) ⟨(Nat.le_of_ble_eq_true rfl), (Nat.le_of_ble_eq_true rfl)⟩) (sq_preV (wc := [(o, .inr (3, [.ref a, .ref qq])), (qq, .inr (0, [.ref vv, .int 0, .int 0, .int 0])), (vv, eB dB (gn kd) (gw kd t))]) (va_recv hK hP (ci := 3) (q0 := 0) rfl rfl) hP hD hK hE hS hA [0, 2, 3] rfl (by decide)) rfl rfl hl.1 rfl (lv_room (Nat.le_of_ble_eq_true rfl)) dX0_written_63 ⟨(Nat.le_of_ble_eq_true rfl), (Nat.le_of_ble_eq_true rfl)⟩) (fun r u H locs hw hP hD hS => ?_)
    rw [hpi, Nat.mod_eq_of_lt hc1] at hw
    rw [hw]
    have hP : va_P D sqCl [(a, eN dH 62 t), (g, eN dN 62 t), (d, eN dN (gn kd) (zc i (gw kd t))), (o, .inr (3, [.ref a, .ref qq])), (qq, .inr (0, [.ref vv, .int 0, .int 0, .int 0])), (vv, eB dB (gn kd) (gw kd t))] H := hP
    have hD : va_D A [(a, eN dH 62 t), (g, eN dN 62 t), (d, eN dN (gn kd) (zc i (gw kd t))), (o, .inr (3, [.ref a, .ref qq])), (qq, .inr (0, [.ref vv, .int 0, .int 0, .int 0])), (vv, eB dB (gn kd) (gw kd t))] := hD
    refine sq_iast hx hb hK hP hD hS 2 rfl (hc1) (by omega) dX0_written_66 (fun H locs hP hD hS => ?_)
    have hP : va_P D sqCl [(a, eN dH 62 t), (g, eN dN 62 t), (d, eN dN (gn kd) (va_up (zc i (gw kd t)) i (gw kd t i))), (o, .inr (3, [.ref a, .ref qq])), (qq, .inr (0, [.ref vv, .int 0, .int 0, .int 0])), (vv, eB dB (gn kd) (gw kd t))] H := hP
    have hD : va_D A [(a, eN dH 62 t), (g, eN dN 62 t), (d, eN dN (gn kd) (va_up (zc i (gw kd t)) i (gw kd t i))), (o, .inr (3, [.ref a, .ref qq])), (qq, .inr (0, [.ref vv, .int 0, .int 0, .int 0])), (vv, eB dB (gn kd) (gw kd t))] := hD
    obtain ⟨hP, hD⟩ := sq_cg (g := fun j => nI ((zc (i + 1) (gw kd t)) j)) hP hD 2 rfl (fun j hj => congrArg nI (zc_up i _ j))
    have hP : va_P D sqCl [(a, eN dH 62 t), (g, eN dN 62 t), (d, eN dN (gn kd) (zc (i + 1) (gw kd t))), (o, .inr (3, [.ref a, .ref qq])), (qq, .inr (0, [.ref vv, .int 0, .int 0, .int 0])), (vv, eB dB (gn kd) (gw kd t))] H := hP
    have hD : va_D A [(a, eN dH 62 t), (g, eN dN 62 t), (d, eN dN (gn kd) (zc (i + 1) (gw kd t))), (o, .inr (3, [.ref a, .ref qq])), (qq, .inr (0, [.ref vv, .int 0, .int 0, .int 0])), (vv, eB dB (gn kd) (gw kd t))] := hD
    have hzi : zc (i + 1) (gw kd t) i = gw kd t i := if_pos (by omega)
    refine lv_aload hx hb dX0_written_67 (lv_at hl 5 rfl) ?_
    refine lv_iload hx hb dX0_written_69 (lv_at hl 6 rfl) ?_
    refine sq_iald hx hb hK hP 2 rfl (hc1) (by omega) dX0_written_71 ?_
    refine sq_top (y := nI (gw kd t i)) (by rw [hzi]) ?_
    refine sq_if_lt (tgt := 104) hx hb dX0_written_72 (by decide) (by omega) ?_
    refine lv_aload hx hb dX0_written_75 (lv_at hl 5 rfl) ?_
    refine lv_iload hx hb dX0_written_77 (lv_at hl 6 rfl) ?_
    refine sq_iald hx hb hK hP 2 rfl (hc1) (by omega) dX0_written_79 ?_
    refine sq_top (y := nI (gw kd t i)) (by rw [hzi]) ?_
    refine lv_sipush (v := nI 255) hx hb dX0_written_80 (by decide) ?_
    refine sq_gt (tgt := 104) hx hb dX0_written_83 (by decide) (by omega) (by decide) (fun hc => by exfalso; omega) (fun hc => ?_)
    refine lv_iload hx hb dX0_written_86 (lv_at hl 6 rfl) ?_
    refine lv_iload_n hx hb dX0_written_88 rfl (lv_at hl 3 rfl) ?_
    refine sq_ge (tgt := 106) hx hb dX0_written_89 (by decide) (by omega) (by omega) (fun hc2 => ?_) (fun hc2 => ?_)
    · skip
      refine lv_iinc (v := nI (i + 1)) (lv' := [(6, .int (nI (i + 1))), (0, .ref o), (1, .ref g), (2, .int x), (3, .int (nI (gf_R kd))), (4, .int (nI (gf_C kd))), (5, .ref d)]) hx hb dX0_written_106 hl (k := 6) rfl (nI_1 i) (by decide) rfl (fun ls hl => ?_)
      refine lv_goto (tgt := 48) hx hb dX0_written_109 (by decide) ?_
      exact ih _ _ _ (hc1) ⟨hP.sub [3, 0, 4, 5, 1, 2] rfl, hD.sub [3, 0, 4, 5, 1, 2] (by decide) rfl, hS, lv_sub hl [1, 2, 3, 4, 5, 6, 0] rfl⟩
    · have hin : gw kd t i = t i := gw_in hc2
      have htt := ht i
      refine lv_aload hx hb dX0_written_92 (lv_at hl 5 rfl) ?_
      refine lv_iload hx hb dX0_written_94 (lv_at hl 6 rfl) ?_
      refine sq_iald hx hb hK hP 2 rfl (hc1) (by omega) dX0_written_96 ?_
      refine sq_top (y := nI (gw kd t i)) (by rw [hzi]) ?_
      refine lv_aload_n hx hb dX0_written_97 rfl (lv_at hl 1 rfl) ?_
      refine lv_iload hx hb dX0_written_98 (lv_at hl 6 rfl) ?_
      refine sq_iald hx hb hK hP 1 rfl (by omega) (by omega) dX0_written_100 ?_
      refine sq_eq (tgt := 106) hx hb dX0_written_101 (by decide) (by omega) (by omega) (fun hc => ?_) (fun hc => by exfalso; omega)
      refine lv_iinc (v := nI (i + 1)) (lv' := [(6, .int (nI (i + 1))), (0, .ref o), (1, .ref g), (2, .int x), (3, .int (nI (gf_R kd))), (4, .int (nI (gf_C kd))), (5, .ref d)]) hx hb dX0_written_106 hl (k := 6) rfl (nI_1 i) (by decide) rfl (fun ls hl => ?_)
      refine lv_goto (tgt := 48) hx hb dX0_written_109 (by decide) ?_
      exact ih _ _ _ (hc1) ⟨hP.sub [3, 0, 4, 5, 1, 2] rfl, hD.sub [3, 0, 4, 5, 1, 2] (by decide) rfl, hS, lv_sub hl [1, 2, 3, 4, 5, 6, 0] rfl⟩
  obtain ⟨hP, hD⟩ := sq_cg (g := fun j => nI ((gw kd t) j)) hP hD 5 rfl (fun j hj => congrArg nI (zc_all hc1 j hj))
  have hP : va_P D sqCl [(o, .inr (3, [.ref a, .ref qq])), (a, eN dH 62 t), (qq, .inr (0, [.ref vv, .int 0, .int 0, .int 0])), (vv, eB dB (gn kd) (gw kd t)), (g, eN dN 62 t), (d, eN dN (gn kd) (gw kd t))] H := hP
  have hD : va_D A [(o, .inr (3, [.ref a, .ref qq])), (a, eN dH 62 t), (qq, .inr (0, [.ref vv, .int 0, .int 0, .int 0])), (vv, eB dB (gn kd) (gw kd t)), (g, eN dN 62 t), (d, eN dN (gn kd) (gw kd t))] := hD
  refine lv_iconst (v := nI 1) hx hb dX0_written_112 (by decide) ?_
  refine sq_top (y := nI (gf_A 0)) (congrArg nI gf_A0.symm) ?_
  refine lv_istore (lv' := [(6, .int (nI (gf_A 0))), (0, .ref o), (1, .ref g), (2, .int x), (3, .int (nI (gf_R kd))), (4, .int (nI (gf_C kd))), (5, .ref d)]) hx hb dX0_written_113 hl (by decide) rfl (fun ls hl => ?_)
  refine lv_iconst (v := nI 1) hx hb dX0_written_115 (by decide) ?_
  refine sq_top (y := nI (0 + 1)) (rfl) ?_
  refine lv_istore (lv' := [(7, .int (nI (0 + 1))), (6, .int (nI (gf_A 0))), (0, .ref o), (1, .ref g), (2, .int x), (3, .int (nI (gf_R kd))), (4, .int (nI (gf_C kd))), (5, .ref d)]) hx hb dX0_written_116 hl (by decide) rfl (fun ls hl => ?_)
  refine sq_loop (fun (z : Nat) H locs ls => va_P D sqCl [(o, .inr (3, [.ref a, .ref qq])), (a, eN dH 62 t), (qq, .inr (0, [.ref vv, .int 0, .int 0, .int 0])), (vv, eB dB (gn kd) (gw kd t)), (g, eN dN 62 t), (d, eN dN (gn kd) (gw kd t))] H ∧ va_D A [(o, .inr (3, [.ref a, .ref qq])), (a, eN dH 62 t), (qq, .inr (0, [.ref vv, .int 0, .int 0, .int 0])), (vv, eB dB (gn kd) (gw kd t)), (g, eN dN 62 t), (d, eN dN (gn kd) (gw kd t))] ∧ va_S A s.heap H locs ∧ lv_has ls 10 [(0, .ref o), (1, .ref g), (2, .int x), (3, .int (nI (gf_R kd))), (4, .int (nI (gf_C kd))), (5, .ref d), (6, .int (nI (gf_A z))), (7, .int (nI (z + 1)))]) (gf_C kd) ?_ 0 _ _ _ (Nat.zero_le _) ⟨hP.sub [0, 1, 2, 3, 4, 5] rfl, hD.sub [0, 1, 2, 3, 4, 5] (by decide) rfl, hS, lv_sub hl [2, 3, 4, 5, 6, 7, 1, 0] rfl⟩
  intro z H locs ls h_z hI ih2
  obtain ⟨hP, hD, hS, hl⟩ := hI
  refine lv_iload hx hb dX0_written_118 (lv_at hl 7 rfl) ?_
  refine lv_iload hx hb dX0_written_120 (lv_at hl 4 rfl) ?_
  refine sq_gt (tgt := 181) hx hb dX0_written_122 (by decide) (by omega) (by omega) (fun hc3 => ?_) (fun hc3 => ?_)
  rotate_left
  · skip
    have hrr := gf_At (z + 1)
    refine lv_iload hx hb dX0_written_125 (lv_at hl 6 rfl) ?_
    refine lv_iconst (v := nI 2) hx hb dX0_written_127 (by decide) ?_
    refine sq_reti (wc := []) (wr := [(o, .inr (3, [.ref a, .ref qq])), (a, eN dH 62 t), (qq, .inr (0, [.ref vv, .int 0, .int 0, .int 0])), (vv, eB dB (gn kd) (gw kd t)), (g, eN dN 62 t), (d, eN dN (gn kd) (gw kd t))]) hP hD hS hA [] [0, 1, 2, 3, 4, 5] rfl rfl (by decide) (by decide) (va_runS (As := [.int (nI (gf_A z)), .int (nI 2)]) (rest := []) ⟨hx, hb, hml, hown, htz⟩ (mt_product l H.size (gf_A z) 2 (gf_At z) (by decide)) (va_cwS 2 htz (z_S q550 q551 q1 q552) rfl rfl rfl (by decide +kernel) ⟨(Nat.le_of_ble_eq_true rfl), (Nat.le_of_ble_eq_true rfl)⟩) (sq_preS (wc := []) hP hD hK hE hS hA [] rfl (by decide)) rfl rfl hl.1 rfl (lv_room (Nat.le_of_ble_eq_true rfl)) dX0_written_128 ⟨(Nat.le_of_ble_eq_true rfl), (Nat.le_of_ble_eq_true rfl)⟩) (fun r u H locs hw hP hD hS => ?_)
    rw [gf_rt (by omega)] at hw
    rw [hw]
    have hP : va_P D sqCl [(o, .inr (3, [.ref a, .ref qq])), (a, eN dH 62 t), (qq, .inr (0, [.ref vv, .int 0, .int 0, .int 0])), (vv, eB dB (gn kd) (gw kd t)), (g, eN dN 62 t), (d, eN dN (gn kd) (gw kd t))] H := hP
    have hD : va_D A [(o, .inr (3, [.ref a, .ref qq])), (a, eN dH 62 t), (qq, .inr (0, [.ref vv, .int 0, .int 0, .int 0])), (vv, eB dB (gn kd) (gw kd t)), (g, eN dN 62 t), (d, eN dN (gn kd) (gw kd t))] := hD
    refine lv_istore (lv' := [(6, .int (nI (gf_A (z + 1)))), (0, .ref o), (1, .ref g), (2, .int x), (3, .int (nI (gf_R kd))), (4, .int (nI (gf_C kd))), (5, .ref d), (7, .int (nI (z + 1)))]) hx hb dX0_written_131 hl (by decide) rfl (fun ls hl => ?_)
    refine lv_iconst (v := nI 0) hx hb dX0_written_133 (by decide) ?_
    refine sq_top (y := nI (hz (gf_A (z + 1)) (gw kd t) 0)) (rfl) ?_
    refine lv_istore (lv' := [(8, .int (nI (hz (gf_A (z + 1)) (gw kd t) 0))), (6, .int (nI (gf_A (z + 1)))), (0, .ref o), (1, .ref g), (2, .int x), (3, .int (nI (gf_R kd))), (4, .int (nI (gf_C kd))), (5, .ref d), (7, .int (nI (z + 1)))]) hx hb dX0_written_134 hl (by decide) rfl (fun ls hl => ?_)
    refine lv_iconst (v := nI 0) hx hb dX0_written_136 (by decide) ?_
    refine lv_istore (lv' := [(9, .int (nI 0)), (8, .int (nI (hz (gf_A (z + 1)) (gw kd t) 0))), (6, .int (nI (gf_A (z + 1)))), (0, .ref o), (1, .ref g), (2, .int x), (3, .int (nI (gf_R kd))), (4, .int (nI (gf_C kd))), (5, .ref d), (7, .int (nI (z + 1)))]) hx hb dX0_written_137 hl (by decide) rfl (fun ls hl => ?_)
    refine sq_loop (fun (j : Nat) H locs ls => va_P D sqCl [(o, .inr (3, [.ref a, .ref qq])), (a, eN dH 62 t), (qq, .inr (0, [.ref vv, .int 0, .int 0, .int 0])), (vv, eB dB (gn kd) (gw kd t)), (g, eN dN 62 t), (d, eN dN (gn kd) (gw kd t))] H ∧ va_D A [(o, .inr (3, [.ref a, .ref qq])), (a, eN dH 62 t), (qq, .inr (0, [.ref vv, .int 0, .int 0, .int 0])), (vv, eB dB (gn kd) (gw kd t)), (g, eN dN 62 t), (d, eN dN (gn kd) (gw kd t))] ∧ va_S A s.heap H locs ∧ lv_has ls 10 [(0, .ref o), (1, .ref g), (2, .int x), (3, .int (nI (gf_R kd))), (4, .int (nI (gf_C kd))), (5, .ref d), (6, .int (nI (gf_A (z + 1)))), (7, .int (nI (z + 1))), (8, .int (nI (hz (gf_A (z + 1)) (gw kd t) j))), (9, .int (nI j))]) (gn kd) ?_ 0 _ _ _ (Nat.zero_le _) ⟨hP.sub [0, 1, 2, 3, 4, 5] rfl, hD.sub [0, 1, 2, 3, 4, 5] (by decide) rfl, hS, lv_sub hl [3, 4, 5, 6, 7, 8, 2, 9, 1, 0] rfl⟩
    intro j H locs ls h_j hI ih3
    obtain ⟨hP, hD, hS, hl⟩ := hI
    refine lv_iload hx hb dX0_written_139 (lv_at hl 9 rfl) ?_
    refine lv_aload hx hb dX0_written_141 (lv_at hl 5 rfl) ?_
    refine va_alen (v := nI (gn kd)) hx hb hK hP 5 2 rfl rfl rfl dX0_written_143 ?_
    refine sq_ge (tgt := 168) hx hb dX0_written_144 (by decide) (by omega) (by omega) (fun hc4 => ?_) (fun hc4 => ?_)
    rotate_left
    · have hzl := hz_lt (r := gf_A (z + 1)) (w := gw kd t) j (fun i _ => hW i)
      refine lv_iload hx hb dX0_written_147 (lv_at hl 8 rfl) ?_
      refine lv_iload hx hb dX0_written_149 (lv_at hl 6 rfl) ?_
      refine sq_reti (wc := []) (wr := [(o, .inr (3, [.ref a, .ref qq])), (a, eN dH 62 t), (qq, .inr (0, [.ref vv, .int 0, .int 0, .int 0])), (vv, eB dB (gn kd) (gw kd t)), (g, eN dN 62 t), (d, eN dN (gn kd) (gw kd t))]) hP hD hS hA [] [0, 1, 2, 3, 4, 5] rfl rfl (by decide) (by decide) (va_runS (As := [.int (nI (hz (gf_A (z + 1)) (gw kd t) j)), .int (nI (gf_A (z + 1)))]) (rest := []) ⟨hx, hb, hml, hown, htz⟩ (mt_product l H.size (hz (gf_A (z + 1)) (gw kd t) j) (gf_A (z + 1)) hzl hrr) (va_cwS 2 htz (z_S q550 q551 q1 q552) rfl rfl rfl (by decide +kernel) ⟨(Nat.le_of_ble_eq_true rfl), (Nat.le_of_ble_eq_true rfl)⟩) (sq_preS (wc := []) hP hD hK hE hS hA [] rfl (by decide)) rfl rfl hl.1 rfl (lv_room (Nat.le_of_ble_eq_true rfl)) dX0_written_151 ⟨(Nat.le_of_ble_eq_true rfl), (Nat.le_of_ble_eq_true rfl)⟩) (fun r u H locs hw hP hD hS => ?_)
      rw [hw]
      have hP : va_P D sqCl [(o, .inr (3, [.ref a, .ref qq])), (a, eN dH 62 t), (qq, .inr (0, [.ref vv, .int 0, .int 0, .int 0])), (vv, eB dB (gn kd) (gw kd t)), (g, eN dN 62 t), (d, eN dN (gn kd) (gw kd t))] H := hP
      have hD : va_D A [(o, .inr (3, [.ref a, .ref qq])), (a, eN dH 62 t), (qq, .inr (0, [.ref vv, .int 0, .int 0, .int 0])), (vv, eB dB (gn kd) (gw kd t)), (g, eN dN 62 t), (d, eN dN (gn kd) (gw kd t))] := hD
      refine lv_aload hx hb dX0_written_154 (lv_at hl 5 rfl) ?_
      refine lv_iload hx hb dX0_written_156 (lv_at hl 9 rfl) ?_
      refine sq_iald hx hb hK hP 5 rfl (hc4) (by omega) dX0_written_158 ?_
      refine sq_ixor hx hb dX0_written_159 ?_
      refine sq_top (y := nI (hz (gf_A (z + 1)) (gw kd t) (j + 1))) (rfl) ?_
      refine lv_istore (lv' := [(8, .int (nI (hz (gf_A (z + 1)) (gw kd t) (j + 1)))), (0, .ref o), (1, .ref g), (2, .int x), (3, .int (nI (gf_R kd))), (4, .int (nI (gf_C kd))), (5, .ref d), (6, .int (nI (gf_A (z + 1)))), (7, .int (nI (z + 1))), (9, .int (nI j))]) hx hb dX0_written_160 hl (by decide) rfl (fun ls hl => ?_)
      refine lv_iinc (v := nI (j + 1)) (lv' := [(9, .int (nI (j + 1))), (8, .int (nI (hz (gf_A (z + 1)) (gw kd t) (j + 1)))), (0, .ref o), (1, .ref g), (2, .int x), (3, .int (nI (gf_R kd))), (4, .int (nI (gf_C kd))), (5, .ref d), (6, .int (nI (gf_A (z + 1)))), (7, .int (nI (z + 1)))]) hx hb dX0_written_162 hl (k := 9) rfl (nI_1 j) (by decide) rfl (fun ls hl => ?_)
      refine lv_goto (tgt := 139) hx hb dX0_written_165 (by decide) ?_
      exact ih3 _ _ _ (hc4) ⟨hP.sub [0, 1, 2, 3, 4, 5] rfl, hD.sub [0, 1, 2, 3, 4, 5] (by decide) rfl, hS, lv_sub hl [2, 3, 4, 5, 6, 7, 8, 9, 1, 0] rfl⟩
    have hj0 : j = gn kd := by omega
    have hroot : hz (gf_A (z + 1)) (gw kd t) j = 0 := by rw [hj0]; exact gw_root hk (by omega) ht
    refine lv_iload hx hb dX0_written_168 (lv_at hl 8 rfl) ?_
    refine sq_if_eq (tgt := 175) hx hb dX0_written_170 (by decide) (by omega) (fun hc => ?_) (fun hc => by exfalso; omega)
    refine lv_iinc (v := nI (z + 1 + 1)) (lv' := [(7, .int (nI (z + 1 + 1))), (0, .ref o), (1, .ref g), (2, .int x), (3, .int (nI (gf_R kd))), (4, .int (nI (gf_C kd))), (5, .ref d), (6, .int (nI (gf_A (z + 1)))), (8, .int (nI (hz (gf_A (z + 1)) (gw kd t) j))), (9, .int (nI j))]) hx hb dX0_written_175 hl (k := 7) rfl (nI_1 (z + 1)) (by decide) rfl (fun ls hl => ?_)
    refine lv_goto (tgt := 118) hx hb dX0_written_178 (by decide) ?_
    exact ih2 _ _ _ (by omega) ⟨hP.sub [0, 1, 2, 3, 4, 5] rfl, hD.sub [0, 1, 2, 3, 4, 5] (by decide) rfl, hS, lv_sub hl [1, 2, 3, 4, 5, 6, 7, 0] rfl⟩
  refine lv_aload hx hb dX0_written_181 (lv_at hl 5 rfl) ?_
  exact sq_aret (qq, vv) hx hb hr hlocks (Or.inr ⟨_, rfl⟩) (trivial) (hP.sub [0, 1, 2, 3, 4, 5] rfl) (hD.sub [0, 1, 2, 3, 4, 5] (by decide) rfl) hS dX0_written_183
end SQO3
end
section
/-! THE START: what the Statement gives, as the environment -/
set_option maxRecDepth 1000000
def sq_F : List Cond := flatC (Jvm.Cond.and given_1 narrow_1)
theorem sq_seg {F : List Cond} (a : Nat) {l : List Cond} (h : (F.drop a).take l.length = l) : ∀ c ∈ l, c ∈ F := fun c hc => List.mem_of_mem_drop (List.mem_of_mem_take (by rw [h]; exact hc))
theorem sq_at (a : Nat) {c : Cond} (h : sq_F[a]? = some c) : c ∈ sq_F := List.mem_of_getElem? h
def sq_tc (tm : Term) (l : List Nat) : List Cond := Cond.arrayOf tm .int :: Cond.eq (.length tm) (.int (Int32.ofNat l.length)) :: (List.range l.length).map (fun j => Cond.eq (.elem tm (.int (Int32.ofNat j))) (.int (nI (l.getD j 0))))
abbrev sq_FT : Term := .static "ErrorCorrection" "FACTORS" "[[I"
abbrev sq_ST : Term := .string "SquareParity" 13
theorem sq_c0 : (sq_F.drop 10).take (sq_tc (.static "SquareParityLaw" "ROOM" "[I") gf_RL).length = sq_tc (.static "SquareParityLaw" "ROOM" "[I") gf_RL := by decide +kernel
theorem sq_c1 : (sq_F.drop 23).take (sq_tc (.static "SquareParityLaw" "CHECKS" "[I") gf_CL).length = sq_tc (.static "SquareParityLaw" "CHECKS" "[I") gf_CL := by decide +kernel
theorem sq_c2 : (sq_F.drop 36).take (sq_tc (.static "SquareParity" "ROOM" "[I") gf_RL).length = sq_tc (.static "SquareParity" "ROOM" "[I") gf_RL := by decide +kernel
theorem sq_c3 : (sq_F.drop 49).take (sq_tc (.static "SquareParity" "CHECKS" "[I") gf_CL).length = sq_tc (.static "SquareParity" "CHECKS" "[I") gf_CL := by decide +kernel
theorem sq_c4 : (sq_F.drop 64).take (sq_tc (.static "ErrorCorrection" "FACTOR_SETS" "[I") gf_SL).length = sq_tc (.static "ErrorCorrection" "FACTOR_SETS" "[I") gf_SL := by decide +kernel
theorem sq_c5 : (sq_F.drop 973).take (sq_tc (.static "ErrorCorrection" "LOG" "[I") gf_LL).length = sq_tc (.static "ErrorCorrection" "LOG" "[I") gf_LL := by decide +kernel
theorem sq_c6 : (sq_F.drop 715).take (sq_tc (.static "ErrorCorrection" "ALOG" "[I") gf_AL).length = sq_tc (.static "ErrorCorrection" "ALOG" "[I") gf_AL := by decide +kernel
def sq_ps : List Nat := [86, 94, 105, 120, 137, 156, 178, 205, 235, 270, 310, 359, 415, 478, 550, 629]
theorem sq_c7 : ∀ i, i < 16 → (sq_F.drop (sq_ps.getD i 0)).take (sq_tc (.elem sq_FT (.int (Int32.ofNat i))) (gf_FL.getD i [])).length = sq_tc (.elem sq_FT (.int (Int32.ofNat i))) (gf_FL.getD i []) := by decide +kernel
theorem sq_d0 : Cond.arrayOf sq_FT (.array .int) ∈ sq_F := sq_at 83 (by decide +kernel)
theorem sq_d1 : Cond.eq (.length sq_FT) (.int (Int32.ofNat 16)) ∈ sq_F := sq_at 84 (by decide +kernel)
theorem sq_d2 : Cond.eq (.static "java/lang/String" "COMPACT_STRINGS" "Z") (.int 1) ∈ sq_F := sq_at 4 (by decide +kernel)
theorem sq_d3 : Cond.isRef (.static "jdk/internal/util/Preconditions" "SIOOBE_FORMATTER" "Ljava/util/function/BiFunction;") ∈ sq_F := sq_at 5 (by decide +kernel)
theorem sq_d4 : Cond.exactly sq_ST "java/lang/String" ∈ sq_F := sq_at 1231 (by decide +kernel)
theorem sq_d5 : Cond.eq (.field sq_ST "java/lang/String" "coder" "B") (.int 0) ∈ sq_F := sq_at 1232 (by decide +kernel)
theorem sq_d6 : Cond.arrayOf (.field sq_ST "java/lang/String" "value" "[B") .byte ∈ sq_F := sq_at 1233 (by decide +kernel)
theorem sq_d7 : Cond.eq (.length (.field sq_ST "java/lang/String" "value" "[B")) (.int (Int32.ofNat 0)) ∈ sq_F := sq_at 1234 (by decide +kernel)
theorem sq_Tl {args : Array Value} {s : State} {A : Nat → Prop} {tm : Term} {l : List Nat} (hl : l.length < 2 ^ 31) (h : ∀ c ∈ sq_tc tm l, c.before args s = true) (hA : ∀ a : Nat, a < s.heap.size → ¬ A a) : ∃ t : Nat, tm.eval args s none [] s = some (.ref t) ∧ va_T .int t l.length (fun j => .int (nI (l.getD j 0))) A s s.heap :=
  va_Tof hl (h _ List.mem_cons_self) (va_eqt (h _ (List.mem_cons_of_mem _ List.mem_cons_self))) (fun j hj => va_eqt (h _ (List.mem_cons_of_mem _ (List.mem_cons_of_mem _ (List.mem_map.mpr ⟨j, List.mem_range.mpr hj, rfl⟩))))) hA
theorem sq_arr {args : Array Value} {s : State} {ty : FieldType} (hty : ty = .byte ∨ ty = .char ∨ ty = .int) (h : (Cond.arrayClass ty).before args s = true) : ∃ cA : ClassId, ArrOfT s cA ty ∧ va_RA s cA ty := by
  obtain ⟨cA, kA, comp, h1, h2, h3⟩ := Cond.arrayClass_spec h
  refine ⟨cA, fun n z => ⟨fun k h => (by cases h), kA, h2, comp, h3⟩, ?_⟩
  rcases hty with rfl | rfl | rfl <;> exact h1
/-- what a private method of its superclass is to StringBuilder -/
theorem sq_selp {y z : MethodName} {C : String} {s : State} {args : Array Value} {n : Nat} (hy : y.cls ≠ "java/lang/invoke/MethodHandle" ∧ y.cls ≠ "java/lang/invoke/VarHandle") (hins : (Cond.instantiable C n).before args s = true) (hpriv : (Cond.privateMethod y).before args s = true) (hinst : (Cond.instanceMethod y).before args s = true) (hsib : (Cond.selects C z z).before args s = true) (hz : z.cls = y.cls) : (Cond.selects C y y).before args s = true := by
  obtain ⟨c, k, hc, hk, -, hniab, -, -⟩ := Cond.instantiable_spec hins
  obtain ⟨mk, methM, hnamed, hmethM, -, -⟩ := Cond.instanceMethod_spec hinst
  have hfound : s.methodFound? y.cls y.name y.desc = some mk := State.methodFound?_of_named hnamed hy
  have hsel : selectMethod {} s.vm c mk = .method mk := selectMethod_private hmethM (Cond.privateMethod_at hpriv mk methM hnamed hmethM)
  obtain ⟨c', r', m', -, -, hn', -, kk, hkk, hki⟩ := Cond.selects_spec hsib
  have e2 := findClass_of_methodNamed hn'
  rw [hz] at e2
  have hcls : mk.cls = m'.cls := Option.some.inj ((findClass_of_methodNamed hnamed).symm.trans e2)
  simp only [Cond.before, Cond.holds, Cond.value, hc, hfound, hnamed, hsel, hcls, hkk]
  simp
  exact hki
set_option maxHeartbeats 4000000 in
theorem sq_begin {s : State} {b L : Nat} {xs : Nat → Int32} (hts : ∀ w ∈ lw_tbl, w.before #[Value.ref b] s = true) (hX : va_X b L xs s s.heap) (hbl : b < s.heap.size) (hgv : (Jvm.Cond.and given_1 narrow_1).before #[Value.ref b] s = true) :
    ∃ (D : va_G) (dB dH dN : ClassId) (ro : Option Nat) (ad : Nat → Nat), (∀ w ∈ zq_all, w.before #[Value.ref b] s = true) ∧ va_K D sqCl (sqT dB dH dN) s ∧ sq_E ro ad b L xs (fun q => s.heap.size ≤ q) s s.heap := by
  have hs := flat_of_before _ hgv
  have hA : ∀ a : Nat, a < s.heap.size → ¬ (fun q => s.heap.size ≤ q) a := fun a h => Nat.not_le.mpr h
  have hta : ∀ w ∈ lw_all, w.before #[Value.ref b] s = true := fun w h => hts w (lw_all_tbl h)
  -- words
  have htz : ∀ w ∈ zq_all, w.before #[Value.ref b] s = true := by
    intro w hw
    rcases List.mem_append.mp hw with h1 | h1
    · simp only [zq_sel, List.mem_cons, List.not_mem_nil, or_false] at h1
      rcases h1 with e | e | e
      · rw [e]; exact sq_selp ⟨by decide, by decide⟩ (hta _ q288) (hts _ q328) (hta _ q329) (hta _ q526) rfl
      · rw [e]; exact sq_selp ⟨by decide, by decide⟩ (hta _ q288) (hts _ q381) (hta _ q382) (hta _ q526) rfl
      · rw [e]; exact sq_selp ⟨by decide, by decide⟩ (hta _ q288) (hts _ q385) (hta _ q386) (hta _ q526) rfl
    · exact hta w h1
  -- classes
  obtain ⟨c0, i0, k0⟩ := u_known (C := RJ0) (T := TJ0) (N := 4) (n := 4) hta in_J0 (hta _ q117)
  obtain ⟨c1, i1, k1⟩ := u_known (C := RJ9) (T := TJ9) (N := 4) (n := 4) hta in_J9 (hta _ q288)
  obtain ⟨c2, i2, k2⟩ := u_known (C := RX2) (T := TX2) (N := 8) (n := 8) hta in_X2 (hta _ q179)
  obtain ⟨c3, i3, k3⟩ := u_known (C := RX1) (T := TX1) (N := 2) (n := 2) hta in_X1 (hta _ q20)
  obtain ⟨dB, a1, a2⟩ := sq_arr (Or.inl rfl) (hta _ q36)
  obtain ⟨dH, a3, a4⟩ := sq_arr (Or.inr (Or.inl rfl)) (hta _ q35)
  obtain ⟨dN, a5, a6⟩ := sq_arr (Or.inr (Or.inr rfl)) (hta _ q553)
  have hK : va_K (fun k => if k = 0 then c0 else if k = 1 then c1 else if k = 2 then c2 else c3, fun k => if k = 0 then i0 else if k = 1 then i1 else if k = 2 then i2 else i3) sqCl (sqT dB dH dN) s := by
    refine ⟨?_, ?_⟩
    · intro k q hq
      match k, hq with
      | 0, hq => cases hq; exact k0
      | 1, hq => cases hq; exact k1
      | 2, hq => cases hq; exact k2
      | 3, hq => cases hq; exact k3
      | k + 4, hq => simp [sqCl] at hq
    · intro k q hq
      match k, hq with
      | 0, hq => cases hq; exact ⟨a1, a2⟩
      | 1, hq => cases hq; exact ⟨a3, a4⟩
      | 2, hq => cases hq; exact ⟨a5, a6⟩
      | k + 3, hq => simp [sqT] at hq
  -- tables
  obtain ⟨t0, e0, T0⟩ := sq_Tl (A := fun q => s.heap.size ≤ q) (by decide +kernel) (fun c h => hs c (sq_seg _ sq_c0 c h)) hA
  have Z0 := va_Zref (hts _ q109) (hta _ q1) e0 hA
  obtain ⟨t1, e1, T1⟩ := sq_Tl (A := fun q => s.heap.size ≤ q) (by decide +kernel) (fun c h => hs c (sq_seg _ sq_c1 c h)) hA
  have Z1 := va_Zref (hts _ q111) (hta _ q1) e1 hA
  obtain ⟨t2, e2, T2⟩ := sq_Tl (A := fun q => s.heap.size ≤ q) (by decide +kernel) (fun c h => hs c (sq_seg _ sq_c2 c h)) hA
  have Z2 := va_Zref (hts _ q119) (hta _ q2) e2 hA
  obtain ⟨t3, e3, T3⟩ := sq_Tl (A := fun q => s.heap.size ≤ q) (by decide +kernel) (fun c h => hs c (sq_seg _ sq_c3 c h)) hA
  have Z3 := va_Zref (hts _ q181) (hta _ q2) e3 hA
  obtain ⟨t4, e4, T4⟩ := sq_Tl (A := fun q => s.heap.size ≤ q) (by decide +kernel) (fun c h => hs c (sq_seg _ sq_c4 c h)) hA
  have Z4 := va_Zref (hts _ q413) (hta _ q8) e4 hA
  obtain ⟨t5, e5, T5⟩ := sq_Tl (A := fun q => s.heap.size ≤ q) (by decide +kernel) (fun c h => hs c (sq_seg _ sq_c5 c h)) hA
  have Z5 := va_Zref (hts _ q455) (hta _ q8) e5 hA
  obtain ⟨t6, e6, T6⟩ := sq_Tl (A := fun q => s.heap.size ≤ q) (by decide +kernel) (fun c h => hs c (sq_seg _ sq_c6 c h)) hA
  have Z6 := va_Zref (hts _ q453) (hta _ q8) e6 hA
  have hrow : ∀ i : Nat, ∃ t : Nat, i < 16 → (Term.elem sq_FT (.int (Int32.ofNat i))).eval #[Value.ref b] s none [] s = some (.ref t) ∧ va_T .int t (gf_FL.getD i []).length (fun j => .int (nI (gf_P i j))) (fun q => s.heap.size ≤ q) s s.heap := by
    intro i
    by_cases hi : i < 16
    · obtain ⟨t, e, T⟩ := sq_Tl (A := fun q => s.heap.size ≤ q) ((show ∀ i, i < 16 → (gf_FL.getD i []).length < 2 ^ 31 by decide +kernel) i hi) (fun c h => hs c (sq_seg _ (sq_c7 i hi) c h)) hA
      exact ⟨t, fun _ => ⟨e, T⟩⟩
    · exact ⟨0, fun h => absurd h hi⟩
  obtain ⟨aF, hF⟩ := Classical.axiomOfChoice hrow
  obtain ⟨tF, eF, TF⟩ := va_Tof (f := fun j => .ref (aF j)) (N := 16) (A := fun q => s.heap.size ≤ q) (by decide) (hs _ sq_d0) (va_eqt (hs _ sq_d1)) (fun j hj => (hF j hj).1) hA
  have ZF := va_Zref (hts _ q416) (hta _ q8) eF hA
  have ZC := va_Zof (A := fun q => s.heap.size ≤ q) (hts _ q59) (hta _ q3) (va_eqi (hs _ sq_d2)) hA
  have hro : ∃ ro : Option Nat, va_Z "jdk/internal/util/Preconditions" "SIOOBE_FORMATTER" "Ljava/util/function/BiFunction;" (va_rf ro) (fun q => s.heap.size ≤ q) s s.heap := by
    rcases va_Zqof (A := fun q => s.heap.size ≤ q) (hts _ q75) (hta _ q5) (hs _ sq_d3) hA with h | ⟨t, h⟩
    · exact ⟨none, h⟩
    · exact ⟨some t, h⟩
  obtain ⟨ro, ZS⟩ := hro
  -- the empty text
  obtain ⟨adK, adV, hV, hev⟩ := vk_Sof (args := #[Value.ref b]) (N := 1) (tm := fun _ => sq_ST) (len := [0]) (byt := [[]]) (A := fun q => s.heap.size ≤ q) (fun i hi => by rcases (show i = 0 by omega) with rfl; decide) (fun i _ => hs _ sq_d4) (fun i _ => hs _ sq_d5) (fun i _ => hs _ sq_d6) (fun i hi => by rcases (show i = 0 by omega) with rfl; exact hs _ sq_d7) (fun i hi j hj => by rcases (show i = 0 by omega) with rfl; exact absurd hj (Nat.not_lt_zero _)) (fun i j hi hj hne => absurd (show i = j by omega) hne) hA
  have hV0 := hV.1 0 (by decide)
  have hR := vk_R.of (hts _ q27) (hev 0 (by decide))
  obtain ⟨scr, x1, x2, x3, x4, x5⟩ := hX
  have hXT : va_T .int b L (fun j => .int (xs j)) (fun q => s.heap.size ≤ q) s s.heap := ⟨scr, x1, x2, x3, by rw [x4]; exact Nat.le_refl _, by rw [x4], x5, Nat.not_le.mpr hbl⟩
  refine ⟨_, dB, dH, dN, ro, fun k => if k < 10 then ([t0, t1, t2, t3, t4, tF, t5, t6, adK 0, adV 0] : List Nat).getD k 0 else aF (k - 16), htz, hK, ⟨?_, ?_⟩, ⟨?_, ?_⟩, hXT, ⟨hV0.1, hV0.2.1, hV0.2.2.1, hV0.2.2.2⟩, va_Fw.of (hts _ q420) (hts _ q419) (hts _ q424) (hts _ q423) (hts _ q421), va_Fw.of (hts _ q437) (hts _ q436) (hts _ q440) (hts _ q439) (hts _ q421), va_Nw.of rfl (hts _ q354), hR⟩
  · intro z hz
    simp only [sq_Z, List.mem_cons, List.not_mem_nil, or_false] at hz
    rcases hz with rfl | rfl | rfl | rfl | rfl | rfl | rfl | rfl | rfl | rfl
    · exact ZC
    · exact ZS
    · exact Z0
    · exact Z1
    · exact Z2
    · exact Z3
    · exact Z4
    · exact ZF
    · exact Z5
    · exact Z6
  · intro z hz
    simp only [sq_tab, List.mem_cons, List.not_mem_nil, or_false] at hz
    rcases hz with rfl | rfl | rfl | rfl | rfl | rfl | rfl
    · exact T0
    · exact T1
    · exact T2
    · exact T3
    · exact T4
    · exact T5
    · exact T6
  · have e : (fun j => Value.ref (if 16 + j < 10 then ([t0, t1, t2, t3, t4, tF, t5, t6, adK 0, adV 0] : List Nat).getD (16 + j) 0 else aF (16 + j - 16))) = fun j => Value.ref (aF j) := by
      funext j
      rw [if_neg (by omega), Nat.add_sub_cancel_left]
    show va_T (.array .int) tF 16 (fun j => Value.ref (if 16 + j < 10 then ([t0, t1, t2, t3, t4, tF, t5, t6, adK 0, adV 0] : List Nat).getD (16 + j) 0 else aF (16 + j - 16))) _ s s.heap
    rw [e]
    exact TF
  · intro i hi
    show va_T .int (if 16 + i < 10 then ([t0, t1, t2, t3, t4, tF, t5, t6, adK 0, adV 0] : List Nat).getD (16 + i) 0 else aF (16 + i - 16)) _ _ _ s s.heap
    rw [if_neg (by omega), Nat.add_sub_cancel_left]
    exact (hF i hi).2
end
section
/-! THE LAW -/
set_option maxRecDepth 100000
/-- the last letters, i of them laid over T -/
def tl (L : Nat) (xs : Nat → Int32) (T : Nat → Nat) : Nat → Nat → Nat
  | 0 => T
  | i + 1 => va_up (tl L xs T i) (ps (cz L xs (66 + 2 * i)) % 62) (lo8 (cz L xs (66 + 2 * i + 1)))
theorem tl_lt {L : Nat} {xs : Nat → Int32} {T : Nat → Nat} (hT : ∀ j, T j < 256) : ∀ i j, tl L xs T i j < 256 := by
  intro i
  induction i with
  | zero => exact hT
  | succ i ih =>
    intro j
    show va_up (tl L xs T i) _ _ j < 256
    unfold va_up
    split
    · exact lo8_lt _
    · exact ih j
theorem cn_up {p : Nat → Bool} : ∀ n, cn p n ≤ n := by
  intro n
  induction n with
  | zero => exact Nat.le_refl _
  | succ n ih =>
    rw [cn_s]
    split <;> omega
theorem cn_t {f g : Nat → Nat} {j : Nat} (h : f j ≠ g j) : cn (fun j => !(f j == g j)) (j + 1) = cn (fun j => !(f j == g j)) j + 1 := by
  rw [cn_s, if_pos (by simpa using h)]
theorem cn_f {f g : Nat → Nat} {j : Nat} (h : f j = g j) : cn (fun j => !(f j == g j)) (j + 1) = cn (fun j => !(f j == g j)) j := by
  rw [cn_s, if_neg (by simpa using h), Nat.add_zero]
/-! THE CLAIM OUT OF ONE WALK OF THE LAW'S BODY. Your part is whole_start (and what it stands on); all else here is the same for every law, but numbers. -/
def R_law : String := "SquareParityLaw"
def lw_P (b : Addr) (xs : List Int32) (args : Array Value) (s : State) : Prop := args = #[.ref b] ∧ s.IntsAt b xs ∧ xs.length ≤ 96 ∧ (Jvm.Cond.and given_1 narrow_1).before args s = true
def lw_Q (_ : Array Value) (s : State) (o : Outcome) (t : State) : Prop := o = .returned (some (.int 1)) ∧ Framed s o t [] 1200192 5500522
def lw_Z (below : List Frame) (a : Array Value) (s : State) : State → Prop := fun t => ∃ o, t.status = .running ∧ Ended t below o ∧ lw_Q a s o t
/-- the law's own end, with 1 on the stack, nothing written that was there before, its room as the claim has it -/
theorem lw_ret {p : Program} {l : Launch} {e : Env} {s : State} {m : MethodId} {below : List Frame} {meth : Method} {c : Code} {b : Nat} (hx : p.tables.exec = Jvm.exec) (hb : c.code = code) (hr : meth.sig.returnType = ret) (hlocks : meth.locks = false) {pc : Nat} {H : Heap} {ls : Array Slot} (hdg : decode code pc = .ok (.ireturn, 1)) : W p l e room_1 s m #[Value.ref b] below meth c H [] 1200192 5500522 (lw_Z below #[Value.ref b] s) (F0 m pc ls [.int 1]) := by
  intro T hT X
  obtain ⟨fs, hret, hrun, hended, hW, hframe⟩ := X.leave (v := some (.int 1)) (hlocks := hlocks) (fun h => by rw [hr] at h; cases h)
  have hmeth' : T.vm.method? m = some meth := X.method'
  refine ⟨T.setFrames fs, ?_, .returned (some (.int 1)), hrun, hended, rfl, ⟨_, rfl⟩, hW, hframe⟩
  jvm_step X.here [X.here.top, hx, hb, hdg, hmeth', hr, ret, narrow_b1]
  (try refine ⟨rfl, ?_⟩); (try refine ⟨rfl, ?_⟩)
  first | (intro acts; rw [hret _ acts rfl rfl rfl]) | rw [hret _ _ rfl rfl rfl]
  exact Steps.refl _
/-- what holds at the law's entry: the machine, the code, the tables' words (any of lw_tbl by 'hts w (by decide +kernel)'), the script of L ints xs at the cell b, what the Statement gives of the start (any of its parts by flat_of_before) -/
def lw_At (p : Program) (s : State) (m : MethodId) (meth : Method) (c : Code) (b L : Nat) (xs : Nat → Int32) : Prop :=
  p.tables.exec = Jvm.exec ∧ c.code = code ∧ meth.sig.returnType = ret ∧ c.maxLocals = 10 ∧ s.vm.findClass R_law = some m.cls ∧ (∀ w ∈ lw_tbl, w.before #[Value.ref b] s = true) ∧ va_X b L xs s s.heap ∧ b < s.heap.size ∧ meth.locks = false ∧ (Jvm.Cond.and given_1 narrow_1).before #[Value.ref b] s = true
set_option maxHeartbeats 4000000 in
set_option maxRecDepth 100000 in
/-- the law, from its entry to its end -/
theorem law_body {p : Program} {e : Env} {s : State} {m : MethodId} {below : List Frame} {meth : Method} {c : Code} (l : Launch) {D : va_G} {dB dH dN : ClassId} {ro : Option Nat} {ad : Nat → Nat} {b L : Nat} {xs : Nat → Int32} (hL : L ≤ 96) (A : Nat → Prop) (hAe : A = fun q => s.heap.size ≤ q) (hx : p.tables.exec = Jvm.exec) (hb : c.code = cL_law) (hr : meth.sig.returnType = ret) (hlocks : meth.locks = false) (hml : c.maxLocals = 10) (hown : s.vm.findClass "SquareParityLaw" = some m.cls) (htz : ∀ w ∈ zq_all, w.before #[Value.ref b] s = true) (hP : va_P D sqCl [] s.heap) (hK : va_K D sqCl (sqT dB dH dN) s) (hD : va_D A []) (hE : sq_E ro ad b L xs A s s.heap) (hS : va_S A s.heap s.heap []) (hA : ∀ q : Nat, s.heap.size ≤ q → A q) (ls : Array Slot) (hl : lv_has ls 10 [(0, .ref b)]) : W p l e room_1 s m #[Value.ref b] below meth c s.heap [] 0 0 (lw_Z below #[Value.ref b] s) (F0 m 0 ls []) := by
  have hts : ∀ w ∈ lw_all, w.before _ s = true := fun w h => htz w (zq_in h)
  refine va_new (ci := 3) (fs := [.null, .null]) (C := RX1) (T := TX1) (N := 2) hx hb hts in_X1 tyX1 tyX1_ok hown (hts _ q19) (hts _ q20) (hts _ q2) hK hP hD hS hA rfl (fun j hj => by rcases (show j = 0 ∨ j = 1 by omega) with rfl | rfl <;> rfl) (Nat.le_of_ble_eq_true rfl) (Nat.le_of_ble_eq_true rfl) dL_law_0 (fun o H hP hD hS => ?_)
  have hP : va_P D sqCl [(o, .inr (3, [.null, .null]))] H := hP
  have hD : va_D A [(o, .inr (3, [.null, .null]))] := hD
  refine W.widen (k := 1) (n := 2) (Nat.le_refl _) (Nat.le_refl _) ?_
  refine lv_dup hx hb dL_law_3 rfl ?_
  refine sq_retv (wc := [(o, .inr (3, [.null, .null]))]) (wr := []) hP hD hS hA [0] [] rfl rfl (by decide) (by decide) (va_runI (As := []) (rest := [.ref o]) ⟨hx, hb, hml, hown, htz⟩ (mt_spInit l H.size o) (cwI 0 htz (z_meth q23) rfl rfl rfl (hts _ q2) (hts _ q21) (hts _ q22) rfl (by decide +kernel) ⟨(Nat.le_of_ble_eq_true rfl), (Nat.le_of_ble_eq_true rfl)⟩) (sq_preS (wc := [(o, .inr (3, [.null, .null]))]) hP hD hK hE hS hA [0] rfl (by decide)) rfl rfl hl.1 rfl (lv_room (Nat.le_of_ble_eq_true rfl)) dL_law_4 ⟨(Nat.le_of_ble_eq_true rfl), (Nat.le_of_ble_eq_true rfl)⟩) (fun u H locs _ hP hD hS => ?_)
  refine W.widen (k := 2) (n := 64) (Nat.le_refl _) (Nat.le_refl _) ?_
  obtain ⟨a, rfl⟩ : ∃ z, z = u := ⟨_, rfl⟩
  have hP : va_P D sqCl [(o, .inr (3, [.ref a, .ref (ad 8)])), (a, eN dH 62 (fun _ => 0))] H := hP
  have hD : va_D A [(o, .inr (3, [.ref a, .ref (ad 8)])), (a, eN dH 62 (fun _ => 0))] := hD
  refine lv_astore_n (lv' := [(1, .ref o), (0, .ref b)]) hx hb dL_law_7 rfl hl (by decide) rfl (fun ls hl => ?_)
  refine lv_aload_n hx hb dL_law_8 rfl (lv_at hl 1 rfl) ?_
  refine lv_iconst (v := nI 0) hx hb dL_law_9 (by decide) ?_
  refine sq_reti (wc := []) (wr := [(o, .inr (3, [.ref a, .ref (ad 8)])), (a, eN dH 62 (fun _ => 0))]) hP hD hS hA [] [0, 1] rfl rfl (by decide) (by decide) (va_runS (As := [.ref b, .int (nI 0)]) (rest := []) ⟨hx, hb, hml, hown, htz⟩ (mt_cell l H.size 0 hL (by decide)) (va_cwS 2 htz (z_S q98 q99 q1 q100) rfl rfl rfl (by decide +kernel) ⟨(Nat.le_of_ble_eq_true rfl), (Nat.le_of_ble_eq_true rfl)⟩) (sq_preS (wc := []) hP hD hK hE hS hA [] rfl (by decide)) rfl rfl hl.1 rfl (lv_room (Nat.le_of_ble_eq_true rfl)) dL_law_10 ⟨(Nat.le_of_ble_eq_true rfl), (Nat.le_of_ble_eq_true rfl)⟩) (fun r u H locs hw hP hD hS => ?_)
  rw [hw]
  have hP : va_P D sqCl [(o, .inr (3, [.ref a, .ref (ad 8)])), (a, eN dH 62 (fun _ => 0))] H := hP
  have hD : va_D A [(o, .inr (3, [.ref a, .ref (ad 8)])), (a, eN dH 62 (fun _ => 0))] := hD
  refine lv_istore_n (lv' := [(2, .int (cz L xs 0)), (1, .ref o), (0, .ref b)]) hx hb dL_law_13 rfl hl (by decide) rfl (fun ls hl => ?_)
  refine lv_bipush (v := nI 62) hx hb dL_law_14 (by decide) ?_
  refine sq_newN hx hb (hts _ q553) hK hP hD hS hA 3 126 (by omega) (by omega) (by omega) (Nat.le_of_ble_eq_true rfl) (Nat.le_of_ble_eq_true rfl) dL_law_16 (fun g H hP hD hS => ?_)
  have hP : va_P D sqCl [(o, .inr (3, [.ref a, .ref (ad 8)])), (a, eN dH 62 (fun _ => 0)), (g, eN dN 62 (fun _ => 0))] H := hP
  have hD : va_D A [(o, .inr (3, [.ref a, .ref (ad 8)])), (a, eN dH 62 (fun _ => 0)), (g, eN dN 62 (fun _ => 0))] := hD
  refine lv_astore_n (lv' := [(3, .ref g), (2, .int (cz L xs 0)), (1, .ref o), (0, .ref b)]) hx hb dL_law_18 rfl hl (by decide) rfl (fun ls hl => ?_)
  refine lv_aload_n hx hb dL_law_19 rfl (lv_at hl 2 rfl) ?_
  refine lv_aload_n hx hb dL_law_20 rfl (lv_at hl 3 rfl) ?_
  refine lv_iconst (v := nI 1) hx hb dL_law_21 (by decide) ?_
  refine sq_reti (wc := []) (wr := [(o, .inr (3, [.ref a, .ref (ad 8)])), (a, eN dH 62 (fun _ => 0)), (g, eN dN 62 (fun _ => 0))]) hP hD hS hA [] [0, 1, 2] rfl rfl (by decide) (by decide) (va_runS (As := [.ref b, .int (nI 1)]) (rest := [.ref o]) ⟨hx, hb, hml, hown, htz⟩ (mt_cell l H.size 1 hL (by decide)) (va_cwS 2 htz (z_S q98 q99 q1 q100) rfl rfl rfl (by decide +kernel) ⟨(Nat.le_of_ble_eq_true rfl), (Nat.le_of_ble_eq_true rfl)⟩) (sq_preS (wc := []) hP hD hK hE hS hA [] rfl (by decide)) rfl rfl hl.1 rfl (lv_room (Nat.le_of_ble_eq_true rfl)) dL_law_22 ⟨(Nat.le_of_ble_eq_true rfl), (Nat.le_of_ble_eq_true rfl)⟩) (fun r u H locs hw hP hD hS => ?_)
  rw [hw]
  have hP : va_P D sqCl [(o, .inr (3, [.ref a, .ref (ad 8)])), (a, eN dH 62 (fun _ => 0)), (g, eN dN 62 (fun _ => 0))] H := hP
  have hD : va_D A [(o, .inr (3, [.ref a, .ref (ad 8)])), (a, eN dH 62 (fun _ => 0)), (g, eN dN 62 (fun _ => 0))] := hD
  refine sq_reti (wc := [(o, .inr (3, [.ref a, .ref (ad 8)]))]) (wr := [(a, eN dH 62 (fun _ => 0)), (g, eN dN 62 (fun _ => 0))]) hP hD hS hA [0] [1, 2] rfl rfl (by decide) (by decide) (va_runV (As := [.int (cz L xs 1)]) (rest := []) ⟨hx, hb, hml, hown, htz⟩ (mt_whole0 l H.size o a (cz L xs 1)) (cwV 1 htz (z_V q46 q47 q48 q2 q49) rfl rfl rfl (by decide +kernel) ⟨(Nat.le_of_ble_eq_true rfl), (Nat.le_of_ble_eq_true rfl)⟩) (sq_preV (wc := [(o, .inr (3, [.ref a, .ref (ad 8)]))]) (va_recv hK hP (ci := 3) (q0 := 0) rfl rfl) hP hD hK hE hS hA [0] rfl (by decide)) rfl rfl hl.1 rfl (lv_room (Nat.le_of_ble_eq_true rfl)) dL_law_25 ⟨(Nat.le_of_ble_eq_true rfl), (Nat.le_of_ble_eq_true rfl)⟩) (fun r u H locs hw hP hD hS => ?_)
  rw [hw]
  have hP : va_P D sqCl [(a, eN dH 62 (fun _ => 0)), (g, eN dN 62 (fun _ => 0)), (o, .inr (3, [.ref a, .ref (ad 8)]))] H := hP
  have hD : va_D A [(a, eN dH 62 (fun _ => 0)), (g, eN dN 62 (fun _ => 0)), (o, .inr (3, [.ref a, .ref (ad 8)]))] := hD
  refine lv_iconst (v := -1) hx hb dL_law_28 (by decide) ?_
  refine lv_icmp_eq (tgt := 34) hx hb dL_law_29 (by decide) (fun _ => ?_) (fun hc => absurd rfl hc)
  refine lv_iconst (v := nI 0) hx hb dL_law_34 (by decide) ?_
  refine lv_istore (lv' := [(4, .int (nI 0)), (3, .ref g), (2, .int (cz L xs 0)), (1, .ref o), (0, .ref b)]) hx hb dL_law_35 hl (by decide) rfl (fun ls hl => ?_)
  obtain ⟨hP, hD⟩ := sq_cg (g := fun j => nI ((zc 0 (fun j => lo8 (cz L xs (2 + j)))) j)) hP hD 0 rfl (fun j hj => congrArg nI (zc_0 (fun j => lo8 (cz L xs (2 + j))) j))
  have hP : va_P D sqCl [(a, eN dH 62 (zc 0 (fun j => lo8 (cz L xs (2 + j))))), (g, eN dN 62 (fun _ => 0)), (o, .inr (3, [.ref a, .ref (ad 8)]))] H := hP
  have hD : va_D A [(a, eN dH 62 (zc 0 (fun j => lo8 (cz L xs (2 + j))))), (g, eN dN 62 (fun _ => 0)), (o, .inr (3, [.ref a, .ref (ad 8)]))] := hD
  obtain ⟨hP, hD⟩ := sq_cg (g := fun j => nI ((zc 0 (fun j => lo8 (cz L xs (2 + j)))) j)) hP hD 1 rfl (fun j hj => congrArg nI (zc_0 (fun j => lo8 (cz L xs (2 + j))) j))
  have hP : va_P D sqCl [(a, eN dH 62 (zc 0 (fun j => lo8 (cz L xs (2 + j))))), (g, eN dN 62 (zc 0 (fun j => lo8 (cz L xs (2 + j))))), (o, .inr (3, [.ref a, .ref (ad 8)]))] H := hP
  have hD : va_D A [(a, eN dH 62 (zc 0 (fun j => lo8 (cz L xs (2 + j))))), (g, eN dN 62 (zc 0 (fun j => lo8 (cz L xs (2 + j))))), (o, .inr (3, [.ref a, .ref (ad 8)]))] := hD
  refine sq_loop (fun (k : Nat) H locs ls => va_P D sqCl [(o, .inr (3, [.ref a, .ref (ad 8)])), (a, eN dH 62 (zc k (fun j => lo8 (cz L xs (2 + j))))), (g, eN dN 62 (zc k (fun j => lo8 (cz L xs (2 + j)))))] H ∧ va_D A [(o, .inr (3, [.ref a, .ref (ad 8)])), (a, eN dH 62 (zc k (fun j => lo8 (cz L xs (2 + j))))), (g, eN dN 62 (zc k (fun j => lo8 (cz L xs (2 + j)))))] ∧ va_S A s.heap H locs ∧ lv_has ls 10 [(0, .ref b), (1, .ref o), (2, .int (cz L xs 0)), (3, .ref g), (4, .int (nI k))]) 62 ?_ 0 _ _ _ (Nat.zero_le _) ⟨hP.sub [2, 0, 1] rfl, hD.sub [2, 0, 1] (by decide) rfl, hS, lv_sub hl [4, 3, 2, 1, 0] rfl⟩
  intro k H locs ls h_k hI ih
  obtain ⟨hP, hD, hS, hl⟩ := hI
  refine lv_iload hx hb dL_law_37 (lv_at hl 4 rfl) ?_
  refine lv_bipush (v := nI 62) hx hb dL_law_39 (by decide) ?_
  refine sq_ge (tgt := 80) hx hb dL_law_41 (by decide) (by omega) (by decide) (fun hc1 => ?_) (fun hc1 => ?_)
  rotate_left
  · have hpk : ps (nI k) % 62 = k := by
      unfold ps
      rw [pk_tn (by omega)]
      omega
    refine lv_aload_n hx hb dL_law_44 rfl (lv_at hl 3 rfl) ?_
    refine lv_iload hx hb dL_law_45 (lv_at hl 4 rfl) ?_
    refine lv_aload_n hx hb dL_law_47 rfl (lv_at hl 0 rfl) ?_
    refine lv_iconst (v := nI 2) hx hb dL_law_48 (by decide) ?_
    refine lv_iload hx hb dL_law_49 (lv_at hl 4 rfl) ?_
    refine sq_iadd hx hb dL_law_51 ?_
    refine sq_reti (wc := []) (wr := [(o, .inr (3, [.ref a, .ref (ad 8)])), (a, eN dH 62 (zc k (fun j => lo8 (cz L xs (2 + j))))), (g, eN dN 62 (zc k (fun j => lo8 (cz L xs (2 + j)))))]) hP hD hS hA [] [0, 1, 2] rfl rfl (by decide) (by decide) (va_runS (As := [.ref b, .int (nI (2 + k))]) (rest := [.int (nI k), .ref g]) ⟨hx, hb, hml, hown, htz⟩ (mt_cell l H.size (2 + k) hL (by omega)) (va_cwS 2 htz (z_S q98 q99 q1 q100) rfl rfl rfl (by decide +kernel) ⟨(Nat.le_of_ble_eq_true rfl), (Nat.le_of_ble_eq_true rfl)⟩) (sq_preS (wc := []) hP hD hK hE hS hA [] rfl (by decide)) rfl rfl hl.1 rfl (lv_room (Nat.le_of_ble_eq_true rfl)) dL_law_52 ⟨(Nat.le_of_ble_eq_true rfl), (Nat.le_of_ble_eq_true rfl)⟩) (fun r u H locs hw hP hD hS => ?_)
    rw [hw]
    have hP : va_P D sqCl [(o, .inr (3, [.ref a, .ref (ad 8)])), (a, eN dH 62 (zc k (fun j => lo8 (cz L xs (2 + j))))), (g, eN dN 62 (zc k (fun j => lo8 (cz L xs (2 + j)))))] H := hP
    have hD : va_D A [(o, .inr (3, [.ref a, .ref (ad 8)])), (a, eN dH 62 (zc k (fun j => lo8 (cz L xs (2 + j))))), (g, eN dN 62 (zc k (fun j => lo8 (cz L xs (2 + j)))))] := hD
    refine lv_sipush (v := nI 255) hx hb dL_law_55 (by decide) ?_
    refine lv_iand hx hb dL_law_58 (sq_top (lo8_e _) ?_)
    refine sq_iast hx hb hK hP hD hS 2 rfl (hc1) (by decide) dL_law_59 (fun H locs hP hD hS => ?_)
    have hP : va_P D sqCl [(o, .inr (3, [.ref a, .ref (ad 8)])), (a, eN dH 62 (zc k (fun j => lo8 (cz L xs (2 + j))))), (g, eN dN 62 (va_up (zc k (fun j => lo8 (cz L xs (2 + j)))) k (lo8 (cz L xs (2 + k)))))] H := hP
    have hD : va_D A [(o, .inr (3, [.ref a, .ref (ad 8)])), (a, eN dH 62 (zc k (fun j => lo8 (cz L xs (2 + j))))), (g, eN dN 62 (va_up (zc k (fun j => lo8 (cz L xs (2 + j)))) k (lo8 (cz L xs (2 + k)))))] := hD
    obtain ⟨hP, hD⟩ := sq_cg (g := fun j => nI ((zc (k + 1) (fun j => lo8 (cz L xs (2 + j)))) j)) hP hD 2 rfl (fun j hj => congrArg nI (zc_up k (fun j => lo8 (cz L xs (2 + j))) j))
    have hP : va_P D sqCl [(o, .inr (3, [.ref a, .ref (ad 8)])), (a, eN dH 62 (zc k (fun j => lo8 (cz L xs (2 + j))))), (g, eN dN 62 (zc (k + 1) (fun j => lo8 (cz L xs (2 + j)))))] H := hP
    have hD : va_D A [(o, .inr (3, [.ref a, .ref (ad 8)])), (a, eN dH 62 (zc k (fun j => lo8 (cz L xs (2 + j))))), (g, eN dN 62 (zc (k + 1) (fun j => lo8 (cz L xs (2 + j)))))] := hD
    refine lv_aload_n hx hb dL_law_60 rfl (lv_at hl 1 rfl) ?_
    refine lv_iload hx hb dL_law_61 (lv_at hl 4 rfl) ?_
    refine lv_aload_n hx hb dL_law_63 rfl (lv_at hl 0 rfl) ?_
    refine lv_iconst (v := nI 2) hx hb dL_law_64 (by decide) ?_
    refine lv_iload hx hb dL_law_65 (lv_at hl 4 rfl) ?_
    refine sq_iadd hx hb dL_law_67 ?_
    refine sq_reti (wc := []) (wr := [(o, .inr (3, [.ref a, .ref (ad 8)])), (a, eN dH 62 (zc k (fun j => lo8 (cz L xs (2 + j))))), (g, eN dN 62 (zc (k + 1) (fun j => lo8 (cz L xs (2 + j)))))]) hP hD hS hA [] [0, 1, 2] rfl rfl (by decide) (by decide) (va_runS (As := [.ref b, .int (nI (2 + k))]) (rest := [.int (nI k), .ref o]) ⟨hx, hb, hml, hown, htz⟩ (mt_cell l H.size (2 + k) hL (by omega)) (va_cwS 2 htz (z_S q98 q99 q1 q100) rfl rfl rfl (by decide +kernel) ⟨(Nat.le_of_ble_eq_true rfl), (Nat.le_of_ble_eq_true rfl)⟩) (sq_preS (wc := []) hP hD hK hE hS hA [] rfl (by decide)) rfl rfl hl.1 rfl (lv_room (Nat.le_of_ble_eq_true rfl)) dL_law_68 ⟨(Nat.le_of_ble_eq_true rfl), (Nat.le_of_ble_eq_true rfl)⟩) (fun r u H locs hw hP hD hS => ?_)
    rw [hw]
    have hP : va_P D sqCl [(o, .inr (3, [.ref a, .ref (ad 8)])), (a, eN dH 62 (zc k (fun j => lo8 (cz L xs (2 + j))))), (g, eN dN 62 (zc (k + 1) (fun j => lo8 (cz L xs (2 + j)))))] H := hP
    have hD : va_D A [(o, .inr (3, [.ref a, .ref (ad 8)])), (a, eN dH 62 (zc k (fun j => lo8 (cz L xs (2 + j))))), (g, eN dN 62 (zc (k + 1) (fun j => lo8 (cz L xs (2 + j)))))] := hD
    refine sq_retv (wc := [(o, .inr (3, [.ref a, .ref (ad 8)])), (a, eN dH 62 (zc k (fun j => lo8 (cz L xs (2 + j)))))]) (wr := [(g, eN dN 62 (zc (k + 1) (fun j => lo8 (cz L xs (2 + j)))))]) hP hD hS hA [0, 1] [2] rfl rfl (by decide) (by decide) (va_runV (As := [.int (nI k), .int (cz L xs (2 + k))]) (rest := []) ⟨hx, hb, hml, hown, htz⟩ (mt_letter l H.size o a (ad 8) (nI k) (cz L xs (2 + k)) (zc k (fun j => lo8 (cz L xs (2 + j))))) (cwV 2 htz (z_V q37 q38 q39 q2 q40) rfl rfl rfl (by decide +kernel) ⟨(Nat.le_of_ble_eq_true rfl), (Nat.le_of_ble_eq_true rfl)⟩) (sq_preV (wc := [(o, .inr (3, [.ref a, .ref (ad 8)])), (a, eN dH 62 (zc k (fun j => lo8 (cz L xs (2 + j)))))]) (va_recv hK hP (ci := 3) (q0 := 0) rfl rfl) hP hD hK hE hS hA [0, 1] rfl (by decide)) rfl rfl hl.1 rfl (lv_room (Nat.le_of_ble_eq_true rfl)) dL_law_71 ⟨(Nat.le_of_ble_eq_true rfl), (Nat.le_of_ble_eq_true rfl)⟩) (fun u H locs _ hP hD hS => ?_)
    rw [hpk] at hP hD
    have hP : va_P D sqCl [(g, eN dN 62 (zc (k + 1) (fun j => lo8 (cz L xs (2 + j))))), (o, .inr (3, [.ref a, .ref (ad 8)])), (a, eN dH 62 (va_up (zc k (fun j => lo8 (cz L xs (2 + j)))) k (lo8 (cz L xs (2 + k)))))] H := hP
    have hD : va_D A [(g, eN dN 62 (zc (k + 1) (fun j => lo8 (cz L xs (2 + j))))), (o, .inr (3, [.ref a, .ref (ad 8)])), (a, eN dH 62 (va_up (zc k (fun j => lo8 (cz L xs (2 + j)))) k (lo8 (cz L xs (2 + k)))))] := hD
    obtain ⟨hP, hD⟩ := sq_cg (g := fun j => nI ((zc (k + 1) (fun j => lo8 (cz L xs (2 + j)))) j)) hP hD 2 rfl (fun j hj => congrArg nI (zc_up k (fun j => lo8 (cz L xs (2 + j))) j))
    have hP : va_P D sqCl [(g, eN dN 62 (zc (k + 1) (fun j => lo8 (cz L xs (2 + j))))), (o, .inr (3, [.ref a, .ref (ad 8)])), (a, eN dH 62 (zc (k + 1) (fun j => lo8 (cz L xs (2 + j)))))] H := hP
    have hD : va_D A [(g, eN dN 62 (zc (k + 1) (fun j => lo8 (cz L xs (2 + j))))), (o, .inr (3, [.ref a, .ref (ad 8)])), (a, eN dH 62 (zc (k + 1) (fun j => lo8 (cz L xs (2 + j)))))] := hD
    refine lv_iinc (v := nI (k + 1)) (lv' := [(4, .int (nI (k + 1))), (0, .ref b), (1, .ref o), (2, .int (cz L xs 0)), (3, .ref g)]) hx hb dL_law_74 hl (k := 4) rfl (nI_1 k) (by decide) rfl (fun ls hl => ?_)
    refine lv_goto (tgt := 37) hx hb dL_law_77 (by decide) ?_
    exact ih _ _ _ (hc1) ⟨hP.sub [1, 2, 0] rfl, hD.sub [1, 2, 0] (by decide) rfl, hS, lv_sub hl [1, 2, 3, 4, 0] rfl⟩
  obtain ⟨hP, hD⟩ := sq_cg (g := fun j => nI ((fun j => lo8 (cz L xs (2 + j))) j)) hP hD 1 rfl (fun j hj => congrArg nI (zc_all hc1 j hj))
  have hP : va_P D sqCl [(o, .inr (3, [.ref a, .ref (ad 8)])), (a, eN dH 62 (fun j => lo8 (cz L xs (2 + j)))), (g, eN dN 62 (zc k (fun j => lo8 (cz L xs (2 + j)))))] H := hP
  have hD : va_D A [(o, .inr (3, [.ref a, .ref (ad 8)])), (a, eN dH 62 (fun j => lo8 (cz L xs (2 + j)))), (g, eN dN 62 (zc k (fun j => lo8 (cz L xs (2 + j)))))] := hD
  obtain ⟨hP, hD⟩ := sq_cg (g := fun j => nI ((fun j => lo8 (cz L xs (2 + j))) j)) hP hD 2 rfl (fun j hj => congrArg nI (zc_all hc1 j hj))
  have hP : va_P D sqCl [(o, .inr (3, [.ref a, .ref (ad 8)])), (a, eN dH 62 (fun j => lo8 (cz L xs (2 + j)))), (g, eN dN 62 (fun j => lo8 (cz L xs (2 + j))))] H := hP
  have hD : va_D A [(o, .inr (3, [.ref a, .ref (ad 8)])), (a, eN dH 62 (fun j => lo8 (cz L xs (2 + j)))), (g, eN dN 62 (fun j => lo8 (cz L xs (2 + j))))] := hD
  obtain ⟨kd, hkd⟩ : ∃ z, z = ps (cz L xs 0) % 10 := ⟨_, rfl⟩
  have hk : kd < 10 := by have := ps_lt (cz L xs 0); omega
  have hgn := gn_le hk
  refine lv_aload_n hx hb dL_law_80 rfl (lv_at hl 1 rfl) ?_
  refine lv_aload_n hx hb dL_law_81 rfl (lv_at hl 3 rfl) ?_
  refine lv_iload_n hx hb dL_law_82 rfl (lv_at hl 2 rfl) ?_
  refine sq_retr (wc := [(o, .inr (3, [.ref a, .ref (ad 8)])), (a, eN dH 62 (fun j => lo8 (cz L xs (2 + j)))), (g, eN dN 62 (fun j => lo8 (cz L xs (2 + j))))]) (wr := []) hP hD hS hA [0, 1, 2] [] rfl rfl (by decide) (by decide) (va_runS (As := [.ref o, .ref g, .int (cz L xs 0)]) (rest := []) ⟨hx, hb, hml, hown, htz⟩ (mt_written l H.size o a (ad 8) g (cz L xs 0) (fun j => lo8 (cz L xs (2 + j))) (fun j => lo8_lt _)) (va_cwS 3 htz (z_S q105 q106 q1 q107) rfl rfl rfl (by decide +kernel) ⟨(Nat.le_of_ble_eq_true rfl), (Nat.le_of_ble_eq_true rfl)⟩) (sq_preS (wc := [(o, .inr (3, [.ref a, .ref (ad 8)])), (a, eN dH 62 (fun j => lo8 (cz L xs (2 + j)))), (g, eN dN 62 (fun j => lo8 (cz L xs (2 + j))))]) hP hD hK hE hS hA [0, 1, 2] rfl (by decide)) rfl rfl hl.1 rfl (lv_room (Nat.le_of_ble_eq_true rfl)) dL_law_83 ⟨(Nat.le_of_ble_eq_true rfl), (Nat.le_of_ble_eq_true rfl)⟩) (fun u wa H locs _ hP hD hS => ?_)
  refine W.widen (k := 15) (n := 712) (Nat.le_refl _) (Nat.le_refl _) ?_
  rw [← hkd] at hP hD
  obtain ⟨qa, va⟩ := u
  have hP : va_P D sqCl [(o, .inr (3, [.ref a, .ref qa])), (a, eN dH 62 (fun j => lo8 (cz L xs (2 + j)))), (qa, .inr (0, [.ref va, .int 0, .int 0, .int 0])), (va, eB dB (gn kd) (gw kd (fun j => lo8 (cz L xs (2 + j))))), (g, eN dN 62 (fun j => lo8 (cz L xs (2 + j)))), (wa, eN dN (gn kd) (gw kd (fun j => lo8 (cz L xs (2 + j)))))] H := hP
  have hD : va_D A [(o, .inr (3, [.ref a, .ref qa])), (a, eN dH 62 (fun j => lo8 (cz L xs (2 + j)))), (qa, .inr (0, [.ref va, .int 0, .int 0, .int 0])), (va, eB dB (gn kd) (gw kd (fun j => lo8 (cz L xs (2 + j))))), (g, eN dN 62 (fun j => lo8 (cz L xs (2 + j)))), (wa, eN dN (gn kd) (gw kd (fun j => lo8 (cz L xs (2 + j)))))] := hD
  refine lv_astore (lv' := [(4, .ref wa), (0, .ref b), (1, .ref o), (2, .int (cz L xs 0)), (3, .ref g)]) hx hb dL_law_86 hl (by decide) rfl (fun ls hl => ?_)
  refine lv_aload hx hb dL_law_88 (lv_at hl 0 rfl) ?_
  refine lv_ifnonnull (tgt := 95) hx hb dL_law_90 (by decide) ?_
  refine lv_aload_n hx hb dL_law_95 rfl (lv_at hl 1 rfl) ?_
  refine lv_bipush (v := nI 64) hx hb dL_law_96 (by decide) ?_
  refine sq_reti (wc := []) (wr := [(o, .inr (3, [.ref a, .ref qa])), (a, eN dH 62 (fun j => lo8 (cz L xs (2 + j)))), (qa, .inr (0, [.ref va, .int 0, .int 0, .int 0])), (va, eB dB (gn kd) (gw kd (fun j => lo8 (cz L xs (2 + j))))), (g, eN dN 62 (fun j => lo8 (cz L xs (2 + j)))), (wa, eN dN (gn kd) (gw kd (fun j => lo8 (cz L xs (2 + j)))))]) hP hD hS hA [] [0, 1, 2, 3, 4, 5] rfl rfl (by decide) (by decide) (va_runS (As := [.ref b, .int (nI 64)]) (rest := []) ⟨hx, hb, hml, hown, htz⟩ (mt_cell l H.size 64 hL (by decide)) (va_cwS 2 htz (z_S q98 q99 q1 q100) rfl rfl rfl (by decide +kernel) ⟨(Nat.le_of_ble_eq_true rfl), (Nat.le_of_ble_eq_true rfl)⟩) (sq_preS (wc := []) hP hD hK hE hS hA [] rfl (by decide)) rfl rfl hl.1 rfl (lv_room (Nat.le_of_ble_eq_true rfl)) dL_law_98 ⟨(Nat.le_of_ble_eq_true rfl), (Nat.le_of_ble_eq_true rfl)⟩) (fun r u H locs hw hP hD hS => ?_)
  rw [hw]
  have hP : va_P D sqCl [(o, .inr (3, [.ref a, .ref qa])), (a, eN dH 62 (fun j => lo8 (cz L xs (2 + j)))), (qa, .inr (0, [.ref va, .int 0, .int 0, .int 0])), (va, eB dB (gn kd) (gw kd (fun j => lo8 (cz L xs (2 + j))))), (g, eN dN 62 (fun j => lo8 (cz L xs (2 + j)))), (wa, eN dN (gn kd) (gw kd (fun j => lo8 (cz L xs (2 + j)))))] H := hP
  have hD : va_D A [(o, .inr (3, [.ref a, .ref qa])), (a, eN dH 62 (fun j => lo8 (cz L xs (2 + j)))), (qa, .inr (0, [.ref va, .int 0, .int 0, .int 0])), (va, eB dB (gn kd) (gw kd (fun j => lo8 (cz L xs (2 + j))))), (g, eN dN 62 (fun j => lo8 (cz L xs (2 + j)))), (wa, eN dN (gn kd) (gw kd (fun j => lo8 (cz L xs (2 + j)))))] := hD
  refine lv_istore (lv' := [(5, .int (cz L xs 64)), (4, .ref wa), (0, .ref b), (1, .ref o), (2, .int (cz L xs 0)), (3, .ref g)]) hx hb dL_law_101 hl (by decide) rfl (fun ls hl => ?_)
  refine lv_aload_n hx hb dL_law_103 rfl (lv_at hl 2 rfl) ?_
  refine lv_bipush (v := nI 65) hx hb dL_law_104 (by decide) ?_
  refine sq_reti (wc := []) (wr := [(o, .inr (3, [.ref a, .ref qa])), (a, eN dH 62 (fun j => lo8 (cz L xs (2 + j)))), (qa, .inr (0, [.ref va, .int 0, .int 0, .int 0])), (va, eB dB (gn kd) (gw kd (fun j => lo8 (cz L xs (2 + j))))), (g, eN dN 62 (fun j => lo8 (cz L xs (2 + j)))), (wa, eN dN (gn kd) (gw kd (fun j => lo8 (cz L xs (2 + j)))))]) hP hD hS hA [] [0, 1, 2, 3, 4, 5] rfl rfl (by decide) (by decide) (va_runS (As := [.ref b, .int (nI 65)]) (rest := []) ⟨hx, hb, hml, hown, htz⟩ (mt_cell l H.size 65 hL (by decide)) (va_cwS 2 htz (z_S q98 q99 q1 q100) rfl rfl rfl (by decide +kernel) ⟨(Nat.le_of_ble_eq_true rfl), (Nat.le_of_ble_eq_true rfl)⟩) (sq_preS (wc := []) hP hD hK hE hS hA [] rfl (by decide)) rfl rfl hl.1 rfl (lv_room (Nat.le_of_ble_eq_true rfl)) dL_law_106 ⟨(Nat.le_of_ble_eq_true rfl), (Nat.le_of_ble_eq_true rfl)⟩) (fun r u H locs hw hP hD hS => ?_)
  rw [hw]
  have hP : va_P D sqCl [(o, .inr (3, [.ref a, .ref qa])), (a, eN dH 62 (fun j => lo8 (cz L xs (2 + j)))), (qa, .inr (0, [.ref va, .int 0, .int 0, .int 0])), (va, eB dB (gn kd) (gw kd (fun j => lo8 (cz L xs (2 + j))))), (g, eN dN 62 (fun j => lo8 (cz L xs (2 + j)))), (wa, eN dN (gn kd) (gw kd (fun j => lo8 (cz L xs (2 + j)))))] H := hP
  have hD : va_D A [(o, .inr (3, [.ref a, .ref qa])), (a, eN dH 62 (fun j => lo8 (cz L xs (2 + j)))), (qa, .inr (0, [.ref va, .int 0, .int 0, .int 0])), (va, eB dB (gn kd) (gw kd (fun j => lo8 (cz L xs (2 + j))))), (g, eN dN 62 (fun j => lo8 (cz L xs (2 + j)))), (wa, eN dN (gn kd) (gw kd (fun j => lo8 (cz L xs (2 + j)))))] := hD
  refine lv_istore (lv' := [(6, .int (cz L xs 65)), (5, .int (cz L xs 64)), (4, .ref wa), (0, .ref b), (1, .ref o), (2, .int (cz L xs 0)), (3, .ref g)]) hx hb dL_law_109 hl (by decide) rfl (fun ls hl => ?_)
  refine lv_aload_n hx hb dL_law_111 rfl (lv_at hl 4 rfl) ?_
  refine lv_iload hx hb dL_law_112 (lv_at hl 1 rfl) ?_
  refine lv_iload hx hb dL_law_114 (lv_at hl 0 rfl) ?_
  refine sq_retv (wc := [(o, .inr (3, [.ref a, .ref qa])), (a, eN dH 62 (fun j => lo8 (cz L xs (2 + j))))]) (wr := [(qa, .inr (0, [.ref va, .int 0, .int 0, .int 0])), (va, eB dB (gn kd) (gw kd (fun j => lo8 (cz L xs (2 + j))))), (g, eN dN 62 (fun j => lo8 (cz L xs (2 + j)))), (wa, eN dN (gn kd) (gw kd (fun j => lo8 (cz L xs (2 + j)))))]) hP hD hS hA [0, 1] [2, 3, 4, 5] rfl rfl (by decide) (by decide) (va_runV (As := [.int (cz L xs 64), .int (cz L xs 65)]) (rest := []) ⟨hx, hb, hml, hown, htz⟩ (mt_fill l H.size o a qa (cz L xs 64) (cz L xs 65) (fun j => lo8 (cz L xs (2 + j)))) (cwV 2 htz (z_V q42 q43 q44 q2 q45) rfl rfl rfl (by decide +kernel) ⟨(Nat.le_of_ble_eq_true rfl), (Nat.le_of_ble_eq_true rfl)⟩) (sq_preV (wc := [(o, .inr (3, [.ref a, .ref qa])), (a, eN dH 62 (fun j => lo8 (cz L xs (2 + j))))]) (va_recv hK hP (ci := 3) (q0 := 0) rfl rfl) hP hD hK hE hS hA [0, 1] rfl (by decide)) rfl rfl hl.1 rfl (lv_room (Nat.le_of_ble_eq_true rfl)) dL_law_116 ⟨(Nat.le_of_ble_eq_true rfl), (Nat.le_of_ble_eq_true rfl)⟩) (fun u H locs _ hP hD hS => ?_)
  have hP : va_P D sqCl [(qa, .inr (0, [.ref va, .int 0, .int 0, .int 0])), (va, eB dB (gn kd) (gw kd (fun j => lo8 (cz L xs (2 + j))))), (g, eN dN 62 (fun j => lo8 (cz L xs (2 + j)))), (wa, eN dN (gn kd) (gw kd (fun j => lo8 (cz L xs (2 + j))))), (o, .inr (3, [.ref a, .ref qa])), (a, eN dH 62 (fun j => lo8 (cz L xs 64 + cz L xs 65 * nI j)))] H := hP
  have hD : va_D A [(qa, .inr (0, [.ref va, .int 0, .int 0, .int 0])), (va, eB dB (gn kd) (gw kd (fun j => lo8 (cz L xs (2 + j))))), (g, eN dN 62 (fun j => lo8 (cz L xs (2 + j)))), (wa, eN dN (gn kd) (gw kd (fun j => lo8 (cz L xs (2 + j))))), (o, .inr (3, [.ref a, .ref qa])), (a, eN dH 62 (fun j => lo8 (cz L xs 64 + cz L xs 65 * nI j)))] := hD
  refine lv_iconst (v := nI 0) hx hb dL_law_119 (by decide) ?_
  refine lv_istore (lv' := [(7, .int (nI 0)), (6, .int (cz L xs 65)), (5, .int (cz L xs 64)), (4, .ref wa), (0, .ref b), (1, .ref o), (2, .int (cz L xs 0)), (3, .ref g)]) hx hb dL_law_120 hl (by decide) rfl (fun ls hl => ?_)
  obtain ⟨hP, hD⟩ := sq_cg (g := fun j => nI ((zf (cz L xs 64) (cz L xs 65) 0 (fun j => lo8 (cz L xs (2 + j)))) j)) hP hD 2 rfl (fun j hj => congrArg nI (zf_0 _ _ (fun j => lo8 (cz L xs (2 + j))) j))
  have hP : va_P D sqCl [(qa, .inr (0, [.ref va, .int 0, .int 0, .int 0])), (va, eB dB (gn kd) (gw kd (fun j => lo8 (cz L xs (2 + j))))), (g, eN dN 62 (zf (cz L xs 64) (cz L xs 65) 0 (fun j => lo8 (cz L xs (2 + j))))), (wa, eN dN (gn kd) (gw kd (fun j => lo8 (cz L xs (2 + j))))), (o, .inr (3, [.ref a, .ref qa])), (a, eN dH 62 (fun j => lo8 (cz L xs 64 + cz L xs 65 * nI j)))] H := hP
  have hD : va_D A [(qa, .inr (0, [.ref va, .int 0, .int 0, .int 0])), (va, eB dB (gn kd) (gw kd (fun j => lo8 (cz L xs (2 + j))))), (g, eN dN 62 (zf (cz L xs 64) (cz L xs 65) 0 (fun j => lo8 (cz L xs (2 + j))))), (wa, eN dN (gn kd) (gw kd (fun j => lo8 (cz L xs (2 + j))))), (o, .inr (3, [.ref a, .ref qa])), (a, eN dH 62 (fun j => lo8 (cz L xs 64 + cz L xs 65 * nI j)))] := hD
  refine sq_loop (fun (k : Nat) H locs ls => va_P D sqCl [(o, .inr (3, [.ref a, .ref qa])), (a, eN dH 62 (fun j => lo8 (cz L xs 64 + cz L xs 65 * nI j))), (g, eN dN 62 (zf (cz L xs 64) (cz L xs 65) k (fun j => lo8 (cz L xs (2 + j))))), (qa, .inr (0, [.ref va, .int 0, .int 0, .int 0])), (va, eB dB (gn kd) (gw kd (fun j => lo8 (cz L xs (2 + j))))), (wa, eN dN (gn kd) (gw kd (fun j => lo8 (cz L xs (2 + j)))))] H ∧ va_D A [(o, .inr (3, [.ref a, .ref qa])), (a, eN dH 62 (fun j => lo8 (cz L xs 64 + cz L xs 65 * nI j))), (g, eN dN 62 (zf (cz L xs 64) (cz L xs 65) k (fun j => lo8 (cz L xs (2 + j))))), (qa, .inr (0, [.ref va, .int 0, .int 0, .int 0])), (va, eB dB (gn kd) (gw kd (fun j => lo8 (cz L xs (2 + j))))), (wa, eN dN (gn kd) (gw kd (fun j => lo8 (cz L xs (2 + j)))))] ∧ va_S A s.heap H locs ∧ lv_has ls 10 [(0, .ref b), (1, .ref o), (2, .int (cz L xs 0)), (3, .ref g), (4, .ref wa), (5, .int (cz L xs 64)), (6, .int (cz L xs 65)), (7, .int (nI k))]) 62 ?_ 0 _ _ _ (Nat.zero_le _) ⟨hP.sub [4, 5, 2, 0, 1, 3] rfl, hD.sub [4, 5, 2, 0, 1, 3] (by decide) rfl, hS, lv_sub hl [4, 5, 6, 7, 3, 2, 1, 0] rfl⟩
  intro k H locs ls h_k hI ih
  obtain ⟨hP, hD, hS, hl⟩ := hI
  refine lv_iload hx hb dL_law_122 (lv_at hl 7 rfl) ?_
  refine lv_bipush (v := nI 62) hx hb dL_law_124 (by decide) ?_
  refine sq_ge (tgt := 151) hx hb dL_law_126 (by decide) (by omega) (by decide) (fun hc2 => ?_) (fun hc2 => ?_)
  rotate_left
  · skip
    refine lv_aload_n hx hb dL_law_129 rfl (lv_at hl 3 rfl) ?_
    refine lv_iload hx hb dL_law_130 (lv_at hl 7 rfl) ?_
    refine lv_iload hx hb dL_law_132 (lv_at hl 5 rfl) ?_
    refine lv_iload hx hb dL_law_134 (lv_at hl 6 rfl) ?_
    refine lv_iload hx hb dL_law_136 (lv_at hl 7 rfl) ?_
    refine lv_imul hx hb dL_law_138 ?_
    refine lv_iadd hx hb dL_law_139 ?_
    refine lv_sipush (v := nI 255) hx hb dL_law_140 (by decide) ?_
    refine lv_iand hx hb dL_law_143 (sq_top (lo8_e _) ?_)
    refine sq_iast hx hb hK hP hD hS 2 rfl (hc2) (by decide) dL_law_144 (fun H locs hP hD hS => ?_)
    have hP : va_P D sqCl [(o, .inr (3, [.ref a, .ref qa])), (a, eN dH 62 (fun j => lo8 (cz L xs 64 + cz L xs 65 * nI j))), (g, eN dN 62 (va_up (zf (cz L xs 64) (cz L xs 65) k (fun j => lo8 (cz L xs (2 + j)))) k (lo8 (cz L xs 64 + cz L xs 65 * nI k)))), (qa, .inr (0, [.ref va, .int 0, .int 0, .int 0])), (va, eB dB (gn kd) (gw kd (fun j => lo8 (cz L xs (2 + j))))), (wa, eN dN (gn kd) (gw kd (fun j => lo8 (cz L xs (2 + j)))))] H := hP
    have hD : va_D A [(o, .inr (3, [.ref a, .ref qa])), (a, eN dH 62 (fun j => lo8 (cz L xs 64 + cz L xs 65 * nI j))), (g, eN dN 62 (va_up (zf (cz L xs 64) (cz L xs 65) k (fun j => lo8 (cz L xs (2 + j)))) k (lo8 (cz L xs 64 + cz L xs 65 * nI k)))), (qa, .inr (0, [.ref va, .int 0, .int 0, .int 0])), (va, eB dB (gn kd) (gw kd (fun j => lo8 (cz L xs (2 + j))))), (wa, eN dN (gn kd) (gw kd (fun j => lo8 (cz L xs (2 + j)))))] := hD
    obtain ⟨hP, hD⟩ := sq_cg (g := fun j => nI ((zf (cz L xs 64) (cz L xs 65) (k + 1) (fun j => lo8 (cz L xs (2 + j)))) j)) hP hD 2 rfl (fun j hj => congrArg nI (zf_up _ _ k (fun j => lo8 (cz L xs (2 + j))) j))
    have hP : va_P D sqCl [(o, .inr (3, [.ref a, .ref qa])), (a, eN dH 62 (fun j => lo8 (cz L xs 64 + cz L xs 65 * nI j))), (g, eN dN 62 (zf (cz L xs 64) (cz L xs 65) (k + 1) (fun j => lo8 (cz L xs (2 + j))))), (qa, .inr (0, [.ref va, .int 0, .int 0, .int 0])), (va, eB dB (gn kd) (gw kd (fun j => lo8 (cz L xs (2 + j))))), (wa, eN dN (gn kd) (gw kd (fun j => lo8 (cz L xs (2 + j)))))] H := hP
    have hD : va_D A [(o, .inr (3, [.ref a, .ref qa])), (a, eN dH 62 (fun j => lo8 (cz L xs 64 + cz L xs 65 * nI j))), (g, eN dN 62 (zf (cz L xs 64) (cz L xs 65) (k + 1) (fun j => lo8 (cz L xs (2 + j))))), (qa, .inr (0, [.ref va, .int 0, .int 0, .int 0])), (va, eB dB (gn kd) (gw kd (fun j => lo8 (cz L xs (2 + j))))), (wa, eN dN (gn kd) (gw kd (fun j => lo8 (cz L xs (2 + j)))))] := hD
    refine lv_iinc (v := nI (k + 1)) (lv' := [(7, .int (nI (k + 1))), (0, .ref b), (1, .ref o), (2, .int (cz L xs 0)), (3, .ref g), (4, .ref wa), (5, .int (cz L xs 64)), (6, .int (cz L xs 65))]) hx hb dL_law_145 hl (k := 7) rfl (nI_1 k) (by decide) rfl (fun ls hl => ?_)
    refine lv_goto (tgt := 122) hx hb dL_law_148 (by decide) ?_
    exact ih _ _ _ (hc2) ⟨hP.sub [0, 1, 2, 3, 4, 5] rfl, hD.sub [0, 1, 2, 3, 4, 5] (by decide) rfl, hS, lv_sub hl [1, 2, 3, 4, 5, 6, 7, 0] rfl⟩
  obtain ⟨hP, hD⟩ := sq_cg (g := fun j => nI ((fun j => lo8 (cz L xs 64 + cz L xs 65 * nI j)) j)) hP hD 2 rfl (fun j hj => congrArg nI (zf_all _ _ (fun j => lo8 (cz L xs (2 + j))) hc2 j hj))
  have hP : va_P D sqCl [(o, .inr (3, [.ref a, .ref qa])), (a, eN dH 62 (fun j => lo8 (cz L xs 64 + cz L xs 65 * nI j))), (g, eN dN 62 (fun j => lo8 (cz L xs 64 + cz L xs 65 * nI j))), (qa, .inr (0, [.ref va, .int 0, .int 0, .int 0])), (va, eB dB (gn kd) (gw kd (fun j => lo8 (cz L xs (2 + j))))), (wa, eN dN (gn kd) (gw kd (fun j => lo8 (cz L xs (2 + j)))))] H := hP
  have hD : va_D A [(o, .inr (3, [.ref a, .ref qa])), (a, eN dH 62 (fun j => lo8 (cz L xs 64 + cz L xs 65 * nI j))), (g, eN dN 62 (fun j => lo8 (cz L xs 64 + cz L xs 65 * nI j))), (qa, .inr (0, [.ref va, .int 0, .int 0, .int 0])), (va, eB dB (gn kd) (gw kd (fun j => lo8 (cz L xs (2 + j))))), (wa, eN dN (gn kd) (gw kd (fun j => lo8 (cz L xs (2 + j)))))] := hD
  refine lv_bipush (v := nI 66) hx hb dL_law_151 (by decide) ?_
  refine sq_top (y := nI (66 + 2 * 0)) (rfl) ?_
  refine lv_istore (lv' := [(7, .int (nI (66 + 2 * 0))), (0, .ref b), (1, .ref o), (2, .int (cz L xs 0)), (3, .ref g), (4, .ref wa), (5, .int (cz L xs 64)), (6, .int (cz L xs 65))]) hx hb dL_law_153 hl (by decide) rfl (fun ls hl => ?_)
  obtain ⟨hP, hD⟩ := sq_cg (g := fun j => nI ((tl L xs (fun j => lo8 (cz L xs 64 + cz L xs 65 * nI j)) 0) j)) hP hD 1 rfl (fun j hj => congrArg nI (rfl))
  have hP : va_P D sqCl [(o, .inr (3, [.ref a, .ref qa])), (a, eN dH 62 (tl L xs (fun j => lo8 (cz L xs 64 + cz L xs 65 * nI j)) 0)), (g, eN dN 62 (fun j => lo8 (cz L xs 64 + cz L xs 65 * nI j))), (qa, .inr (0, [.ref va, .int 0, .int 0, .int 0])), (va, eB dB (gn kd) (gw kd (fun j => lo8 (cz L xs (2 + j))))), (wa, eN dN (gn kd) (gw kd (fun j => lo8 (cz L xs (2 + j)))))] H := hP
  have hD : va_D A [(o, .inr (3, [.ref a, .ref qa])), (a, eN dH 62 (tl L xs (fun j => lo8 (cz L xs 64 + cz L xs 65 * nI j)) 0)), (g, eN dN 62 (fun j => lo8 (cz L xs 64 + cz L xs 65 * nI j))), (qa, .inr (0, [.ref va, .int 0, .int 0, .int 0])), (va, eB dB (gn kd) (gw kd (fun j => lo8 (cz L xs (2 + j))))), (wa, eN dN (gn kd) (gw kd (fun j => lo8 (cz L xs (2 + j)))))] := hD
  obtain ⟨hP, hD⟩ := sq_cg (g := fun j => nI ((tl L xs (fun j => lo8 (cz L xs 64 + cz L xs 65 * nI j)) 0) j)) hP hD 2 rfl (fun j hj => congrArg nI (rfl))
  have hP : va_P D sqCl [(o, .inr (3, [.ref a, .ref qa])), (a, eN dH 62 (tl L xs (fun j => lo8 (cz L xs 64 + cz L xs 65 * nI j)) 0)), (g, eN dN 62 (tl L xs (fun j => lo8 (cz L xs 64 + cz L xs 65 * nI j)) 0)), (qa, .inr (0, [.ref va, .int 0, .int 0, .int 0])), (va, eB dB (gn kd) (gw kd (fun j => lo8 (cz L xs (2 + j))))), (wa, eN dN (gn kd) (gw kd (fun j => lo8 (cz L xs (2 + j)))))] H := hP
  have hD : va_D A [(o, .inr (3, [.ref a, .ref qa])), (a, eN dH 62 (tl L xs (fun j => lo8 (cz L xs 64 + cz L xs 65 * nI j)) 0)), (g, eN dN 62 (tl L xs (fun j => lo8 (cz L xs 64 + cz L xs 65 * nI j)) 0)), (qa, .inr (0, [.ref va, .int 0, .int 0, .int 0])), (va, eB dB (gn kd) (gw kd (fun j => lo8 (cz L xs (2 + j))))), (wa, eN dN (gn kd) (gw kd (fun j => lo8 (cz L xs (2 + j)))))] := hD
  refine sq_loop (fun (i : Nat) H locs ls => va_P D sqCl [(o, .inr (3, [.ref a, .ref qa])), (a, eN dH 62 (tl L xs (fun j => lo8 (cz L xs 64 + cz L xs 65 * nI j)) i)), (g, eN dN 62 (tl L xs (fun j => lo8 (cz L xs 64 + cz L xs 65 * nI j)) i)), (qa, .inr (0, [.ref va, .int 0, .int 0, .int 0])), (va, eB dB (gn kd) (gw kd (fun j => lo8 (cz L xs (2 + j))))), (wa, eN dN (gn kd) (gw kd (fun j => lo8 (cz L xs (2 + j)))))] H ∧ va_D A [(o, .inr (3, [.ref a, .ref qa])), (a, eN dH 62 (tl L xs (fun j => lo8 (cz L xs 64 + cz L xs 65 * nI j)) i)), (g, eN dN 62 (tl L xs (fun j => lo8 (cz L xs 64 + cz L xs 65 * nI j)) i)), (qa, .inr (0, [.ref va, .int 0, .int 0, .int 0])), (va, eB dB (gn kd) (gw kd (fun j => lo8 (cz L xs (2 + j))))), (wa, eN dN (gn kd) (gw kd (fun j => lo8 (cz L xs (2 + j)))))] ∧ va_S A s.heap H locs ∧ lv_has ls 10 [(0, .ref b), (1, .ref o), (2, .int (cz L xs 0)), (3, .ref g), (4, .ref wa), (5, .int (cz L xs 64)), (6, .int (cz L xs 65)), (7, .int (nI (66 + 2 * i)))]) 15 ?_ 0 _ _ _ (Nat.zero_le _) ⟨hP.sub [0, 1, 2, 3, 4, 5] rfl, hD.sub [0, 1, 2, 3, 4, 5] (by decide) rfl, hS, lv_sub hl [1, 2, 3, 4, 5, 6, 7, 0] rfl⟩
  intro i H locs ls h_i hI ih
  obtain ⟨hP, hD, hS, hl⟩ := hI
  refine lv_iload hx hb dL_law_155 (lv_at hl 7 rfl) ?_
  refine lv_bipush (v := nI 96) hx hb dL_law_157 (by decide) ?_
  refine sq_ge (tgt := 211) hx hb dL_law_159 (by decide) (by omega) (by decide) (fun hc3 => ?_) (fun hc3 => ?_)
  rotate_left
  · skip
    refine lv_aload_n hx hb dL_law_162 rfl (lv_at hl 3 rfl) ?_
    refine lv_aload_n hx hb dL_law_163 rfl (lv_at hl 0 rfl) ?_
    refine lv_iload hx hb dL_law_164 (lv_at hl 7 rfl) ?_
    refine sq_reti (wc := []) (wr := [(o, .inr (3, [.ref a, .ref qa])), (a, eN dH 62 (tl L xs (fun j => lo8 (cz L xs 64 + cz L xs 65 * nI j)) i)), (g, eN dN 62 (tl L xs (fun j => lo8 (cz L xs 64 + cz L xs 65 * nI j)) i)), (qa, .inr (0, [.ref va, .int 0, .int 0, .int 0])), (va, eB dB (gn kd) (gw kd (fun j => lo8 (cz L xs (2 + j))))), (wa, eN dN (gn kd) (gw kd (fun j => lo8 (cz L xs (2 + j)))))]) hP hD hS hA [] [0, 1, 2, 3, 4, 5] rfl rfl (by decide) (by decide) (va_runS (As := [.ref b, .int (nI (66 + 2 * i))]) (rest := [.ref g]) ⟨hx, hb, hml, hown, htz⟩ (mt_cell l H.size (66 + 2 * i) hL (by omega)) (va_cwS 2 htz (z_S q98 q99 q1 q100) rfl rfl rfl (by decide +kernel) ⟨(Nat.le_of_ble_eq_true rfl), (Nat.le_of_ble_eq_true rfl)⟩) (sq_preS (wc := []) hP hD hK hE hS hA [] rfl (by decide)) rfl rfl hl.1 rfl (lv_room (Nat.le_of_ble_eq_true rfl)) dL_law_166 ⟨(Nat.le_of_ble_eq_true rfl), (Nat.le_of_ble_eq_true rfl)⟩) (fun r u H locs hw hP hD hS => ?_)
    rw [hw]
    have hP : va_P D sqCl [(o, .inr (3, [.ref a, .ref qa])), (a, eN dH 62 (tl L xs (fun j => lo8 (cz L xs 64 + cz L xs 65 * nI j)) i)), (g, eN dN 62 (tl L xs (fun j => lo8 (cz L xs 64 + cz L xs 65 * nI j)) i)), (qa, .inr (0, [.ref va, .int 0, .int 0, .int 0])), (va, eB dB (gn kd) (gw kd (fun j => lo8 (cz L xs (2 + j))))), (wa, eN dN (gn kd) (gw kd (fun j => lo8 (cz L xs (2 + j)))))] H := hP
    have hD : va_D A [(o, .inr (3, [.ref a, .ref qa])), (a, eN dH 62 (tl L xs (fun j => lo8 (cz L xs 64 + cz L xs 65 * nI j)) i)), (g, eN dN 62 (tl L xs (fun j => lo8 (cz L xs 64 + cz L xs 65 * nI j)) i)), (qa, .inr (0, [.ref va, .int 0, .int 0, .int 0])), (va, eB dB (gn kd) (gw kd (fun j => lo8 (cz L xs (2 + j))))), (wa, eN dN (gn kd) (gw kd (fun j => lo8 (cz L xs (2 + j)))))] := hD
    refine lv_bipush (v := nI 62) hx hb dL_law_169 (by decide) ?_
    refine sq_reti (wc := []) (wr := [(o, .inr (3, [.ref a, .ref qa])), (a, eN dH 62 (tl L xs (fun j => lo8 (cz L xs 64 + cz L xs 65 * nI j)) i)), (g, eN dN 62 (tl L xs (fun j => lo8 (cz L xs 64 + cz L xs 65 * nI j)) i)), (qa, .inr (0, [.ref va, .int 0, .int 0, .int 0])), (va, eB dB (gn kd) (gw kd (fun j => lo8 (cz L xs (2 + j))))), (wa, eN dN (gn kd) (gw kd (fun j => lo8 (cz L xs (2 + j)))))]) hP hD hS hA [] [0, 1, 2, 3, 4, 5] rfl rfl (by decide) (by decide) (va_runS (As := [.int (cz L xs (66 + 2 * i)), .int (nI 62)]) (rest := [.ref g]) ⟨hx, hb, hml, hown, htz⟩ (mt_rest l H.size (cz L xs (66 + 2 * i)) 62 (by decide) (by decide)) (va_cwS 2 htz (z_S q101 q102 q1 q103) rfl rfl rfl (by decide +kernel) ⟨(Nat.le_of_ble_eq_true rfl), (Nat.le_of_ble_eq_true rfl)⟩) (sq_preS (wc := []) hP hD hK hE hS hA [] rfl (by decide)) rfl rfl hl.1 rfl (lv_room (Nat.le_of_ble_eq_true rfl)) dL_law_171 ⟨(Nat.le_of_ble_eq_true rfl), (Nat.le_of_ble_eq_true rfl)⟩) (fun r u H locs hw hP hD hS => ?_)
    rw [hw]
    have hP : va_P D sqCl [(o, .inr (3, [.ref a, .ref qa])), (a, eN dH 62 (tl L xs (fun j => lo8 (cz L xs 64 + cz L xs 65 * nI j)) i)), (g, eN dN 62 (tl L xs (fun j => lo8 (cz L xs 64 + cz L xs 65 * nI j)) i)), (qa, .inr (0, [.ref va, .int 0, .int 0, .int 0])), (va, eB dB (gn kd) (gw kd (fun j => lo8 (cz L xs (2 + j))))), (wa, eN dN (gn kd) (gw kd (fun j => lo8 (cz L xs (2 + j)))))] H := hP
    have hD : va_D A [(o, .inr (3, [.ref a, .ref qa])), (a, eN dH 62 (tl L xs (fun j => lo8 (cz L xs 64 + cz L xs 65 * nI j)) i)), (g, eN dN 62 (tl L xs (fun j => lo8 (cz L xs 64 + cz L xs 65 * nI j)) i)), (qa, .inr (0, [.ref va, .int 0, .int 0, .int 0])), (va, eB dB (gn kd) (gw kd (fun j => lo8 (cz L xs (2 + j))))), (wa, eN dN (gn kd) (gw kd (fun j => lo8 (cz L xs (2 + j)))))] := hD
    refine lv_aload_n hx hb dL_law_174 rfl (lv_at hl 0 rfl) ?_
    refine lv_iload hx hb dL_law_175 (lv_at hl 7 rfl) ?_
    refine lv_iconst (v := nI 1) hx hb dL_law_177 (by decide) ?_
    refine sq_iadd hx hb dL_law_178 ?_
    refine sq_reti (wc := []) (wr := [(o, .inr (3, [.ref a, .ref qa])), (a, eN dH 62 (tl L xs (fun j => lo8 (cz L xs 64 + cz L xs 65 * nI j)) i)), (g, eN dN 62 (tl L xs (fun j => lo8 (cz L xs 64 + cz L xs 65 * nI j)) i)), (qa, .inr (0, [.ref va, .int 0, .int 0, .int 0])), (va, eB dB (gn kd) (gw kd (fun j => lo8 (cz L xs (2 + j))))), (wa, eN dN (gn kd) (gw kd (fun j => lo8 (cz L xs (2 + j)))))]) hP hD hS hA [] [0, 1, 2, 3, 4, 5] rfl rfl (by decide) (by decide) (va_runS (As := [.ref b, .int (nI ((66 + 2 * i) + 1))]) (rest := [.int (nI (ps (cz L xs (66 + 2 * i)) % 62)), .ref g]) ⟨hx, hb, hml, hown, htz⟩ (mt_cell l H.size (66 + 2 * i + 1) hL (by omega)) (va_cwS 2 htz (z_S q98 q99 q1 q100) rfl rfl rfl (by decide +kernel) ⟨(Nat.le_of_ble_eq_true rfl), (Nat.le_of_ble_eq_true rfl)⟩) (sq_preS (wc := []) hP hD hK hE hS hA [] rfl (by decide)) rfl rfl hl.1 rfl (lv_room (Nat.le_of_ble_eq_true rfl)) dL_law_179 ⟨(Nat.le_of_ble_eq_true rfl), (Nat.le_of_ble_eq_true rfl)⟩) (fun r u H locs hw hP hD hS => ?_)
    rw [hw]
    have hP : va_P D sqCl [(o, .inr (3, [.ref a, .ref qa])), (a, eN dH 62 (tl L xs (fun j => lo8 (cz L xs 64 + cz L xs 65 * nI j)) i)), (g, eN dN 62 (tl L xs (fun j => lo8 (cz L xs 64 + cz L xs 65 * nI j)) i)), (qa, .inr (0, [.ref va, .int 0, .int 0, .int 0])), (va, eB dB (gn kd) (gw kd (fun j => lo8 (cz L xs (2 + j))))), (wa, eN dN (gn kd) (gw kd (fun j => lo8 (cz L xs (2 + j)))))] H := hP
    have hD : va_D A [(o, .inr (3, [.ref a, .ref qa])), (a, eN dH 62 (tl L xs (fun j => lo8 (cz L xs 64 + cz L xs 65 * nI j)) i)), (g, eN dN 62 (tl L xs (fun j => lo8 (cz L xs 64 + cz L xs 65 * nI j)) i)), (qa, .inr (0, [.ref va, .int 0, .int 0, .int 0])), (va, eB dB (gn kd) (gw kd (fun j => lo8 (cz L xs (2 + j))))), (wa, eN dN (gn kd) (gw kd (fun j => lo8 (cz L xs (2 + j)))))] := hD
    refine lv_sipush (v := nI 255) hx hb dL_law_182 (by decide) ?_
    refine lv_iand hx hb dL_law_185 (sq_top (lo8_e _) ?_)
    refine sq_iast hx hb hK hP hD hS 2 rfl (Nat.mod_lt _ (by decide)) (by decide) dL_law_186 (fun H locs hP hD hS => ?_)
    have hP : va_P D sqCl [(o, .inr (3, [.ref a, .ref qa])), (a, eN dH 62 (tl L xs (fun j => lo8 (cz L xs 64 + cz L xs 65 * nI j)) i)), (g, eN dN 62 (va_up (tl L xs (fun j => lo8 (cz L xs 64 + cz L xs 65 * nI j)) i) (ps (cz L xs (66 + 2 * i)) % 62) (lo8 (cz L xs (66 + 2 * i + 1))))), (qa, .inr (0, [.ref va, .int 0, .int 0, .int 0])), (va, eB dB (gn kd) (gw kd (fun j => lo8 (cz L xs (2 + j))))), (wa, eN dN (gn kd) (gw kd (fun j => lo8 (cz L xs (2 + j)))))] H := hP
    have hD : va_D A [(o, .inr (3, [.ref a, .ref qa])), (a, eN dH 62 (tl L xs (fun j => lo8 (cz L xs 64 + cz L xs 65 * nI j)) i)), (g, eN dN 62 (va_up (tl L xs (fun j => lo8 (cz L xs 64 + cz L xs 65 * nI j)) i) (ps (cz L xs (66 + 2 * i)) % 62) (lo8 (cz L xs (66 + 2 * i + 1))))), (qa, .inr (0, [.ref va, .int 0, .int 0, .int 0])), (va, eB dB (gn kd) (gw kd (fun j => lo8 (cz L xs (2 + j))))), (wa, eN dN (gn kd) (gw kd (fun j => lo8 (cz L xs (2 + j)))))] := hD
    obtain ⟨hP, hD⟩ := sq_cg (g := fun j => nI ((tl L xs (fun j => lo8 (cz L xs 64 + cz L xs 65 * nI j)) (i + 1)) j)) hP hD 2 rfl (fun j hj => congrArg nI (rfl))
    have hP : va_P D sqCl [(o, .inr (3, [.ref a, .ref qa])), (a, eN dH 62 (tl L xs (fun j => lo8 (cz L xs 64 + cz L xs 65 * nI j)) i)), (g, eN dN 62 (tl L xs (fun j => lo8 (cz L xs 64 + cz L xs 65 * nI j)) (i + 1))), (qa, .inr (0, [.ref va, .int 0, .int 0, .int 0])), (va, eB dB (gn kd) (gw kd (fun j => lo8 (cz L xs (2 + j))))), (wa, eN dN (gn kd) (gw kd (fun j => lo8 (cz L xs (2 + j)))))] H := hP
    have hD : va_D A [(o, .inr (3, [.ref a, .ref qa])), (a, eN dH 62 (tl L xs (fun j => lo8 (cz L xs 64 + cz L xs 65 * nI j)) i)), (g, eN dN 62 (tl L xs (fun j => lo8 (cz L xs 64 + cz L xs 65 * nI j)) (i + 1))), (qa, .inr (0, [.ref va, .int 0, .int 0, .int 0])), (va, eB dB (gn kd) (gw kd (fun j => lo8 (cz L xs (2 + j))))), (wa, eN dN (gn kd) (gw kd (fun j => lo8 (cz L xs (2 + j)))))] := hD
    refine lv_aload_n hx hb dL_law_187 rfl (lv_at hl 1 rfl) ?_
    refine lv_aload_n hx hb dL_law_188 rfl (lv_at hl 0 rfl) ?_
    refine lv_iload hx hb dL_law_189 (lv_at hl 7 rfl) ?_
    refine sq_reti (wc := []) (wr := [(o, .inr (3, [.ref a, .ref qa])), (a, eN dH 62 (tl L xs (fun j => lo8 (cz L xs 64 + cz L xs 65 * nI j)) i)), (g, eN dN 62 (tl L xs (fun j => lo8 (cz L xs 64 + cz L xs 65 * nI j)) (i + 1))), (qa, .inr (0, [.ref va, .int 0, .int 0, .int 0])), (va, eB dB (gn kd) (gw kd (fun j => lo8 (cz L xs (2 + j))))), (wa, eN dN (gn kd) (gw kd (fun j => lo8 (cz L xs (2 + j)))))]) hP hD hS hA [] [0, 1, 2, 3, 4, 5] rfl rfl (by decide) (by decide) (va_runS (As := [.ref b, .int (nI (66 + 2 * i))]) (rest := [.ref o]) ⟨hx, hb, hml, hown, htz⟩ (mt_cell l H.size (66 + 2 * i) hL (by omega)) (va_cwS 2 htz (z_S q98 q99 q1 q100) rfl rfl rfl (by decide +kernel) ⟨(Nat.le_of_ble_eq_true rfl), (Nat.le_of_ble_eq_true rfl)⟩) (sq_preS (wc := []) hP hD hK hE hS hA [] rfl (by decide)) rfl rfl hl.1 rfl (lv_room (Nat.le_of_ble_eq_true rfl)) dL_law_191 ⟨(Nat.le_of_ble_eq_true rfl), (Nat.le_of_ble_eq_true rfl)⟩) (fun r u H locs hw hP hD hS => ?_)
    rw [hw]
    have hP : va_P D sqCl [(o, .inr (3, [.ref a, .ref qa])), (a, eN dH 62 (tl L xs (fun j => lo8 (cz L xs 64 + cz L xs 65 * nI j)) i)), (g, eN dN 62 (tl L xs (fun j => lo8 (cz L xs 64 + cz L xs 65 * nI j)) (i + 1))), (qa, .inr (0, [.ref va, .int 0, .int 0, .int 0])), (va, eB dB (gn kd) (gw kd (fun j => lo8 (cz L xs (2 + j))))), (wa, eN dN (gn kd) (gw kd (fun j => lo8 (cz L xs (2 + j)))))] H := hP
    have hD : va_D A [(o, .inr (3, [.ref a, .ref qa])), (a, eN dH 62 (tl L xs (fun j => lo8 (cz L xs 64 + cz L xs 65 * nI j)) i)), (g, eN dN 62 (tl L xs (fun j => lo8 (cz L xs 64 + cz L xs 65 * nI j)) (i + 1))), (qa, .inr (0, [.ref va, .int 0, .int 0, .int 0])), (va, eB dB (gn kd) (gw kd (fun j => lo8 (cz L xs (2 + j))))), (wa, eN dN (gn kd) (gw kd (fun j => lo8 (cz L xs (2 + j)))))] := hD
    refine lv_aload_n hx hb dL_law_194 rfl (lv_at hl 0 rfl) ?_
    refine lv_iload hx hb dL_law_195 (lv_at hl 7 rfl) ?_
    refine lv_iconst (v := nI 1) hx hb dL_law_197 (by decide) ?_
    refine sq_iadd hx hb dL_law_198 ?_
    refine sq_reti (wc := []) (wr := [(o, .inr (3, [.ref a, .ref qa])), (a, eN dH 62 (tl L xs (fun j => lo8 (cz L xs 64 + cz L xs 65 * nI j)) i)), (g, eN dN 62 (tl L xs (fun j => lo8 (cz L xs 64 + cz L xs 65 * nI j)) (i + 1))), (qa, .inr (0, [.ref va, .int 0, .int 0, .int 0])), (va, eB dB (gn kd) (gw kd (fun j => lo8 (cz L xs (2 + j))))), (wa, eN dN (gn kd) (gw kd (fun j => lo8 (cz L xs (2 + j)))))]) hP hD hS hA [] [0, 1, 2, 3, 4, 5] rfl rfl (by decide) (by decide) (va_runS (As := [.ref b, .int (nI ((66 + 2 * i) + 1))]) (rest := [.int (cz L xs (66 + 2 * i)), .ref o]) ⟨hx, hb, hml, hown, htz⟩ (mt_cell l H.size (66 + 2 * i + 1) hL (by omega)) (va_cwS 2 htz (z_S q98 q99 q1 q100) rfl rfl rfl (by decide +kernel) ⟨(Nat.le_of_ble_eq_true rfl), (Nat.le_of_ble_eq_true rfl)⟩) (sq_preS (wc := []) hP hD hK hE hS hA [] rfl (by decide)) rfl rfl hl.1 rfl (lv_room (Nat.le_of_ble_eq_true rfl)) dL_law_199 ⟨(Nat.le_of_ble_eq_true rfl), (Nat.le_of_ble_eq_true rfl)⟩) (fun r u H locs hw hP hD hS => ?_)
    rw [hw]
    have hP : va_P D sqCl [(o, .inr (3, [.ref a, .ref qa])), (a, eN dH 62 (tl L xs (fun j => lo8 (cz L xs 64 + cz L xs 65 * nI j)) i)), (g, eN dN 62 (tl L xs (fun j => lo8 (cz L xs 64 + cz L xs 65 * nI j)) (i + 1))), (qa, .inr (0, [.ref va, .int 0, .int 0, .int 0])), (va, eB dB (gn kd) (gw kd (fun j => lo8 (cz L xs (2 + j))))), (wa, eN dN (gn kd) (gw kd (fun j => lo8 (cz L xs (2 + j)))))] H := hP
    have hD : va_D A [(o, .inr (3, [.ref a, .ref qa])), (a, eN dH 62 (tl L xs (fun j => lo8 (cz L xs 64 + cz L xs 65 * nI j)) i)), (g, eN dN 62 (tl L xs (fun j => lo8 (cz L xs 64 + cz L xs 65 * nI j)) (i + 1))), (qa, .inr (0, [.ref va, .int 0, .int 0, .int 0])), (va, eB dB (gn kd) (gw kd (fun j => lo8 (cz L xs (2 + j))))), (wa, eN dN (gn kd) (gw kd (fun j => lo8 (cz L xs (2 + j)))))] := hD
    refine sq_retv (wc := [(o, .inr (3, [.ref a, .ref qa])), (a, eN dH 62 (tl L xs (fun j => lo8 (cz L xs 64 + cz L xs 65 * nI j)) i))]) (wr := [(g, eN dN 62 (tl L xs (fun j => lo8 (cz L xs 64 + cz L xs 65 * nI j)) (i + 1))), (qa, .inr (0, [.ref va, .int 0, .int 0, .int 0])), (va, eB dB (gn kd) (gw kd (fun j => lo8 (cz L xs (2 + j))))), (wa, eN dN (gn kd) (gw kd (fun j => lo8 (cz L xs (2 + j)))))]) hP hD hS hA [0, 1] [2, 3, 4, 5] rfl rfl (by decide) (by decide) (va_runV (As := [.int (cz L xs (66 + 2 * i)), .int (cz L xs (66 + 2 * i + 1))]) (rest := []) ⟨hx, hb, hml, hown, htz⟩ (mt_letter l H.size o a qa (cz L xs (66 + 2 * i)) (cz L xs (66 + 2 * i + 1)) (tl L xs (fun j => lo8 (cz L xs 64 + cz L xs 65 * nI j)) i)) (cwV 2 htz (z_V q37 q38 q39 q2 q40) rfl rfl rfl (by decide +kernel) ⟨(Nat.le_of_ble_eq_true rfl), (Nat.le_of_ble_eq_true rfl)⟩) (sq_preV (wc := [(o, .inr (3, [.ref a, .ref qa])), (a, eN dH 62 (tl L xs (fun j => lo8 (cz L xs 64 + cz L xs 65 * nI j)) i))]) (va_recv hK hP (ci := 3) (q0 := 0) rfl rfl) hP hD hK hE hS hA [0, 1] rfl (by decide)) rfl rfl hl.1 rfl (lv_room (Nat.le_of_ble_eq_true rfl)) dL_law_202 ⟨(Nat.le_of_ble_eq_true rfl), (Nat.le_of_ble_eq_true rfl)⟩) (fun u H locs _ hP hD hS => ?_)
    have hP : va_P D sqCl [(g, eN dN 62 (tl L xs (fun j => lo8 (cz L xs 64 + cz L xs 65 * nI j)) (i + 1))), (qa, .inr (0, [.ref va, .int 0, .int 0, .int 0])), (va, eB dB (gn kd) (gw kd (fun j => lo8 (cz L xs (2 + j))))), (wa, eN dN (gn kd) (gw kd (fun j => lo8 (cz L xs (2 + j))))), (o, .inr (3, [.ref a, .ref qa])), (a, eN dH 62 (va_up (tl L xs (fun j => lo8 (cz L xs 64 + cz L xs 65 * nI j)) i) (ps (cz L xs (66 + 2 * i)) % 62) (lo8 (cz L xs (66 + 2 * i + 1)))))] H := hP
    have hD : va_D A [(g, eN dN 62 (tl L xs (fun j => lo8 (cz L xs 64 + cz L xs 65 * nI j)) (i + 1))), (qa, .inr (0, [.ref va, .int 0, .int 0, .int 0])), (va, eB dB (gn kd) (gw kd (fun j => lo8 (cz L xs (2 + j))))), (wa, eN dN (gn kd) (gw kd (fun j => lo8 (cz L xs (2 + j))))), (o, .inr (3, [.ref a, .ref qa])), (a, eN dH 62 (va_up (tl L xs (fun j => lo8 (cz L xs 64 + cz L xs 65 * nI j)) i) (ps (cz L xs (66 + 2 * i)) % 62) (lo8 (cz L xs (66 + 2 * i + 1)))))] := hD
    obtain ⟨hP, hD⟩ := sq_cg (g := fun j => nI ((tl L xs (fun j => lo8 (cz L xs 64 + cz L xs 65 * nI j)) (i + 1)) j)) hP hD 5 rfl (fun j hj => congrArg nI (rfl))
    have hP : va_P D sqCl [(g, eN dN 62 (tl L xs (fun j => lo8 (cz L xs 64 + cz L xs 65 * nI j)) (i + 1))), (qa, .inr (0, [.ref va, .int 0, .int 0, .int 0])), (va, eB dB (gn kd) (gw kd (fun j => lo8 (cz L xs (2 + j))))), (wa, eN dN (gn kd) (gw kd (fun j => lo8 (cz L xs (2 + j))))), (o, .inr (3, [.ref a, .ref qa])), (a, eN dH 62 (tl L xs (fun j => lo8 (cz L xs 64 + cz L xs 65 * nI j)) (i + 1)))] H := hP
    have hD : va_D A [(g, eN dN 62 (tl L xs (fun j => lo8 (cz L xs 64 + cz L xs 65 * nI j)) (i + 1))), (qa, .inr (0, [.ref va, .int 0, .int 0, .int 0])), (va, eB dB (gn kd) (gw kd (fun j => lo8 (cz L xs (2 + j))))), (wa, eN dN (gn kd) (gw kd (fun j => lo8 (cz L xs (2 + j))))), (o, .inr (3, [.ref a, .ref qa])), (a, eN dH 62 (tl L xs (fun j => lo8 (cz L xs 64 + cz L xs 65 * nI j)) (i + 1)))] := hD
    refine lv_iinc (v := nI (66 + 2 * (i + 1))) (lv' := [(7, .int (nI (66 + 2 * (i + 1)))), (0, .ref b), (1, .ref o), (2, .int (cz L xs 0)), (3, .ref g), (4, .ref wa), (5, .int (cz L xs 64)), (6, .int (cz L xs 65))]) hx hb dL_law_205 hl (k := 7) rfl ((nI_add (66 + 2 * i) 2).trans (congrArg nI (by omega))) (by decide) rfl (fun ls hl => ?_)
    refine lv_goto (tgt := 155) hx hb dL_law_208 (by decide) ?_
    exact ih _ _ _ (by omega) ⟨hP.sub [4, 5, 0, 1, 2, 3] rfl, hD.sub [4, 5, 0, 1, 2, 3] (by decide) rfl, hS, lv_sub hl [1, 2, 3, 4, 5, 6, 7, 0] rfl⟩
  have hi15 : i = 15 := by omega
  rw [hi15] at hP hD
  have hP : va_P D sqCl [(o, .inr (3, [.ref a, .ref qa])), (a, eN dH 62 (tl L xs (fun j => lo8 (cz L xs 64 + cz L xs 65 * nI j)) 15)), (g, eN dN 62 (tl L xs (fun j => lo8 (cz L xs 64 + cz L xs 65 * nI j)) 15)), (qa, .inr (0, [.ref va, .int 0, .int 0, .int 0])), (va, eB dB (gn kd) (gw kd (fun j => lo8 (cz L xs (2 + j))))), (wa, eN dN (gn kd) (gw kd (fun j => lo8 (cz L xs (2 + j)))))] H := hP
  have hD : va_D A [(o, .inr (3, [.ref a, .ref qa])), (a, eN dH 62 (tl L xs (fun j => lo8 (cz L xs 64 + cz L xs 65 * nI j)) 15)), (g, eN dN 62 (tl L xs (fun j => lo8 (cz L xs 64 + cz L xs 65 * nI j)) 15)), (qa, .inr (0, [.ref va, .int 0, .int 0, .int 0])), (va, eB dB (gn kd) (gw kd (fun j => lo8 (cz L xs (2 + j))))), (wa, eN dN (gn kd) (gw kd (fun j => lo8 (cz L xs (2 + j)))))] := hD
  have hT2 : ∀ j, tl L xs (fun j => lo8 (cz L xs 64 + cz L xs 65 * nI j)) 15 j < 256 := tl_lt (fun j => lo8_lt _) 15
  have hW1 := gw_lt (k := kd) (t := fun j => lo8 (cz L xs (2 + j))) (fun j => lo8_lt _)
  refine lv_aload_n hx hb dL_law_211 rfl (lv_at hl 1 rfl) ?_
  refine lv_aload hx hb dL_law_212 (lv_at hl 4 rfl) ?_
  refine lv_aload_n hx hb dL_law_214 rfl (lv_at hl 0 rfl) ?_
  refine lv_iconst (v := nI 1) hx hb dL_law_215 (by decide) ?_
  refine sq_reti (wc := []) (wr := [(o, .inr (3, [.ref a, .ref qa])), (a, eN dH 62 (tl L xs (fun j => lo8 (cz L xs 64 + cz L xs 65 * nI j)) 15)), (g, eN dN 62 (tl L xs (fun j => lo8 (cz L xs 64 + cz L xs 65 * nI j)) 15)), (qa, .inr (0, [.ref va, .int 0, .int 0, .int 0])), (va, eB dB (gn kd) (gw kd (fun j => lo8 (cz L xs (2 + j))))), (wa, eN dN (gn kd) (gw kd (fun j => lo8 (cz L xs (2 + j)))))]) hP hD hS hA [] [0, 1, 2, 3, 4, 5] rfl rfl (by decide) (by decide) (va_runS (As := [.ref b, .int (nI 1)]) (rest := [.ref wa, .ref o]) ⟨hx, hb, hml, hown, htz⟩ (mt_cell l H.size 1 hL (by decide)) (va_cwS 2 htz (z_S q98 q99 q1 q100) rfl rfl rfl (by decide +kernel) ⟨(Nat.le_of_ble_eq_true rfl), (Nat.le_of_ble_eq_true rfl)⟩) (sq_preS (wc := []) hP hD hK hE hS hA [] rfl (by decide)) rfl rfl hl.1 rfl (lv_room (Nat.le_of_ble_eq_true rfl)) dL_law_216 ⟨(Nat.le_of_ble_eq_true rfl), (Nat.le_of_ble_eq_true rfl)⟩) (fun r u H locs hw hP hD hS => ?_)
  rw [hw]
  have hP : va_P D sqCl [(o, .inr (3, [.ref a, .ref qa])), (a, eN dH 62 (tl L xs (fun j => lo8 (cz L xs 64 + cz L xs 65 * nI j)) 15)), (g, eN dN 62 (tl L xs (fun j => lo8 (cz L xs 64 + cz L xs 65 * nI j)) 15)), (qa, .inr (0, [.ref va, .int 0, .int 0, .int 0])), (va, eB dB (gn kd) (gw kd (fun j => lo8 (cz L xs (2 + j))))), (wa, eN dN (gn kd) (gw kd (fun j => lo8 (cz L xs (2 + j)))))] H := hP
  have hD : va_D A [(o, .inr (3, [.ref a, .ref qa])), (a, eN dH 62 (tl L xs (fun j => lo8 (cz L xs 64 + cz L xs 65 * nI j)) 15)), (g, eN dN 62 (tl L xs (fun j => lo8 (cz L xs 64 + cz L xs 65 * nI j)) 15)), (qa, .inr (0, [.ref va, .int 0, .int 0, .int 0])), (va, eB dB (gn kd) (gw kd (fun j => lo8 (cz L xs (2 + j))))), (wa, eN dN (gn kd) (gw kd (fun j => lo8 (cz L xs (2 + j)))))] := hD
  refine sq_reti (wc := [(o, .inr (3, [.ref a, .ref qa])), (qa, .inr (0, [.ref va, .int 0, .int 0, .int 0])), (va, eB dB (gn kd) (gw kd (fun j => lo8 (cz L xs (2 + j))))), (wa, eN dN (gn kd) (gw kd (fun j => lo8 (cz L xs (2 + j)))))]) (wr := [(a, eN dH 62 (tl L xs (fun j => lo8 (cz L xs 64 + cz L xs 65 * nI j)) 15)), (g, eN dN 62 (tl L xs (fun j => lo8 (cz L xs 64 + cz L xs 65 * nI j)) 15))]) hP hD hS hA [0, 3, 4, 5] [1, 2] rfl rfl (by decide) (by decide) (va_runS (As := [.ref o, .ref wa, .int (cz L xs 1)]) (rest := []) ⟨hx, hb, hml, hown, htz⟩ (mt_stays l H.size o a qa va wa (gn kd) (cz L xs 1) (gw kd (fun j => lo8 (cz L xs (2 + j)))) (by omega) (by omega) hW1) (va_cwS 3 htz (z_S q554 q555 q1 q556) rfl rfl rfl (by decide +kernel) ⟨(Nat.le_of_ble_eq_true rfl), (Nat.le_of_ble_eq_true rfl)⟩) (sq_preS (wc := [(o, .inr (3, [.ref a, .ref qa])), (qa, .inr (0, [.ref va, .int 0, .int 0, .int 0])), (va, eB dB (gn kd) (gw kd (fun j => lo8 (cz L xs (2 + j))))), (wa, eN dN (gn kd) (gw kd (fun j => lo8 (cz L xs (2 + j)))))]) hP hD hK hE hS hA [0, 3, 4, 5] rfl (by decide)) rfl rfl hl.1 rfl (lv_room (Nat.le_of_ble_eq_true rfl)) dL_law_219 ⟨(Nat.le_of_ble_eq_true rfl), (Nat.le_of_ble_eq_true rfl)⟩) (fun r u H locs hw hP hD hS => ?_)
  rw [hw]
  have hP : va_P D sqCl [(a, eN dH 62 (tl L xs (fun j => lo8 (cz L xs 64 + cz L xs 65 * nI j)) 15)), (g, eN dN 62 (tl L xs (fun j => lo8 (cz L xs 64 + cz L xs 65 * nI j)) 15)), (o, .inr (3, [.ref a, .ref qa])), (qa, .inr (0, [.ref va, .int 0, .int 0, .int 0])), (va, eB dB (gn kd) (gw kd (fun j => lo8 (cz L xs (2 + j))))), (wa, eN dN (gn kd) (gw kd (fun j => lo8 (cz L xs (2 + j)))))] H := hP
  have hD : va_D A [(a, eN dH 62 (tl L xs (fun j => lo8 (cz L xs 64 + cz L xs 65 * nI j)) 15)), (g, eN dN 62 (tl L xs (fun j => lo8 (cz L xs 64 + cz L xs 65 * nI j)) 15)), (o, .inr (3, [.ref a, .ref qa])), (qa, .inr (0, [.ref va, .int 0, .int 0, .int 0])), (va, eB dB (gn kd) (gw kd (fun j => lo8 (cz L xs (2 + j))))), (wa, eN dN (gn kd) (gw kd (fun j => lo8 (cz L xs (2 + j)))))] := hD
  refine sq_if_ne (tgt := 227) hx hb dL_law_222 (by decide) (by decide) (fun hc => ?_) (fun hc => absurd hc (by decide))
  refine lv_aload_n hx hb dL_law_227 rfl (lv_at hl 1 rfl) ?_
  refine lv_aload_n hx hb dL_law_228 rfl (lv_at hl 3 rfl) ?_
  refine lv_iload_n hx hb dL_law_229 rfl (lv_at hl 2 rfl) ?_
  refine sq_retr (wc := [(o, .inr (3, [.ref a, .ref qa])), (a, eN dH 62 (tl L xs (fun j => lo8 (cz L xs 64 + cz L xs 65 * nI j)) 15)), (g, eN dN 62 (tl L xs (fun j => lo8 (cz L xs 64 + cz L xs 65 * nI j)) 15))]) (wr := [(qa, .inr (0, [.ref va, .int 0, .int 0, .int 0])), (va, eB dB (gn kd) (gw kd (fun j => lo8 (cz L xs (2 + j))))), (wa, eN dN (gn kd) (gw kd (fun j => lo8 (cz L xs (2 + j)))))]) hP hD hS hA [2, 0, 1] [3, 4, 5] rfl rfl (by decide) (by decide) (va_runS (As := [.ref o, .ref g, .int (cz L xs 0)]) (rest := []) ⟨hx, hb, hml, hown, htz⟩ (mt_written l H.size o a qa g (cz L xs 0) (tl L xs (fun j => lo8 (cz L xs 64 + cz L xs 65 * nI j)) 15) hT2) (va_cwS 3 htz (z_S q105 q106 q1 q107) rfl rfl rfl (by decide +kernel) ⟨(Nat.le_of_ble_eq_true rfl), (Nat.le_of_ble_eq_true rfl)⟩) (sq_preS (wc := [(o, .inr (3, [.ref a, .ref qa])), (a, eN dH 62 (tl L xs (fun j => lo8 (cz L xs 64 + cz L xs 65 * nI j)) 15)), (g, eN dN 62 (tl L xs (fun j => lo8 (cz L xs 64 + cz L xs 65 * nI j)) 15))]) hP hD hK hE hS hA [2, 0, 1] rfl (by decide)) rfl rfl hl.1 rfl (lv_room (Nat.le_of_ble_eq_true rfl)) dL_law_230 ⟨(Nat.le_of_ble_eq_true rfl), (Nat.le_of_ble_eq_true rfl)⟩) (fun u wb H locs _ hP hD hS => ?_)
  refine W.widen (k := 27) (n := 1298) (Nat.le_refl _) (Nat.le_refl _) ?_
  rw [← hkd] at hP hD
  obtain ⟨qb, vb⟩ := u
  have hP : va_P D sqCl [(qa, .inr (0, [.ref va, .int 0, .int 0, .int 0])), (va, eB dB (gn kd) (gw kd (fun j => lo8 (cz L xs (2 + j))))), (wa, eN dN (gn kd) (gw kd (fun j => lo8 (cz L xs (2 + j))))), (o, .inr (3, [.ref a, .ref qb])), (a, eN dH 62 (tl L xs (fun j => lo8 (cz L xs 64 + cz L xs 65 * nI j)) 15)), (qb, .inr (0, [.ref vb, .int 0, .int 0, .int 0])), (vb, eB dB (gn kd) (gw kd (tl L xs (fun j => lo8 (cz L xs 64 + cz L xs 65 * nI j)) 15))), (g, eN dN 62 (tl L xs (fun j => lo8 (cz L xs 64 + cz L xs 65 * nI j)) 15)), (wb, eN dN (gn kd) (gw kd (tl L xs (fun j => lo8 (cz L xs 64 + cz L xs 65 * nI j)) 15)))] H := hP
  have hD : va_D A [(qa, .inr (0, [.ref va, .int 0, .int 0, .int 0])), (va, eB dB (gn kd) (gw kd (fun j => lo8 (cz L xs (2 + j))))), (wa, eN dN (gn kd) (gw kd (fun j => lo8 (cz L xs (2 + j))))), (o, .inr (3, [.ref a, .ref qb])), (a, eN dH 62 (tl L xs (fun j => lo8 (cz L xs 64 + cz L xs 65 * nI j)) 15)), (qb, .inr (0, [.ref vb, .int 0, .int 0, .int 0])), (vb, eB dB (gn kd) (gw kd (tl L xs (fun j => lo8 (cz L xs 64 + cz L xs 65 * nI j)) 15))), (g, eN dN 62 (tl L xs (fun j => lo8 (cz L xs 64 + cz L xs 65 * nI j)) 15)), (wb, eN dN (gn kd) (gw kd (tl L xs (fun j => lo8 (cz L xs 64 + cz L xs 65 * nI j)) 15)))] := hD
  refine lv_astore (lv' := [(7, .ref wb), (0, .ref b), (1, .ref o), (2, .int (cz L xs 0)), (3, .ref g), (4, .ref wa), (5, .int (cz L xs 64)), (6, .int (cz L xs 65))]) hx hb dL_law_233 hl (by decide) rfl (fun ls hl => ?_)
  refine lv_aload hx hb dL_law_235 (lv_at hl 0 rfl) ?_
  refine lv_ifnull hx hb dL_law_237 ?_
  have hW2 := gw_lt (k := kd) hT2
  refine lv_aload_n hx hb dL_law_240 rfl (lv_at hl 2 rfl) ?_
  refine lv_aload hx hb dL_law_241 (lv_at hl 0 rfl) ?_
  refine lv_aload_n hx hb dL_law_243 rfl (lv_at hl 1 rfl) ?_
  refine lv_iconst (v := nI 1) hx hb dL_law_244 (by decide) ?_
  refine sq_reti (wc := []) (wr := [(qa, .inr (0, [.ref va, .int 0, .int 0, .int 0])), (va, eB dB (gn kd) (gw kd (fun j => lo8 (cz L xs (2 + j))))), (wa, eN dN (gn kd) (gw kd (fun j => lo8 (cz L xs (2 + j))))), (o, .inr (3, [.ref a, .ref qb])), (a, eN dH 62 (tl L xs (fun j => lo8 (cz L xs 64 + cz L xs 65 * nI j)) 15)), (qb, .inr (0, [.ref vb, .int 0, .int 0, .int 0])), (vb, eB dB (gn kd) (gw kd (tl L xs (fun j => lo8 (cz L xs 64 + cz L xs 65 * nI j)) 15))), (g, eN dN 62 (tl L xs (fun j => lo8 (cz L xs 64 + cz L xs 65 * nI j)) 15)), (wb, eN dN (gn kd) (gw kd (tl L xs (fun j => lo8 (cz L xs 64 + cz L xs 65 * nI j)) 15)))]) hP hD hS hA [] [0, 1, 2, 3, 4, 5, 6, 7, 8] rfl rfl (by decide) (by decide) (va_runS (As := [.ref b, .int (nI 1)]) (rest := [.ref wb, .ref o]) ⟨hx, hb, hml, hown, htz⟩ (mt_cell l H.size 1 hL (by decide)) (va_cwS 2 htz (z_S q98 q99 q1 q100) rfl rfl rfl (by decide +kernel) ⟨(Nat.le_of_ble_eq_true rfl), (Nat.le_of_ble_eq_true rfl)⟩) (sq_preS (wc := []) hP hD hK hE hS hA [] rfl (by decide)) rfl rfl hl.1 rfl (lv_room (Nat.le_of_ble_eq_true rfl)) dL_law_245 ⟨(Nat.le_of_ble_eq_true rfl), (Nat.le_of_ble_eq_true rfl)⟩) (fun r u H locs hw hP hD hS => ?_)
  rw [hw]
  have hP : va_P D sqCl [(qa, .inr (0, [.ref va, .int 0, .int 0, .int 0])), (va, eB dB (gn kd) (gw kd (fun j => lo8 (cz L xs (2 + j))))), (wa, eN dN (gn kd) (gw kd (fun j => lo8 (cz L xs (2 + j))))), (o, .inr (3, [.ref a, .ref qb])), (a, eN dH 62 (tl L xs (fun j => lo8 (cz L xs 64 + cz L xs 65 * nI j)) 15)), (qb, .inr (0, [.ref vb, .int 0, .int 0, .int 0])), (vb, eB dB (gn kd) (gw kd (tl L xs (fun j => lo8 (cz L xs 64 + cz L xs 65 * nI j)) 15))), (g, eN dN 62 (tl L xs (fun j => lo8 (cz L xs 64 + cz L xs 65 * nI j)) 15)), (wb, eN dN (gn kd) (gw kd (tl L xs (fun j => lo8 (cz L xs 64 + cz L xs 65 * nI j)) 15)))] H := hP
  have hD : va_D A [(qa, .inr (0, [.ref va, .int 0, .int 0, .int 0])), (va, eB dB (gn kd) (gw kd (fun j => lo8 (cz L xs (2 + j))))), (wa, eN dN (gn kd) (gw kd (fun j => lo8 (cz L xs (2 + j))))), (o, .inr (3, [.ref a, .ref qb])), (a, eN dH 62 (tl L xs (fun j => lo8 (cz L xs 64 + cz L xs 65 * nI j)) 15)), (qb, .inr (0, [.ref vb, .int 0, .int 0, .int 0])), (vb, eB dB (gn kd) (gw kd (tl L xs (fun j => lo8 (cz L xs 64 + cz L xs 65 * nI j)) 15))), (g, eN dN 62 (tl L xs (fun j => lo8 (cz L xs 64 + cz L xs 65 * nI j)) 15)), (wb, eN dN (gn kd) (gw kd (tl L xs (fun j => lo8 (cz L xs 64 + cz L xs 65 * nI j)) 15)))] := hD
  refine sq_reti (wc := [(o, .inr (3, [.ref a, .ref qb])), (qb, .inr (0, [.ref vb, .int 0, .int 0, .int 0])), (vb, eB dB (gn kd) (gw kd (tl L xs (fun j => lo8 (cz L xs 64 + cz L xs 65 * nI j)) 15))), (wb, eN dN (gn kd) (gw kd (tl L xs (fun j => lo8 (cz L xs 64 + cz L xs 65 * nI j)) 15)))]) (wr := [(qa, .inr (0, [.ref va, .int 0, .int 0, .int 0])), (va, eB dB (gn kd) (gw kd (fun j => lo8 (cz L xs (2 + j))))), (wa, eN dN (gn kd) (gw kd (fun j => lo8 (cz L xs (2 + j))))), (a, eN dH 62 (tl L xs (fun j => lo8 (cz L xs 64 + cz L xs 65 * nI j)) 15)), (g, eN dN 62 (tl L xs (fun j => lo8 (cz L xs 64 + cz L xs 65 * nI j)) 15))]) hP hD hS hA [3, 5, 6, 8] [0, 1, 2, 4, 7] rfl rfl (by decide) (by decide) (va_runS (As := [.ref o, .ref wb, .int (cz L xs 1)]) (rest := []) ⟨hx, hb, hml, hown, htz⟩ (mt_stays l H.size o a qb vb wb (gn kd) (cz L xs 1) (gw kd (tl L xs (fun j => lo8 (cz L xs 64 + cz L xs 65 * nI j)) 15)) (by omega) (by omega) hW2) (va_cwS 3 htz (z_S q554 q555 q1 q556) rfl rfl rfl (by decide +kernel) ⟨(Nat.le_of_ble_eq_true rfl), (Nat.le_of_ble_eq_true rfl)⟩) (sq_preS (wc := [(o, .inr (3, [.ref a, .ref qb])), (qb, .inr (0, [.ref vb, .int 0, .int 0, .int 0])), (vb, eB dB (gn kd) (gw kd (tl L xs (fun j => lo8 (cz L xs 64 + cz L xs 65 * nI j)) 15))), (wb, eN dN (gn kd) (gw kd (tl L xs (fun j => lo8 (cz L xs 64 + cz L xs 65 * nI j)) 15)))]) hP hD hK hE hS hA [3, 5, 6, 8] rfl (by decide)) rfl rfl hl.1 rfl (lv_room (Nat.le_of_ble_eq_true rfl)) dL_law_248 ⟨(Nat.le_of_ble_eq_true rfl), (Nat.le_of_ble_eq_true rfl)⟩) (fun r u H locs hw hP hD hS => ?_)
  rw [hw]
  have hP : va_P D sqCl [(qa, .inr (0, [.ref va, .int 0, .int 0, .int 0])), (va, eB dB (gn kd) (gw kd (fun j => lo8 (cz L xs (2 + j))))), (wa, eN dN (gn kd) (gw kd (fun j => lo8 (cz L xs (2 + j))))), (a, eN dH 62 (tl L xs (fun j => lo8 (cz L xs 64 + cz L xs 65 * nI j)) 15)), (g, eN dN 62 (tl L xs (fun j => lo8 (cz L xs 64 + cz L xs 65 * nI j)) 15)), (o, .inr (3, [.ref a, .ref qb])), (qb, .inr (0, [.ref vb, .int 0, .int 0, .int 0])), (vb, eB dB (gn kd) (gw kd (tl L xs (fun j => lo8 (cz L xs 64 + cz L xs 65 * nI j)) 15))), (wb, eN dN (gn kd) (gw kd (tl L xs (fun j => lo8 (cz L xs 64 + cz L xs 65 * nI j)) 15)))] H := hP
  have hD : va_D A [(qa, .inr (0, [.ref va, .int 0, .int 0, .int 0])), (va, eB dB (gn kd) (gw kd (fun j => lo8 (cz L xs (2 + j))))), (wa, eN dN (gn kd) (gw kd (fun j => lo8 (cz L xs (2 + j))))), (a, eN dH 62 (tl L xs (fun j => lo8 (cz L xs 64 + cz L xs 65 * nI j)) 15)), (g, eN dN 62 (tl L xs (fun j => lo8 (cz L xs 64 + cz L xs 65 * nI j)) 15)), (o, .inr (3, [.ref a, .ref qb])), (qb, .inr (0, [.ref vb, .int 0, .int 0, .int 0])), (vb, eB dB (gn kd) (gw kd (tl L xs (fun j => lo8 (cz L xs 64 + cz L xs 65 * nI j)) 15))), (wb, eN dN (gn kd) (gw kd (tl L xs (fun j => lo8 (cz L xs 64 + cz L xs 65 * nI j)) 15)))] := hD
  refine sq_if_ne (tgt := 256) hx hb dL_law_251 (by decide) (by decide) (fun hc => ?_) (fun hc => absurd hc (by decide))
  refine lv_iconst (v := nI 0) hx hb dL_law_256 (by decide) ?_
  refine sq_top (y := nI (cn (fun j => !((gw kd (fun j => lo8 (cz L xs (2 + j)))) j == (gw kd (tl L xs (fun j => lo8 (cz L xs 64 + cz L xs 65 * nI j)) 15)) j)) 0)) (rfl) ?_
  refine lv_istore (lv' := [(8, .int (nI (cn (fun j => !((gw kd (fun j => lo8 (cz L xs (2 + j)))) j == (gw kd (tl L xs (fun j => lo8 (cz L xs 64 + cz L xs 65 * nI j)) 15)) j)) 0))), (7, .ref wb), (0, .ref b), (1, .ref o), (2, .int (cz L xs 0)), (3, .ref g), (4, .ref wa), (5, .int (cz L xs 64)), (6, .int (cz L xs 65))]) hx hb dL_law_257 hl (by decide) rfl (fun ls hl => ?_)
  refine lv_iconst (v := nI 0) hx hb dL_law_259 (by decide) ?_
  refine lv_istore (lv' := [(9, .int (nI 0)), (8, .int (nI (cn (fun j => !((gw kd (fun j => lo8 (cz L xs (2 + j)))) j == (gw kd (tl L xs (fun j => lo8 (cz L xs 64 + cz L xs 65 * nI j)) 15)) j)) 0))), (7, .ref wb), (0, .ref b), (1, .ref o), (2, .int (cz L xs 0)), (3, .ref g), (4, .ref wa), (5, .int (cz L xs 64)), (6, .int (cz L xs 65))]) hx hb dL_law_260 hl (by decide) rfl (fun ls hl => ?_)
  refine sq_loop (fun (j : Nat) H locs ls => va_P D sqCl [(wa, eN dN (gn kd) (gw kd (fun j => lo8 (cz L xs (2 + j))))), (wb, eN dN (gn kd) (gw kd (tl L xs (fun j => lo8 (cz L xs 64 + cz L xs 65 * nI j)) 15)))] H ∧ va_D A [(wa, eN dN (gn kd) (gw kd (fun j => lo8 (cz L xs (2 + j))))), (wb, eN dN (gn kd) (gw kd (tl L xs (fun j => lo8 (cz L xs 64 + cz L xs 65 * nI j)) 15)))] ∧ va_S A s.heap H locs ∧ lv_has ls 10 [(0, .ref b), (2, .int (cz L xs 0)), (4, .ref wa), (7, .ref wb), (8, .int (nI (cn (fun j => !((gw kd (fun j => lo8 (cz L xs (2 + j)))) j == (gw kd (tl L xs (fun j => lo8 (cz L xs 64 + cz L xs 65 * nI j)) 15)) j)) j))), (9, .int (nI j))]) (gn kd) ?_ 0 _ _ _ (Nat.zero_le _) ⟨hP.sub [2, 8] rfl, hD.sub [2, 8] (by decide) rfl, hS, lv_sub hl [3, 5, 7, 2, 1, 0] rfl⟩
  intro j H locs ls h_j hI ih
  obtain ⟨hP, hD, hS, hl⟩ := hI
  have hcu : cn (fun j => !((gw kd (fun j => lo8 (cz L xs (2 + j)))) j == (gw kd (tl L xs (fun j => lo8 (cz L xs 64 + cz L xs 65 * nI j)) 15)) j)) j ≤ j := cn_up j
  have hj1 := hW1 j
  have hj2 := hW2 j
  refine lv_iload hx hb dL_law_262 (lv_at hl 5 rfl) ?_
  refine lv_aload hx hb dL_law_264 (lv_at hl 2 rfl) ?_
  refine va_alen (v := nI (gn kd)) hx hb hK hP 0 2 rfl rfl rfl dL_law_266 ?_
  refine sq_ge (tgt := 292) hx hb dL_law_267 (by decide) (by omega) (by omega) (fun hc4 => ?_) (fun hc4 => ?_)
  rotate_left
  · skip
    refine lv_aload hx hb dL_law_270 (lv_at hl 2 rfl) ?_
    refine lv_iload hx hb dL_law_272 (lv_at hl 5 rfl) ?_
    refine sq_iald hx hb hK hP 0 rfl (hc4) (by omega) dL_law_274 ?_
    refine lv_aload hx hb dL_law_275 (lv_at hl 3 rfl) ?_
    refine lv_iload hx hb dL_law_277 (lv_at hl 5 rfl) ?_
    refine sq_iald hx hb hK hP 1 rfl (hc4) (by omega) dL_law_279 ?_
    refine sq_eq (tgt := 286) hx hb dL_law_280 (by decide) (by omega) (by omega) (fun hc5 => ?_) (fun hc5 => ?_)
    · skip
      rw [← cn_f hc5] at hl
      have hl : lv_has ls 10 [(0, .ref b), (2, .int (cz L xs 0)), (4, .ref wa), (7, .ref wb), (8, .int (nI (cn (fun j => !((gw kd (fun j => lo8 (cz L xs (2 + j)))) j == (gw kd (tl L xs (fun j => lo8 (cz L xs 64 + cz L xs 65 * nI j)) 15)) j)) (j + 1)))), (9, .int (nI j))] := hl
      refine lv_iinc (v := nI (j + 1)) (lv' := [(9, .int (nI (j + 1))), (0, .ref b), (2, .int (cz L xs 0)), (4, .ref wa), (7, .ref wb), (8, .int (nI (cn (fun j => !((gw kd (fun j => lo8 (cz L xs (2 + j)))) j == (gw kd (tl L xs (fun j => lo8 (cz L xs 64 + cz L xs 65 * nI j)) 15)) j)) (j + 1))))]) hx hb dL_law_286 hl (k := 5) rfl (nI_1 j) (by decide) rfl (fun ls hl => ?_)
      refine lv_goto (tgt := 262) hx hb dL_law_289 (by decide) ?_
      exact ih _ _ _ (hc4) ⟨hP.sub [0, 1] rfl, hD.sub [0, 1] (by decide) rfl, hS, lv_sub hl [1, 2, 3, 4, 5, 0] rfl⟩
    · skip
      refine lv_iinc (v := nI (cn (fun j => !((gw kd (fun j => lo8 (cz L xs (2 + j)))) j == (gw kd (tl L xs (fun j => lo8 (cz L xs 64 + cz L xs 65 * nI j)) 15)) j)) (j + 1))) (lv' := [(8, .int (nI (cn (fun j => !((gw kd (fun j => lo8 (cz L xs (2 + j)))) j == (gw kd (tl L xs (fun j => lo8 (cz L xs 64 + cz L xs 65 * nI j)) 15)) j)) (j + 1)))), (0, .ref b), (2, .int (cz L xs 0)), (4, .ref wa), (7, .ref wb), (9, .int (nI j))]) hx hb dL_law_283 hl (k := 4) rfl ((nI_1 _).trans (congrArg nI (cn_t hc5).symm)) (by decide) rfl (fun ls hl => ?_)
      refine lv_iinc (v := nI (j + 1)) (lv' := [(9, .int (nI (j + 1))), (8, .int (nI (cn (fun j => !((gw kd (fun j => lo8 (cz L xs (2 + j)))) j == (gw kd (tl L xs (fun j => lo8 (cz L xs 64 + cz L xs 65 * nI j)) 15)) j)) (j + 1)))), (0, .ref b), (2, .int (cz L xs 0)), (4, .ref wa), (7, .ref wb)]) hx hb dL_law_286 hl (k := 5) rfl (nI_1 j) (by decide) rfl (fun ls hl => ?_)
      refine lv_goto (tgt := 262) hx hb dL_law_289 (by decide) ?_
      exact ih _ _ _ (hc4) ⟨hP.sub [0, 1] rfl, hD.sub [0, 1] (by decide) rfl, hS, lv_sub hl [2, 3, 4, 5, 1, 0] rfl⟩
  have hjn : j = gn kd := by omega
  have hfar := gw_far (k := kd) hk (t := fun j => lo8 (cz L xs (2 + j))) (u := tl L xs (fun j => lo8 (cz L xs 64 + cz L xs 65 * nI j)) 15) (fun j => lo8_lt _) hT2
  rw [← hjn] at hfar
  refine lv_iload hx hb dL_law_292 (lv_at hl 4 rfl) ?_
  refine sq_if_eq (tgt := 312) hx hb dL_law_294 (by decide) (by omega) (fun hc6 => ?_) (fun hc6 => ?_)
  · skip
    refine lv_iconst (v := nI 1) hx hb dL_law_312 (by decide) ?_
    refine lv_goto (tgt := 317) hx hb dL_law_313 (by decide) ?_
    refine sq_top (y := 1) (by decide) ?_
    refine va_forget (fun q hq => by have h9 := hS.2.2 q hq; rw [hAe] at h9; exact h9) ?_
    refine W.widen (k := 1200192) (n := 5500522) (Nat.le_of_ble_eq_true rfl) (Nat.le_of_ble_eq_true rfl) ?_
    exact lw_ret hx hb hr hlocks dL_law_317
  · skip
    refine lv_iload hx hb dL_law_297 (lv_at hl 4 rfl) ?_
    refine sq_gs (v := .ref (ad 1)) 3 rfl hx hb hE hS hown (hts _ q110) (fun _ h9 => h9) dL_law_299 ?_
    refine lv_iload_n hx hb dL_law_302 rfl (lv_at hl 1 rfl) ?_
    refine lv_bipush (v := nI 10) hx hb dL_law_303 (by decide) ?_
    refine sq_reti (wc := []) (wr := [(wa, eN dN (gn kd) (gw kd (fun j => lo8 (cz L xs (2 + j))))), (wb, eN dN (gn kd) (gw kd (tl L xs (fun j => lo8 (cz L xs 64 + cz L xs 65 * nI j)) 15)))]) hP hD hS hA [] [0, 1] rfl rfl (by decide) (by decide) (va_runS (As := [.int (cz L xs 0), .int (nI 10)]) (rest := [.ref (ad 1), .int (nI (cn (fun j => !((gw kd (fun j => lo8 (cz L xs (2 + j)))) j == (gw kd (tl L xs (fun j => lo8 (cz L xs 64 + cz L xs 65 * nI j)) 15)) j)) j))]) ⟨hx, hb, hml, hown, htz⟩ (mt_rest l H.size (cz L xs 0) 10 (by decide) (by decide)) (va_cwS 2 htz (z_S q101 q102 q1 q103) rfl rfl rfl (by decide +kernel) ⟨(Nat.le_of_ble_eq_true rfl), (Nat.le_of_ble_eq_true rfl)⟩) (sq_preS (wc := []) hP hD hK hE hS hA [] rfl (by decide)) rfl rfl hl.1 rfl (lv_room (Nat.le_of_ble_eq_true rfl)) dL_law_305 ⟨(Nat.le_of_ble_eq_true rfl), (Nat.le_of_ble_eq_true rfl)⟩) (fun r u H locs hw hP hD hS => ?_)
    rw [← hkd] at hw
    rw [hw]
    have hP : va_P D sqCl [(wa, eN dN (gn kd) (gw kd (fun j => lo8 (cz L xs (2 + j))))), (wb, eN dN (gn kd) (gw kd (tl L xs (fun j => lo8 (cz L xs 64 + cz L xs 65 * nI j)) 15)))] H := hP
    have hD : va_D A [(wa, eN dN (gn kd) (gw kd (fun j => lo8 (cz L xs (2 + j))))), (wb, eN dN (gn kd) (gw kd (tl L xs (fun j => lo8 (cz L xs 64 + cz L xs 65 * nI j)) 15)))] := hD
    refine sq_ti (z := sq_z1) hx hb hE hS (List.mem_of_getElem? (i := 1) rfl) (by rw [len_C0]; exact hk) (by rw [len_C0]; decide) dL_law_308 ?_
    refine sq_top (y := nI (gf_C kd)) (rfl) ?_
    have hCk := (gf_kind kd hk).2.2.2.1
    refine sq_le (tgt := 316) hx hb dL_law_309 (by decide) (by omega) (by omega) (fun hc => by exfalso; omega) (fun hc => ?_)
    refine lv_iconst (v := nI 1) hx hb dL_law_312 (by decide) ?_
    refine lv_goto (tgt := 317) hx hb dL_law_313 (by decide) ?_
    refine sq_top (y := 1) (by decide) ?_
    refine va_forget (fun q hq => by have h9 := hS.2.2 q hq; rw [hAe] at h9; exact h9) ?_
    refine W.widen (k := 1200192) (n := 5500522) (Nat.le_of_ble_eq_true rfl) (Nat.le_of_ble_eq_true rfl) ?_
    exact lw_ret hx hb hr hlocks dL_law_317
end
section
set_option maxHeartbeats 4000000 in
/-- from the entry, for every script of at most 96 ints, the law comes to its end with true -/
theorem whole_start {p : Program} {e : Env} {s : State} {m : MethodId} {below : List Frame} {meth : Method} {c : Code} (l : Launch) (hflags : l.flags = flags0) {b L : Nat} {xs : Nat → Int32} (hL : L ≤ 96) (C0 : lw_At p s m meth c b L xs) : W p l e room_1 s m #[Value.ref b] below meth c s.heap [] 0 0 (lw_Z below #[Value.ref b] s) (entryFrame m ([Value.ref b] : List Value).toArray 10) := by
  obtain ⟨hx, hb, hr, hml, hown, hts, hX, hbl, hlocks, hgv⟩ := C0
  obtain ⟨D, dB, dH, dN, ro, ad, htz, hK, hE⟩ := sq_begin hts hX hbl hgv
  have hl := lv_entry ([.ref b]) (n := 10) (Nat.le_of_ble_eq_true rfl)
  rw [lg_entry_eq]
  exact law_body l hL _ rfl hx hb hr hlocks hml hown htz (fun k q h => by simp at h) hK ⟨fun i j p q h => by simp at h, fun k q h => by simp at h⟩ hE va_S.rf (fun _ h => h) _ hl
-- ===== YOUR PART ENDS =====
set_option maxHeartbeats 4000000 in
theorem lw_walk (l : Launch) (hflags : l.flags = flags0) (b : Addr) (xs : List Int32) : MetFree l x (headSpec (Jvm.Cond.code x code maxLocals ret :: tables_1) room_1) (lw_P b xs) (fun _ _ _ _ _ => True) lw_Q := by
  refine MetFree.of_bodyS (code := code) (maxLocals := maxLocals) (ret := ret) (by decide) ?_ ?_
  · intro args s m h hn
    obtain ⟨meth, c, h1, h2, h3, h4, h5, h6, -, -⟩ := Cond.code_spec hn (atoms_spec (ws := Jvm.Cond.code x code maxLocals ret :: tables_1) h _ List.mem_cons_self)
    exact ⟨meth, c, h1, h2, h3, h4, h5, h6⟩
  · intro p e s m args below meth c s₁ B hml0 hP _
    obtain ⟨rfl, hx, hbd, hgv⟩ := hP
    obtain ⟨scr, harrAt, hlist, hof, hsmall⟩ := hx
    obtain ⟨hcb, hkn, -, -⟩ := State.arrayAt?_spec harrAt
    have hown : s.vm.findClass R_law = some m.cls := findClass_of_methodNamed B.named
    have hts0 : ∀ c ∈ (Jvm.Cond.code x code maxLocals ret :: tables_1), c.before #[Value.ref b] s = true := atoms_spec (ws := Jvm.Cond.code x code maxLocals ret :: tables_1) B.pre
    have hts : ∀ w ∈ lw_tbl, w.before #[Value.ref b] s = true := k2_hts_sels lw_privs (fun w hw => hts0 w (List.mem_cons_of_mem _ hw)) lw_privs_ok
    have hml : c.maxLocals = 10 := B.maxLocals_eq (hts0 _ List.mem_cons_self)
    have X₀ : Stand p l e room_1 s m #[Value.ref b] below meth c s₁ [] 0 0 := Stand.of_body B
    have hh0 : s₁.heap = s.heap := by rw [B.state]; rfl
    have hsz : scr.slots.size = xs.length := by rw [← Array.length_toList, hlist, List.length_map]
    have hval : ∀ j : Nat, j < xs.length → scr.slots[j]? = some (.int (xs.getD j 0)) := fun j hj => by
      rw [← Array.getElem?_toList, hlist]
      simp [hj]
    have hbl : b < s.heap.size := (Array.getElem?_eq_some_iff.mp hcb).1
    have hX : va_X b xs.length (fun j => xs.getD j 0) s s.heap := ⟨scr, hcb, hof, hkn, hsz, hval⟩
    have K : W p l e room_1 s m #[Value.ref b] below meth c s₁.heap [] 0 0 (lw_Z below #[Value.ref b] s) (entryFrame m ([Value.ref b] : List Value).toArray 10) := by
      rw [hh0]
      exact whole_start l hflags hbd ⟨B.exec, B.bytes, B.returns, hml, hown, hts, hX, hbl, B.notSynchronized, hgv⟩
    obtain ⟨t, a1, o, b1, b2, b3⟩ := K s₁ rfl X₀
    exact ⟨t, o, a1, b1, b2, b3⟩
theorem lw_pre_spec {args : Array Value} {s : State} (h : (Jvm.Cond.and given_1 narrow_1).before args s = true) (hr : rest_1_c.before args s = true) : ∃ (b : Addr) (xs : List Int32), lw_P b xs args s := by
  have hs := flat_of_before _ h
  have hq := flat_of_before _ hr
  have hc : (Cond.count 1).before args s = true := hs _ (by decide +kernel)
  have harr : (Cond.arrayOf (.arg 0) .int).before args s = true := hs _ (by decide +kernel)
  have hle : (Cond.le (.length (.arg 0)) (.int 96)).before args s = true := hs _ (by decide +kernel)
  have hlen : (Cond.isInt (.length (.arg 0))).before args s = true := hq _ (by decide +kernel)
  have hall : (Cond.all (.arg 0) (.isInt (.elem (.arg 0) (.index 0)))).before args s = true := hq _ (by decide +kernel)
  obtain ⟨b, xs, hb, hx⟩ := State.ints_of_pre rfl harr hlen hall
  have hsm : xs.length < 2 ^ 31 := hx.choose_spec.2.2.2
  have hev : (Term.length (.arg 0)).eval args s none [] s = some (.int xs.length.toInt32) := hx.length_eval hb
  have hv := Cond.le_ints hev (show (Term.int 96).eval args s none [] s = some (.int 96) from rfl)
  have hd : xs.length.toInt32 ≤ 96 := by
    simpa [Cond.before, Cond.holds, hv] using hle
  have hN : xs.length ≤ 96 := (Int32.ofNat_le_ofNat hsm (by decide)).mp (show Int32.ofNat xs.length ≤ Int32.ofNat 96 from hd)
  exact ⟨b, xs, Cond.one_arg hc (show args[0]? = some (.ref b) from hb), hx, hN, h⟩
theorem lw_comes (l : Launch) (hflags : l.flags = flags0) : Comes l x (Jvm.Cond.code x code maxLocals ret :: tables_1) room_1 (fun tb e args s => Calls_1 tb e args s ∧ rest_1 tb e args s ∧ Pre_1 tb e args s)
    (fun _ _ args s o t => lw_Q args s o t) := by
  intro p e ha hc hk s m args below hf hfit hheap happ hpre
  obtain ⟨b, xs, hP⟩ := lw_pre_spec hpre.2.2 hpre.2.1
  obtain ⟨k, o, h1, h2, h3, hQ⟩ := lw_walk l hflags b xs p e ha hc hk s m args below hf ((Spec.applies_iff_loose hf).mp happ).1 hP trivial
  exact ⟨k, o, h1, h2, h3, hQ⟩
theorem lw_frame {s t : State} {o : Outcome} {args : Array Value} (h : Framed s o t [] 1200192 5500522) :
    Framed s o t (fieldLocs frame_1_writes args s ++ arrayLocs frame_1_arrays args s ++ staticLocs frame_1_statics s) 1200192 5500522 := h
theorem lw_limb (L : Cond) (hL : ∀ (args : Array Value) (s t : State), L.after args s (.returned (some (.int 1))) t = true) :
    ArmFor flags0 classFile x code maxLocals ret World_1 tables_1 room_1 Calls_1 rest_1 Pre_1
      (fun tb e a s o t => postC L tb e a s o t ∧ Framed s o t (fieldLocs frame_1_writes a s ++ arrayLocs frame_1_arrays a s ++ staticLocs frame_1_statics s) 1200192 5500522) := by
  intro l hflags _ _ p e ha hc hk s m args below hf hfit hheap happ hpre
  obtain ⟨k, o, h1, h2, h3, rfl, hF⟩ := lw_comes l hflags p e ha hc hk s m args below hf hfit hheap happ hpre
  exact ⟨k, _, h1, h2, h3, hL args s _, lw_frame hF⟩
theorem i_vc : Claimed_1_1 ∧ Claimed_1_2 := ⟨lw_limb limb_1_1 (fun args s t => by simp [limb_1_1, Cond.after, Cond.holds, Cond.value]), lw_limb limb_1_2 (fun args s t => Cond.after_iff.mpr (by
  first | (rw [show limb_1_2 = Cond.eq .result (.int 1) from rfl, Cond.eq_ints (x := 1) (y := 1) rfl rfl]; simp; done) | (simp [limb_1_2, Cond.value, Term.eval]; done)))⟩
end
