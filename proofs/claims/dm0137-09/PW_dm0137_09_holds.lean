import PyProof.Rows.All
import Wide.All
import OpenK.AllK
import Wide.FinOn
import KE.KNest
import KE.KDictIter
import PyProof.FactsAll.object
import KE.KSortKey
import PySem.Challenge.RW_dm0137_09
set_option Elab.async false
set_option bootstrap.genMatcherCode false
set_option compiler.extract_closed false
set_option genSizeOf false
set_option genInjectivity false
set_option autoImplicit false
set_option linter.unusedVariables false
namespace Mine
set_option tactic.hygienic false
section
variable {a b c d f i j k l m n p q r s t x N L X: Nat}
theorem ar_step (h: n - i = k + 1): n - (i + 1) = k:= congrArg Nat.pred h
theorem ar_down (h: L - p <= k + 1) (hc: p < c): L - c <= k:= Nat.le_trans (Nat.sub_le_sub_left hc L) (Nat.pred_le_pred h)
theorem ar_kid (h: c = 2 * p + 1 \/ c = 2 * p + 2): p < c:= by
 have: p <= 2 * p:= by rw [Nat.two_mul];exact Nat.le_add_left p p
 rcases h with rfl | rfl
 ·exact Nat.lt_succ_of_le this
 ·exact Nat.lt_succ_of_lt (Nat.lt_succ_of_le this)
theorem ar_down2 (h: L - p <= k + 1) (hc: c = 2 * p + 1 \/ c = 2 * p + 2): L - c <= k:= ar_down h (ar_kid hc)
theorem ar_end (h: L - p <= 0): ¬ p < L:= Nat.not_lt_of_le (Nat.sub_eq_zero_iff_le.mp (Nat.le_zero.mp h))
theorem ar_end2 (h: L - p <= 0): ¬ 2 * p + 1 < L:= fun q=> ar_end h (Nat.lt_of_le_of_lt (by rw [Nat.two_mul];exact Nat.le_trans (Nat.le_add_left p p) (Nat.le_succ _)) q)
theorem ar_f (h: n + (f + 1) = N): n < N:= h ▸ Nat.lt_add_of_pos_right (Nat.succ_pos f)
theorem ar_f1 (h: n + (f + 1) = N): n - 1 < N:= Nat.lt_of_le_of_lt (Nat.sub_le _ _) (ar_f h)
theorem ar_f2 (h: n + (f + 1) = N) (q: s = N): n - 1 < s:= q ▸ ar_f1 h
theorem ar_f3 (h: n + (f + 1) = N) (q: s = N): n < s:= q ▸ ar_f h
theorem ar_assoc (h: 1 <= a) (q: a <= x): l + x - 1 = l + (x - 1):= Nat.add_sub_assoc (Nat.le_trans h q) l
theorem ar_max: n - max a n = 0:= Nat.sub_eq_zero_of_le (Nat.le_max_right a n)
theorem ar_pred (h: x < n): n - x = n - x - 1 + 1:= (Nat.sub_add_cancel (Nat.sub_pos_of_lt h)).symm
theorem ar_par (h: s < p): (p - 1) / 2 < p:= Nat.lt_of_le_of_lt (Nat.div_le_self _ _) (Nat.sub_one_lt_of_lt h)
theorem ar_par2 (h: s < p) (q: p < L): (p - 1) / 2 < L:= Nat.lt_trans (ar_par h) q
theorem ar_par4 (h: p > 0) (q: p < L): (p - 1) / 2 < L:= ar_par2 h q
theorem ar_par5 (h: s < p): ¬ p = (p - 1) / 2:= Nat.ne_of_gt (ar_par h)
theorem ar_ps (h: m < i) (q: i < j): i - 1 < j - 1:= Nat.sub_lt_sub_right (Nat.succ_le_of_lt (Nat.zero_lt_of_lt h)) q
theorem ar_ps2 (h1: ¬ i = m) (h2: ¬ m < i) (h3: m < j): i < j - 1:= Nat.lt_of_lt_of_le (Nat.lt_of_le_of_ne (Nat.le_of_not_lt h2) h1) (Nat.le_sub_one_of_lt h3)
theorem ar_ps3 (h: i < j) (q: j < k + 1): j - 1 < k:= Nat.lt_of_lt_of_le (Nat.sub_one_lt_of_lt h) (Nat.le_of_lt_succ q)
theorem ar_ps4 (h: m < i /\ i <= k): i - 1 < k:= Nat.lt_of_lt_of_le (Nat.sub_one_lt_of_lt h.1) h.2
theorem ar_ps5 (h: m <= k) (h1: i < k + 1) (h2: ¬ i = m) (h3: ¬ (m < i /\ i <= k)): i < k:= by
 rcases Nat.lt_or_ge m i with h4 | h4
 ·exact absurd ⟨h4,Nat.le_of_lt_succ h1⟩ h3
 ·exact Nat.lt_of_lt_of_le (Nat.lt_of_le_of_ne h4 h2) h
theorem ar_ps6 (h: i < j) (q: j < k + 1) (r: m < i): m < i /\ i <= k:= ⟨r,Nat.le_of_lt_succ (Nat.lt_trans h q)⟩
theorem ar_ps7 (h: i < j) (q: j < k + 1) (r: m < i): m < j /\ j <= k:= ⟨Nat.lt_trans r h,Nat.le_of_lt_succ q⟩
theorem ar_ps8 (h: i < j) (q: i = m): m <= j - 1:= q ▸ Nat.le_sub_one_of_lt h
theorem ar_ps9 (h: ¬ j <= i + (q + 1)): i < j - 1:= Nat.le_sub_one_of_lt (Nat.lt_of_le_of_lt (Nat.succ_le_succ (Nat.le_add_right i q)) (Nat.lt_of_not_le h))
theorem ar_ps10: j <= j - 1 + (q + 1):= Nat.le_trans (Nat.sub_le_iff_le_add.mp (Nat.le_refl (j - 1))) (Nat.add_le_add_left (Nat.succ_le_succ (Nat.zero_le q)) _)
theorem ar_ps12: n <= n - q + q:= Nat.sub_le_iff_le_add.mp (Nat.le_refl _)
theorem ar_ps13 (h: n - (q + 1) >= n - 1): n - (q + 1) = n - 1:= Nat.le_antisymm (Nat.sub_le_sub_left (Nat.succ_le_succ (Nat.zero_le q)) n) h
theorem ar_ps14 (h: q + 1 <= n): n - (q + 1) <= n - 1 /\ n - 1 < n:= ⟨Nat.sub_le_sub_left (Nat.succ_le_succ (Nat.zero_le q)) n,Nat.sub_lt (Nat.lt_of_lt_of_le (Nat.succ_pos q) h) Nat.one_pos⟩
theorem ar_ps15 (h: q + 1 <= n): n - (q + 1) + n - 1 - (n - 1) = n - (q + 1):= by
 rw [Nat.add_sub_assoc (Nat.le_trans (Nat.succ_le_succ (Nat.zero_le q)) h),Nat.add_sub_cancel]
theorem ar_rv0 (h: j < n): a + n - 1 - j = a + (n - 1 - j):= by
 rw [Nat.add_sub_assoc (Nat.one_le_of_lt h),Nat.add_sub_assoc (Nat.le_sub_one_of_lt h)]
theorem ar_rv (h: i < j) (q: j < n): a + n - 1 - j < a + n - 1 - i:= by
 rw [ar_rv0 q,ar_rv0 (Nat.lt_trans h q)]
 exact Nat.add_lt_add_left (Nat.sub_lt_sub_left (Nat.lt_of_lt_of_le h (Nat.le_sub_one_of_lt q)) h) a
theorem ar_rv2 (h: a <= j /\ j < n): a + n - 1 - j < n:= by
 rw [Nat.add_sub_assoc (Nat.one_le_of_lt h.2)]
 exact Nat.lt_of_le_of_lt (Nat.sub_le_of_le_add (by rw [Nat.add_comm];exact Nat.add_le_add_left h.1 _)) (Nat.sub_one_lt_of_lt h.2)
theorem ar_rv3 (h: q + 1 <= n) (r: a <= i): a + n - 1 - i < n:= by
 rw [Nat.add_sub_assoc (Nat.le_trans (Nat.succ_le_succ (Nat.zero_le q)) h)]
 exact Nat.lt_of_le_of_lt (Nat.sub_le_of_le_add (by rw [Nat.add_comm];exact Nat.add_le_add_left r _)) (Nat.sub_one_lt_of_lt h)
theorem ar_rv4 (h: j <= s) (r: i <= k /\ k < j): i + j - 1 - k < s:= Nat.lt_of_lt_of_le (ar_rv2 r) h
theorem ar_rv5 (h: i < j) (r: j < n): 0 + n - 1 - i < n:= by
 rw [Nat.zero_add];exact Nat.lt_of_le_of_lt (Nat.sub_le _ _) (Nat.sub_one_lt_of_lt r)
theorem ar_rv6 (h: q + 1 <= n) (r: j < n): n <= n - (q + 1) + n - 1 - j + (q + 1):= by
 rw [ar_rv0 r,Nat.add_right_comm,Nat.sub_add_cancel h];exact Nat.le_add_right _ _
theorem ar_rv7 (h: j < n) (r: ¬ a <= i): i < a + n - 1 - j:= by
 rw [ar_rv0 h];exact Nat.lt_of_lt_of_le (Nat.lt_of_not_le r) (Nat.le_add_right _ _)
theorem ar_rv8 (h: ¬ n - (q + 1) <= i): ¬ n <= i + (q + 1):= fun r=> h (Nat.sub_le_of_le_add r)
theorem ar_mid (h: k >= X): (X + i <= k /\ k < X + j) ↔ (i <= k - X /\ k - X < j):= and_congr (Nat.le_sub_iff_add_le' h).symm (Nat.sub_lt_iff_lt_add' h).symm
theorem ar_mid1 (h: k >= X) (q: X + i <= k /\ k < X + j): i <= k - X /\ k - X < j:= (ar_mid h).mp q
theorem ar_mid2 (h: k >= X) (q: ¬ (X + i <= k /\ k < X + j)): ¬ (i <= k - X /\ k - X < j):= fun r=> q ((ar_mid h).mpr r)
theorem ar_mid3 (q: X + i <= k /\ k < X + j): X + i + (X + j) - 1 - k = X + i + (X + j - 1 - k):= by
 rw [ar_rv0 q.2]
theorem ar_mid4 (q: X + i <= k /\ k < X + j): ¬ X + i + (X + j) - 1 - k < X:= by
 rw [ar_mid3 q];exact Nat.not_lt_of_le (Nat.le_trans (Nat.le_add_right X i) (Nat.le_add_right _ _))
theorem ar_mid5 (h: k >= X) (q: X + i <= k /\ k < X + j): X + i + (X + j) - 1 - k - X = i + j - 1 - (k - X):= by
 obtain ⟨t,rfl⟩:= Nat.exists_eq_add_of_le h
 rw [ar_mid3 q,Nat.add_assoc,Nat.add_sub_cancel_left,Nat.add_sub_cancel_left,ar_rv0 (Nat.lt_of_add_lt_add_left q.2),Nat.sub_right_comm,Nat.add_sub_add_left,Nat.sub_right_comm]
theorem ar_bub0 (h: d <= s): X + s - d = X + (s - d):= Nat.add_sub_assoc h X
theorem ar_bub1 (h: d <= s) (q: k = X + s - d): k - X = s - d:= by rw [q,ar_bub0 h,Nat.add_sub_cancel_left]
theorem ar_bub2 (h: d <= s) (r: k >= X) (q: ¬ k = X + s - d): ¬ k - X = s - d:= fun e=> q (by rw [ar_bub0 h,<- e,Nat.add_sub_of_le r])
theorem ar_bub3 (h: d <= s) (r: k >= X) (q: X + s - d < k /\ k <= X + s): s - d < k - X /\ k - X <= s:= by
 rw [ar_bub0 h] at q
 exact ⟨Nat.lt_sub_of_add_lt (by rw [Nat.add_comm];exact q.1),Nat.sub_le_of_le_add (by rw [Nat.add_comm];exact q.2)⟩
theorem ar_bub4 (h: d <= s) (q: ¬ (X + s - d < k /\ k <= X + s)): ¬ (s - d < k - X /\ k - X <= s):= fun r=> q (by
 rw [ar_bub0 h]
 have:= Nat.lt_sub_iff_add_lt.mp r.1
 exact ⟨by rw [Nat.add_comm];exact this,by rw [Nat.add_comm];exact Nat.sub_le_iff_le_add.mp r.2⟩)
theorem ar_bub5 (h: d <= s) (q: X + s - d < k /\ k <= X + s): ¬ k - 1 < X:= by
 rw [ar_bub0 h] at q
 exact Nat.not_lt_of_le (Nat.le_sub_one_of_lt (Nat.lt_of_le_of_lt (Nat.le_add_right _ _) q.1))
theorem ar_bub6 (h: d <= s) (r: k < X): ¬ k = X + s - d:= by
 rw [ar_bub0 h];exact fun e=> Nat.lt_irrefl _ (Nat.lt_of_lt_of_le (e ▸ r) (Nat.le_add_right _ _))
theorem ar_bub7 (h: d <= s) (r: k < X): ¬ (X + s - d < k /\ k <= X + s):= by
 rw [ar_bub0 h];exact fun e=> Nat.lt_irrefl _ (Nat.lt_trans (Nat.lt_of_le_of_lt (Nat.le_add_right _ _) e.1) r)
theorem ar_le_sub (h: a + b < n + 1 - x): a + b <= n - x:= Nat.le_of_lt_succ (Nat.lt_of_lt_of_le h (by rw [Nat.sub_le_iff_le_add,Nat.succ_eq_add_one,Nat.add_right_comm];exact Nat.succ_le_succ ar_ps12))
theorem ar_le_sub' (h: m < n - t): m <= n - (t + 1):= Nat.le_sub_one_of_lt h
theorem ar_lt_sub (h: m < n - x): m < n:= Nat.lt_of_lt_of_le h (Nat.sub_le _ _)
theorem ar_pos_sub (h: a < L) (q: a + 1 ≠ L): 0 < L - (a + 1):= Nat.sub_pos_of_lt (Nat.lt_of_le_of_ne h q)
theorem ar_sub_lt (h: 1 < n): n - 1 - 1 < n - 1:= Nat.sub_lt (Nat.sub_pos_of_lt h) Nat.one_pos
theorem ar_pl (h: 1 < n): n - 1 < n:= Nat.sub_one_lt_of_lt h
theorem ar_pl2 (h: 1 < n) (q: n <= L): n - 1 < L:= Nat.lt_of_lt_of_le (ar_pl h) q
theorem ar_pl3 (h: 1 < n) (q: n <= L) (r: i < n - 1): i < L:= Nat.lt_trans r (ar_pl2 h q)
theorem ar_pl4 (h: a + b <= n) (q: 0 < a): a - 1 + b < n:= Nat.lt_of_lt_of_le (Nat.add_lt_add_right (Nat.sub_lt q Nat.one_pos) b) h
theorem ar_pl5 (h: a + b <= n) (q: 1 < b): a + (b - 1) < n:= Nat.lt_of_lt_of_le (Nat.add_lt_add_left (ar_pl q) a) h
theorem ar_pl6 (h: a + b <= n) (q: 1 < b): a + (b - 1) <= n:= Nat.le_of_lt (ar_pl5 h q)
theorem ar_pl7 (h: j < n) (q: j >= n - 1): j = n - 1:= Nat.le_antisymm (Nat.le_sub_one_of_lt h) q
theorem ar_pl8 (h: n - 1 - k > 0) (q: a + n <= m): a + k <= m:= Nat.le_trans (Nat.add_le_add_left (Nat.le_of_lt (Nat.lt_of_lt_of_le (Nat.lt_of_sub_pos h) (Nat.sub_le _ _))) a) q
theorem ar_pl9 (h: n <= L) (q: n - 1 - k > 0): k <= L:= Nat.le_trans (Nat.le_of_lt (Nat.lt_of_lt_of_le (Nat.lt_of_sub_pos q) (Nat.sub_le _ _))) h
theorem ar_pl10 (h: k <= n - 1) (q: ¬ n - 1 - k > 0): k = n - 1:= Nat.le_antisymm h (Nat.sub_eq_zero_iff_le.mp (Nat.le_zero.mp (Nat.le_of_not_lt q)))
theorem ar_g1 (h: k <= L - (i + 1)) (q: i < L) (r: i + 1 + k ≠ L): i + 1 + k < L:= Nat.lt_of_le_of_ne (by rw [Nat.add_comm];exact Nat.add_le_of_le_sub q h) r
theorem ar_g2 (h: k <= L - (i + 1)) (r: i + 1 + k ≠ L) (q: i < L): k < L - (i + 1):= Nat.lt_of_le_of_ne h fun e=> r (by rw [e,Nat.add_sub_of_le q])
theorem ar_g3 (h: i + 1 < L): i + (L - 1 - i) = L - 1:= Nat.add_sub_of_le (Nat.le_sub_one_of_lt (Nat.lt_of_succ_lt h))
theorem ar_g4 (h: i + 1 < L) (q: i + k >= L): L - 1 - i < k:= Nat.sub_lt_left_of_lt_add (Nat.le_sub_one_of_lt (Nat.lt_of_succ_lt h)) (Nat.lt_of_lt_of_le (ar_pl (Nat.lt_of_le_of_lt (Nat.le_add_left 1 i) h)) q)
theorem ar_g5 (h: i + 1 < L): 0 < L - i:= Nat.sub_pos_of_lt (Nat.lt_of_succ_lt h)
theorem ar_m1 (h: 0 < r) (q: k < r): 0 + k + (r - k) - 1 = r - 1:= by rw [Nat.zero_add,Nat.add_sub_of_le (Nat.le_of_lt q)]
theorem ar_min (h: m <= N) (q: m < t): m + (min N t - m) = min N t:= Nat.add_sub_of_le (Nat.le_min.mpr ⟨h,Nat.le_of_lt q⟩)
theorem ar_min2 (h: ¬ m < t): min N t <= m:= Nat.le_trans (Nat.min_le_right _ _) (Nat.le_of_not_lt h)
theorem ar_min3 (h: 1 <= N) (q: 1 <= m) (r: m < t): 1 <= min N t:= Nat.le_min.mpr ⟨h,Nat.le_trans q (Nat.le_of_lt r)⟩
theorem ar_it (h: n + i < s): i < min s s - n:= by rw [Nat.min_self];exact Nat.lt_sub_of_add_lt (by rw [Nat.add_comm];exact h)
theorem ar_sh (h: N = s) (q: j < N - n): n + j < s:= h ▸ Nat.add_lt_of_lt_sub' q
theorem ar_x1 (h: s = N) (q: 1 <= a) (r: n <= N) (u: a <= x) (v: x < n): x - 1 < s:= by rw [h];exact Nat.lt_of_le_of_lt (Nat.sub_le _ _) (Nat.lt_of_lt_of_le v r)
theorem ar_x2 (h: s = N) (q: 1 <= m) (r: m <= N): m - 1 < s:= by rw [h];exact Nat.lt_of_lt_of_le (Nat.sub_lt q Nat.one_pos) r
theorem ar_x3 (h: 1 <= m): 0 <= m - 1 /\ m - 1 < m:= ⟨Nat.zero_le _,Nat.sub_lt h Nat.one_pos⟩
theorem ar_x4 (h: n <= N) (v: x < n) (q: s = N) (u: l <= x) (r: t <= x): (l + t) / 2 < s:= by
 rw [q]
 refine Nat.lt_of_le_of_lt ?_ (Nat.lt_of_lt_of_le v h)
 exact Nat.div_le_of_le_mul (by rw [Nat.two_mul];exact Nat.add_le_add u r)
theorem ar_x5 (h: m + n = L) (q: m < L): m + 1 + (n - 1) = L:= by
 have: 0 < n:= Nat.pos_of_ne_zero fun e=> by rw [e] at h;exact Nat.ne_of_lt q h
 rw [Nat.add_assoc,Nat.add_sub_of_le this,h]
theorem ar_x6 (h: m + n = L) (q: m < L): n - 1 < n:= Nat.sub_lt (Nat.pos_of_ne_zero fun e=> by rw [e] at h;exact Nat.ne_of_lt q h) Nat.one_pos
theorem ar_x7 (h: ¬ m + 1 < 64): m = m - 1 + 1:= (Nat.sub_add_cancel (Nat.le_of_succ_le_succ (Nat.le_trans (by decide: 2 <= 64) (Nat.le_of_not_lt h)))).symm
theorem ar_x9 (h: L / 2 <= q) (r: c = 2 * q + 1 \/ c = 2 * q + 2): ¬ c < L:= by
 have h2: L < 2 * q + 2:= by
  show L < 2 * (q + 1)
  rw [Nat.mul_comm];exact Nat.lt_mul_of_div_lt (Nat.lt_succ_of_le h) (by decide)
 rcases r with rfl | rfl
 ·exact Nat.not_lt_of_le (Nat.le_of_lt_succ h2)
 ·exact Nat.not_lt_of_le (Nat.le_of_lt h2)
theorem ar_y2 (h: s = min n L) (q: L < 128): s < 128:= h ▸ Nat.lt_of_le_of_lt (Nat.min_le_right _ _) q
theorem ar_u0 (h: a + 8 * n + 5 <= 9000): a + 5 <= 9000:= Nat.le_trans (Nat.add_le_add_right (Nat.le_add_right a (8 * n)) 5) h
theorem ar_u2 (h: a + 8 * n + 5 <= 9000): a <= 9000:= Nat.le_trans (Nat.le_add_right a 5) (ar_u0 h)
theorem ar_u5 (h: a + 8 * n + 5 <= 9000): a + 1 + 1 <= 9000:= Nat.le_trans (Nat.add_le_add_left (by decide: 2 <= 5) a) (ar_u0 h)
theorem ar_u4 (h: a + 8 * n + 5 <= 9000): a + 1 + 1 <= 9100:= Nat.le_trans (ar_u5 h) (by decide)
theorem ar_u3 (h: a + 8 * n + 5 <= 9000): a + 1 <= 9100:= Nat.le_of_succ_le (ar_u4 h)
theorem ar_u6 (h: a + 8 * n + 5 <= 9000): a + 1 + 8 * n <= 9000:= by rw [Nat.add_right_comm];exact Nat.le_trans (Nat.add_le_add_left (by decide: 1 <= 5) _) h
theorem ar_u6' (h: a + 8 * n + 5 <= 9000): a + 1 + 1 + 8 * n <= 9000:= by rw [Nat.add_assoc a,Nat.add_right_comm];exact Nat.le_trans (Nat.add_le_add_left (by decide: 2 <= 5) _) h
theorem ar_u7 (h: m <= n) (q: a + 8 * n <= 9000): a + 8 * m <= 9000:= Nat.le_trans (Nat.add_le_add_left (Nat.mul_le_mul_left 8 h) a) q
theorem ar_u8 (h: m <= n) (q: a + n <= 800): a + m <= 800:= Nat.le_trans (Nat.add_le_add_left h a) q
theorem ar_u9 (h: a + 8 * (n + 1) <= 9000): a + 3 + 8 * n + 5 <= 9000:= by rw [Nat.add_right_comm a 3];exact h
theorem ar_u10 (h: n <= 400): 4 + 3 + 8 * n + 5 <= 9000:= Nat.le_trans (Nat.add_le_add_right (Nat.add_le_add_left (Nat.mul_le_mul_left 8 h) 7) 5) (by decide)
theorem ar_u11 (h: a + (n + 1) <= 800): a < 1000:= Nat.lt_of_le_of_lt (Nat.le_trans (Nat.le_add_right a _) h) (by decide)
theorem ar_u12 (h: a + n <= 800): a + 100 < 1000:= Nat.lt_of_le_of_lt (Nat.add_le_add_right (Nat.le_trans (Nat.le_add_right a n) h) 100) (by decide)
theorem ar_u13 (h: a + (n + 1) + 64 < c): a + 1 + n + 64 < c:= by rw [Nat.add_assoc a 1,Nat.add_comm 1];exact h
theorem ar_u13' (h: a + (n + 1) + 64 < c): a < c:= Nat.lt_of_le_of_lt (Nat.le_trans (Nat.le_add_right a (n + 1)) (Nat.le_add_right _ 64)) h
theorem ar_u14 (h: d <= 60) (q: a <= 9000): a + min d b < 9900:= Nat.lt_of_le_of_lt (Nat.add_le_add q (Nat.le_trans (Nat.min_le_left d b) h)) (by decide)
theorem ar_v0 (h: l < 128): l <= 1000:= Nat.le_trans (Nat.le_of_lt h) (by decide)
theorem ar_v1 (h: l < 128): min n l <= 1000:= Nat.le_trans (Nat.min_le_right _ _) (ar_v0 h)
theorem ar_v2 (h: l < 128) (q: s = l): min n s <= 1000:= ar_v1 (q ▸ h)
theorem ar_v3 (h: l < 128): l <= 16777216:= Nat.le_trans (Nat.le_of_lt h) (by decide)
theorem ar_v4 (h: l < 128) (q: s = j) (r: j < l): s <= 16777216:= q ▸ Nat.le_trans (Nat.le_of_lt r) (ar_v3 h)
theorem ar_v6 {z: Int} (h: z ≠ 1) (q: 0 < z): z = z.toNat:= (Int.toNat_of_nonneg (Int.le_of_lt q)).symm
theorem ar_v6' {z: Int} (h: 2 <= l) (q: (l: Int) <= z): z = z.toNat:= (Int.toNat_of_nonneg (Int.le_trans (Int.natCast_nonneg l) q)).symm
theorem ar_v7 {z: Int} (h: ¬ z <= 0): 0 < z.toNat:= Int.lt_toNat.mpr (Int.not_le.mp h)
theorem ar_v8 {z: Int} (h2: 2 <= l) (h: ¬ z <= 0) (e: s = min z.toNat l): 0 < s:= e ▸ Nat.lt_min.mpr ⟨ar_v7 h,Nat.lt_of_lt_of_le (by decide) h2⟩
theorem ar_v9 {z: Int} (h2: 2 <= l) (h: z ≠ 1) (q: 0 < z) (e: s = min z.toNat l): 2 <= s:= by
 rw [e]
 exact Nat.le_min.mpr ⟨Int.le_toNat (Int.le_of_lt q) |>.mpr (Int.lt_iff_le_and_ne.mpr ⟨q,fun e=> h e.symm⟩),h2⟩
theorem ar_v10 {z: Int} (h: z <= 0): min z.toNat l = 0:= by rw [Int.toNat_of_nonpos h];exact Nat.zero_min _
theorem ar_h1 (e: s = L) (h: k < L / 2) (q: L / 2 - 1 - k = j): j < s:= by
 rw [e,<- q];exact Nat.lt_of_le_of_lt (Nat.sub_le _ _) (Nat.lt_of_lt_of_le (Nat.sub_one_lt_of_lt h) (Nat.div_le_self _ _))
theorem ar_h2 (h: k < L) (q: L - 1 - k = j): L - k = j + 1:= by
 rw [<- q,Nat.sub_right_comm];exact (Nat.sub_add_cancel (Nat.sub_pos_of_lt h)).symm
theorem ar_h3 (h: k < L / 2): (L: Int) / 2 - 1 + -(k: Int) = ((L / 2 - 1 - k: Nat): Int):= by
 rw [Int.ofNat_sub (Nat.le_sub_one_of_lt h),Int.ofNat_sub (Nat.one_le_of_lt h)];rfl
theorem ar_h4 (h: L <= 1000000): ((L / 2: Nat): Int) <= 1000000:= Int.ofNat_le.mpr (Nat.le_trans (Nat.div_le_self _ _) h)
theorem ar_a1 (h: k < r): k + (r - k - 1) = r - 1:= by rw [Nat.sub_right_comm,Nat.add_sub_of_le (Nat.le_sub_one_of_lt h)]
theorem ar_a2 (h: k < r) (q: n <= l): k + (r - k + n) <= r + l:= by rw [<- Nat.add_assoc,Nat.add_sub_of_le (Nat.le_of_lt h)];exact Nat.add_le_add_left q r
theorem ar_a3 (h: k < r): 0 + k + 0 + (r - k + n) = r + n:= by rw [Nat.zero_add,Nat.add_zero,<- Nat.add_assoc,Nat.add_sub_of_le (Nat.le_of_lt h)]
theorem ar_a4 (h: k <= r) (q: (r - k == 0) = true): k = r:= Nat.le_antisymm h (Nat.sub_eq_zero_iff_le.mp (eq_of_beq q))
theorem ar_a5 (h: i < j) (q: j < n /\ j < l): i < n:= Nat.lt_trans h q.1
theorem ar_kd (h: 2 * p + 1 < L) (hc: p < c): L - c < L - p:= Nat.sub_lt_sub_left (Nat.lt_of_le_of_lt (by rw [Nat.two_mul];exact Nat.le_trans (Nat.le_add_left p p) (Nat.le_succ _)) h) hc
theorem ar_abs {P: Prop} (h: L - p <= 0) (q: p < L): P:= absurd q (ar_end h)
theorem ar_half1: (2 * p + 1 - 1) / 2 = p:= Nat.mul_div_cancel_left p (by decide)
theorem ar_half2: (2 * p + 2 - 1) / 2 = p:= by
 show (2 * p + 1) / 2 = p
 rw [Nat.mul_add_div (by decide)];rfl
theorem ar_kup (h: c = 2 * q + 1 \/ c = 2 * q + 2): (c - 1) / 2 = q:= by
 rcases h with rfl | rfl
 ·exact ar_half1
 ·exact ar_half2
theorem ar_two (h: i > 0): i = 2 * ((i - 1) / 2) + 1 \/ i = 2 * ((i - 1) / 2) + 2:= by
 obtain ⟨j,rfl⟩: ∃ j,i = j + 1:= ⟨i - 1,(Nat.sub_add_cancel h).symm⟩
 have e:= Nat.div_add_mod j 2
 show j + 1 = 2 * (j / 2) + 1 \/ j + 1 = 2 * (j / 2) + 2
 rcases Nat.mod_two_eq_zero_or_one j with q | q
 ·exact .inl (by rw [q] at e;exact congrArg (· + 1) e.symm)
 ·exact .inr (by rw [q] at e;exact congrArg (· + 1) e.symm)
theorem ar_p1 (h: ¬ l >= r): (l + r) / 2 < r:= Nat.div_lt_of_lt_mul (by rw [Nat.two_mul];exact Nat.add_lt_add_right (Nat.lt_of_not_le h) r)
theorem ar_p2 (h: ¬ l >= r): l <= (l + r) / 2:= (Nat.le_div_iff_mul_le (by decide)).mpr (by rw [Nat.mul_two];exact Nat.add_le_add_left (Nat.le_of_lt (Nat.lt_of_not_le h)) l)
theorem ar_p3 (h: k < N) (q: r <= k) (u: ¬ l >= r): (l + r) / 2 < N:= Nat.lt_trans (Nat.lt_of_lt_of_le (ar_p1 u) q) h
theorem ar_p4 (q: r <= k) (u: ¬ l >= r): (l + r) / 2 < k:= Nat.lt_of_lt_of_le (ar_p1 u) q
theorem ar_p5 (q: r <= l + (f + 1)) (u: ¬ l >= r): (l + r) / 2 <= l + f:= Nat.le_of_lt_succ (Nat.lt_of_lt_of_le (ar_p1 u) q)
theorem ar_p6 (u: ¬ l >= r) (q: r <= l + (f + 1)): r <= (l + r) / 2 + 1 + f:= by
 rw [Nat.add_assoc,Nat.add_comm 1];exact Nat.le_trans q (Nat.add_le_add_right (ar_p2 u) _)
theorem ar_p7 (q: t <= x) (u: ¬ l >= t): (l + t) / 2 + 1 <= x:= Nat.lt_of_lt_of_le (ar_p1 u) q
theorem ar_j1 (h: n <= L): n - 1 <= L:= Nat.le_trans (Nat.sub_le _ _) h
theorem ar_j2 (h: 1 < n) (q: ¬ (n - 1 == 1) = true): 1 < n - 1:= Nat.lt_of_le_of_ne (Nat.le_sub_one_of_lt h) fun e=> q (by rw [<- e];rfl)
theorem ar_j3 (h: a + b < n + 1 - max 0 (c + d)) (p1: 0 < a) (p2: 1 < b) (p3: a <= c) (p4: b <= d): a + b < n:= by
 rw [Nat.zero_max] at h
 exact Nat.lt_of_lt_of_le h (Nat.sub_le_of_le_add (Nat.add_le_add_left (Nat.le_trans p1 (Nat.le_trans p3 (Nat.le_add_right c d))) n))
theorem ar_j5 (h: 0 < a): a - 1 + b < a + b - 0:= Nat.add_lt_add_right (Nat.sub_lt h Nat.one_pos) b
theorem ar_j6 (h: k <= n) (q: ¬ n - k > 0): k = n:= Nat.le_antisymm h (Nat.sub_eq_zero_iff_le.mp (Nat.le_zero.mp (Nat.le_of_not_lt q)))
theorem ar_j7 (h: a + b <= n) (q: k <= a): k + b <= n:= Nat.le_trans (Nat.add_le_add_right q b) h
theorem ar_j8 (h: m < n - x): m < n + 1 - (x + 1):= by rw [Nat.add_sub_add_right];exact h
theorem ar_j9 (h: n <= a + b): n <= a + (b + 1 + k):= Nat.le_trans h (Nat.add_le_add_left (Nat.le_trans (Nat.le_succ b) (Nat.le_add_right _ _)) a)
theorem ar_j10 (h: n <= a + b): n <= a + k + b:= Nat.le_trans h (Nat.add_le_add_right (Nat.le_add_right a k) b)
theorem ar_k1 (h: i < j) (q: j < k + 1) (u: i = m): m < j /\ j <= k:= ⟨u ▸ h,Nat.le_of_lt_succ q⟩
theorem ar_k2 (q: j < k + 1) (u: m < j): m < j /\ j <= k:= ⟨u,Nat.le_of_lt_succ q⟩
theorem ar_k3 (h: m <= k) (q: ¬ j = m) (u: ¬ m < j): j < k:= Nat.lt_of_lt_of_le (Nat.lt_of_le_of_ne (Nat.le_of_not_lt u) q) h
theorem ar_k4 (h: m <= N) (q: k + (f + 1) = m) (u: i < j) (v: j < k + 1): i < N:= Nat.lt_of_lt_of_le (Nat.lt_of_lt_of_le u (Nat.le_of_lt_succ v)) (Nat.le_trans (Nat.le_of_lt (ar_f q)) h)
theorem ar_k5 (h: k + 1 <= i): ¬ (m < i /\ i <= k):= fun q=> Nat.lt_irrefl _ (Nat.lt_of_lt_of_le h q.2)
theorem ar_k6 (h: m <= k) (q: k + 1 <= i): ¬ i = m:= fun e=> Nat.lt_irrefl _ (Nat.lt_of_le_of_lt h (e ▸ q))
theorem ar_k7 (h: m <= N) (q: k + (f + 1) = m): k < N:= Nat.lt_of_lt_of_le (ar_f q) h
theorem ar_k8 (h: i < j) (q: j = m): ¬ (m < i /\ i <= k):= fun u=> Nat.lt_irrefl _ (Nat.lt_trans h (q ▸ u.1))
theorem ar_k9 (h: i < j) (q: j < n): 0 <= i /\ i < n:= ⟨Nat.zero_le _,Nat.lt_trans h q⟩
theorem ar_k10 (h: n <= s) (u: i < j) (q: j < n): i < s:= Nat.lt_of_lt_of_le (Nat.lt_trans u q) h
theorem ar_k11 (h: s = N) (q: n <= N) (u: k < n): k < s:= h ▸ Nat.lt_of_lt_of_le u q
theorem ar_k12 (h: s = N) (q: n <= N) (u: k < n): k <= s:= Nat.le_of_lt (ar_k11 h q u)
theorem ar_k13 (h: k < min n s): k < s:= (Nat.lt_min.mp h).2
theorem ar_k14 (h: k < min n s): k < n:= (Nat.lt_min.mp h).1
theorem ar_k15 (h: ¬ n <= i + q): ¬ n + 1 <= i + (q + 1):= fun u=> h (Nat.le_of_succ_le_succ u)
theorem ar_k16 (h: n + (f + 1) = N) (q: s = N): n <= s:= Nat.le_of_lt (ar_f3 h q)
theorem ar_k17 (h: m <= N) (q: s = N) (u: ¬ (m == N) = true): m < s:= q ▸ Nat.lt_of_le_of_ne h fun e=> u (by rw [e];exact beq_self_eq_true N)
theorem ar_k18 (h: m <= N) (u: ¬ (m == N) = true) (q: s = N) (v: r <= max (m + 1) N): r <= s:= by
 rw [q]
 exact Nat.le_trans v (Nat.max_le.mpr ⟨Nat.lt_of_le_of_ne h fun e=> u (by rw [e];exact beq_self_eq_true N),Nat.le_refl _⟩)
theorem ar_k19 (h: N = s) (q: 1 <= N - n): n + (N - n) = s:= h ▸ Nat.add_sub_of_le (Nat.le_of_lt (Nat.lt_of_sub_pos q))
theorem ar_k20 (h: n < N) (q: s = N): min n s = n:= Nat.min_eq_left (Nat.le_of_lt (q ▸ h))
theorem ar_k21 (h: i >= N): N <= i - n + n:= Nat.le_trans h ar_ps12
theorem ar_k22 (h: n <= N) (q: i < n): i < min n N:= Nat.lt_min.mpr ⟨q,Nat.lt_of_lt_of_le q h⟩
theorem ar_k23 (h: n + m = s) (q: x < m): n + x < s:= h ▸ Nat.add_lt_add_left q n
theorem ar_k24 (h: i <= l) (q: ¬ i < l): i = l:= Nat.le_antisymm h (Nat.le_of_not_lt q)
theorem ar_k25 (h: l - (j + 1) = 0) (q: j + 1 <= l): j + 1 = l:= Nat.le_antisymm q (Nat.sub_eq_zero_iff_le.mp h)
theorem ar_k26 (h: a - i = 0) (q: i <= a) (u: i <= b): a < b ↔ 0 < b - i:= by
 rw [Nat.le_antisymm q (Nat.sub_eq_zero_iff_le.mp h)];exact Nat.sub_pos_iff_lt.symm
theorem ar_k27 (h: a + x = b): a < b ↔ 0 < x:= by rw [<- h];exact Nat.lt_add_right_iff_pos
theorem ar_k28 (h: n < N) (q: 0 = N - n): False:= Nat.lt_irrefl _ (q ▸ Nat.sub_pos_of_lt h)
theorem ar_k31 (h: ¬ i < j) (q: i ≠ j): j < i:= Nat.lt_of_le_of_ne (Nat.le_of_not_lt h) q.symm
theorem ar_i1 {z: Int} (h: 0 <= z) (q: z.toNat < L): -(L: Int) <= z /\ z < L:= ⟨Int.le_trans (Int.neg_nonpos_of_nonneg (Int.natCast_nonneg L)) h,by rw [<- Int.toNat_of_nonneg h];exact Int.ofNat_lt.mpr q⟩
theorem ar_i2 {z: Int} (h: L <= 1000000) (q: -(L: Int) <= z /\ z < L): z < 2 ^ 63:= Int.lt_trans q.2 (Int.lt_of_le_of_lt (Int.ofNat_le.mpr h) (by decide))
theorem ar_i3 {z: Int} (h: L <= 1000000) (q: -(L: Int) <= z /\ z < L): -2 ^ 63 <= z:= Int.le_trans (Int.le_trans (by decide: (-2 ^ 63: Int) <= -((1000000: Nat): Int)) (Int.neg_le_neg (Int.ofNat_le.mpr h))) q.1
theorem ar_i4 {z: Int} (q: -(L: Int) <= z /\ z < L) (h: s = L): z < s:= h ▸ q.2
theorem ar_i5 {z: Int} (q: -(L: Int) <= z /\ z < L) (h: s = L): -(s: Int) <= z:= h ▸ q.1
theorem ar_i6 {z: Int} (q: z < L) (h: L <= 1000000): z < 2 ^ 63:= Int.lt_trans q (Int.lt_of_le_of_lt (Int.ofNat_le.mpr h) (by decide))
theorem ar_i7 (h: L <= 1000000) (q: s = L): (s: Int) < 9223372036854775808:= q ▸ Int.lt_of_le_of_lt (Int.ofNat_le.mpr h) (by decide)
theorem ar_i8 (h: s < p): ((p: Int) - 1) / 2 = (((p - 1) / 2: Nat): Int):= by
 rw [Int.natCast_ediv,Int.ofNat_sub (Nat.one_le_of_lt h)];rfl
theorem ar_i9 (h: s = L) (q: p < s): (p: Int) < L:= h ▸ Int.ofNat_lt.mpr q
theorem ar_i10 (h: s = L) (q: ¬ p < s): ¬ (p: Int) < L:= fun e=> q (h ▸ Int.ofNat_lt.mp e)
theorem ar_i11 {z: Int} (h: ¬ z - (i: Int) <= 0): ((i + 1: Nat): Int) <= z:= Int.add_one_le_of_lt (Int.lt_of_sub_pos (Int.not_le.mp h))
theorem ar_clamp: max 0 (min (k: Int) (L: Int)) = ((min k L: Nat): Int):= by
 rw [Int.max_eq_right (Int.le_min.mpr ⟨Int.natCast_nonneg k,Int.natCast_nonneg L⟩)]
 rcases Nat.le_total k L with h | h
 ·rw [Nat.min_eq_left h,Int.min_eq_left (Int.ofNat_le.mpr h)]
 ·rw [Nat.min_eq_right h,Int.min_eq_right (Int.ofNat_le.mpr h)]
end
set_option maxRecDepth 100000
open PySem PySem.W PyProof.Rows
noncomputable def Sm (s s': Shared): Prop:= s'.os = s.os /\ s'.gens = s.gens
theorem Sm.rfl {s: Shared}: Sm s s:= ⟨Eq.refl _,Eq.refl _⟩
theorem Sm.trans {a b c: Shared} (x: Sm a b) (y: Sm b c): Sm a c:= ⟨y.1.trans x.1,y.2.trans x.2⟩
inductive V where
 | none
 | bool (b: Bool)
 | int (i: Int)
 | str (s: Str)
 | ref (a: Addr)
 | val (v: Value)
 | tup (vs: List V)
 | rng (a b c: Int)
 | obj (a: Addr)
 | func (fd: FuncData)
noncomputable def Imm (o: Obj): Prop:= (o.cls = .type "tuple" /\ ∃ vs n,o.data = .seq vs n) \/ ((o.cls = .type "range" \/ ∃ vs q t,o.data = .fields vs /\ vs[1]? = some (.str q t)) /\ ∃ vs,o.data = .fields vs) \/ (∃ fd,o.data = .func fd) \/ o.data = .plain
mutual
inductive Rep (h: Heap): Value -> V -> Prop
 | none: Rep h .none .none
 | bool (b: Bool): Rep h (.bool b) (.bool b)
 | int (i: Int) (t: Tok): Rep h (.int i t) (.int i)
 | str (s: Str) (t: Tok): Rep h (.str s t) (.str s)
 | ref (a: Addr): Rep h (.ref a) (.ref a)
 | val (v: Value): Rep h v (.val v)
 | tup {a: Addr} {vs: List Value} {xs: List V}: IsTup h a vs.toArray -> Reps h vs xs -> Rep h (.ref a) (.tup xs)
 | rng {r: Addr} {a b c: Int} {t u v: Tok}: IsRange h r a b c t u v -> Rep h (.ref r) (.rng a b c)
 | obj {a: Addr} {o: Obj}: h.get? a = some o -> o.data = .plain -> Rep h (.ref a) (.obj a)
 | func {a: Addr} {o: Obj} {fd: FuncData}: h.get? a = some o -> o.data = .func fd -> h.CodeRec fd.code fd.qualname -> Rep h (.ref a) (.func fd)
inductive Reps (h: Heap): List Value -> List V -> Prop
 | nil: Reps h [] []
 | cons {v: Value} {x: V} {vs: List Value} {xs: List V}: Rep h v x -> Reps h vs xs -> Reps h (v :: vs) (x :: xs)
end
section
variable {h: Heap} {v: Value}
noncomputable def RepI (h: Heap) (v: Value): V -> Prop
 | .none=> v = .none
 | .bool b=> v = .bool b
 | .int i=> ∃ t,v = .int i t
 | .str x=> ∃ t,v = .str x t
 | .ref a=> v = .ref a
 | .val w=> v = w
 | .tup xs=> ∃ a vs,v = .ref a /\ IsTup h a vs.toArray /\ Reps h vs xs
 | .rng a b c=> ∃ l t u w,v = .ref l /\ IsRange h l a b c t u w
 | .obj a=> ∃ o,v = .ref a /\ h.get? a = some o /\ o.data = .plain
 | .func fd=> ∃ a o,v = .ref a /\ h.get? a = some o /\ o.data = .func fd /\ h.CodeRec fd.code fd.qualname
noncomputable def RepsI (h: Heap) (vs: List Value): List V -> Prop
 | []=> vs = []
 | x :: xs=> ∃ v us,vs = v :: us /\ Rep h v x /\ Reps h us xs
theorem Rep.inv {x: V} (r: Rep h v x): RepI h v x:=
 Rep.rec (motive_1:= fun v x _=> RepI h v x) (motive_2:= fun _ _ _=> True) rfl (fun _=> rfl) (fun _ t=> ⟨t,rfl⟩) (fun _ t=> ⟨t,rfl⟩) (fun _=> rfl) (fun _=> rfl)
  (fun y q _=> ⟨_,_,rfl,y,q⟩) (fun y=> ⟨_,_,_,_,rfl,y⟩) (fun y q=> ⟨_,rfl,y,q⟩) (fun y q k=> ⟨_,_,rfl,y,q,k⟩) True.intro (fun _ _ _ _=> True.intro) r
theorem Reps.inv {vs: List Value} {xs: List V} (r: Reps h vs xs): RepsI h vs xs:=
 Reps.rec (motive_1:= fun _ _ _=> True) (motive_2:= fun vs xs _=> RepsI h vs xs) True.intro (fun _=> True.intro) (fun _ _=> True.intro) (fun _ _=> True.intro) (fun _=> True.intro) (fun _=> True.intro)
  (fun _ _ _=> True.intro) (fun _=> True.intro) (fun _ _=> True.intro) (fun _ _ _=> True.intro) rfl (fun a b _ _=> ⟨_,_,rfl,a,b⟩) r
theorem Rep.iint {i: Int} (r: Rep h v (.int i)): ∃ t,v = .int i t:= r.inv
theorem Rep.istr {x: Str} (r: Rep h v (.str x)): ∃ t,v = .str x t:= r.inv
theorem Rep.iref {a: Addr} (r: Rep h v (.ref a)): v = .ref a:= r.inv
theorem Rep.inone (r: Rep h v .none): v = .none:= r.inv
theorem Rep.ibool {b: Bool} (r: Rep h v (.bool b)): v = .bool b:= r.inv
theorem Rep.irng {a b c: Int} (r: Rep h v (.rng a b c)): ∃ l t u w,v = .ref l /\ IsRange h l a b c t u w:= r.inv
theorem Rep.itup {xs: List V} (r: Rep h v (.tup xs)): ∃ a vs,v = .ref a /\ IsTup h a vs.toArray /\ Reps h vs xs:= r.inv
theorem Rep.iobj {a: Addr} (r: Rep h v (.obj a)): ∃ o,v = .ref a /\ h.get? a = some o /\ o.data = .plain:= r.inv
theorem Rep.ifunc {fd: FuncData} (r: Rep h v (.func fd)): ∃ a o,v = .ref a /\ h.get? a = some o /\ o.data = .func fd /\ h.CodeRec fd.code fd.qualname:= r.inv
theorem Reps.inil {vs: List Value} (r: Reps h vs []): vs = []:= r.inv
theorem Reps.icons {vs: List Value} {x: V} {xs: List V} (r: Reps h vs (x :: xs)): ∃ v us,vs = v :: us /\ Rep h v x /\ Reps h us xs:= r.inv
end
inductive AObj where
 | list (xs: List V)
 | flist (xs: List V)
 | iter (src: Option Addr) (i: Nat)
 | tab (ps: Array Value) (q: Str)
 | cell (v: V)
abbrev Hp:= Addr -> Option AObj
noncomputable def upd (σ: Hp) (a: Addr) (o: AObj): Hp:= fun b=> if b = a then some o else σ b
theorem upd_same (σ: Hp) (a: Addr) (o: AObj): upd σ a o a = some o:= if_pos rfl
theorem upd_ne (σ: Hp) {a b: Addr} (o: AObj) (h: b ≠ a): upd σ a o b = σ b:= if_neg h
theorem upd_upd (σ: Hp) (a: Addr) (o o': AObj): upd (upd σ a o) a o' = upd σ a o':= by
 funext b;unfold upd;split <;> rfl
theorem ne_of_none {σ: Hp} {a b: Addr} {o: AObj} (h: σ a = none) (h': σ b = some o): b ≠ a:= by
 rintro rfl;rw [h] at h';cases h'
theorem upd_id {σ: Hp} {a: Addr} {o: AObj} (h: σ a = some o): upd σ a o = σ:= by
 funext b;unfold upd;split
 ·rename_i e;rw [e,h]
 ·rfl
noncomputable def AObj.mut: AObj -> Bool
 | .list _=> true
 | .flist _=> false
 | .iter _ _=> true
 | .tab _ _=> true
 | .cell _=> false
noncomputable def TObj (ps: Array Value): Obj:= { cls:= .none,data:= .fields ps }
noncomputable def LObj (vs: List Value) (n: Nat): Obj:= { cls:= .type "list",dict:= none,data:= .seq vs.toArray n,slots:= #[] }
noncomputable def Holds (h: Heap) (a: Addr): AObj -> Prop
 | .list xs=> ∃ (vs: List Value) (n: Nat),h.get? a = some (LObj vs n) /\ Reps h vs xs
 | .flist xs=> ∃ vs: List Value,h.IsList a vs.toArray /\ Reps h vs xs
 | .iter (some l) i=> h.IsListIter a l i
 | .iter none i=> ∃ o,h.get? a = some o /\ o.cls = .type "list_iterator" /\ o.data = .fields #[.none,.int i 0]
 | .tab ps q=> h.get? a = some (TObj ps) /\ TriplesOk ps.toList /\ ∀ p cv,codeAmong p ps.toList = some cv -> h.CodeRec cv q
 | .cell v=> ∃ w,h.IsCell a (some w) /\ Rep h w v
noncomputable def BIG: Nat:= 1000000
noncomputable def AObj.small: AObj -> Prop
 | .list xs=> xs.length <= BIG
 | .flist xs=> xs.length <= BIG
 | .iter _ _=> True
 | .tab _ _=> True
 | .cell _=> True
noncomputable def Mut (σ: Hp) (a: Addr): Prop:= ∃ o,σ a = some o /\ o.mut = true
structure W (h₀: Heap) (σ: Hp) (h: Heap): Prop where
 stays: ∀ b o,h₀.get? b = some o -> h.get? b = some o
 holds: ∀ a o,σ a = some o -> Holds h a o
 above: ∀ a,Mut σ a -> h₀.get? a = none
 small: ∀ a o,σ a = some o -> o.small
noncomputable def Keep (σ: Hp) (h h': Heap): Prop:= ∀ a o,¬ Mut σ a -> h.get? a = some o -> h'.get? a = some o
noncomputable def Grow (σ: Hp) (h: Heap) (σ': Hp): Prop:= ∀ a,(Mut σ' a -> Mut σ a \/ h.get? a = none) /\ (σ' a ≠ none -> σ a ≠ none \/ h.get? a = none)
theorem Grow.refl (σ: Hp) (h: Heap): Grow σ h σ:= fun _=> ⟨.inl,.inl⟩
theorem Grow.not {σ σ': Hp} {h: Heap} (g: Grow σ h σ') {a: Addr} {o: Obj} (e: h.get? a = some o) (n: ¬ Mut σ a): ¬ Mut σ' a:= fun m=>
 ((g a).1 m).elim n fun q=> by rw [e] at q;cases q
theorem Grow.none {σ σ': Hp} {h: Heap} (g: Grow σ h σ') {a: Addr} {o: Obj} (e: h.get? a = some o) (n: σ a = none): σ' a = none:= by
 cases q: σ' a with
 | none=> rfl
 | some p=> exact (((g a).2 (by rw [q];simp)).elim (fun r=> r n) fun r=> by rw [e] at r;cases r).elim
theorem tri_str {a: Value} {q: Str} {tk: Tok} {r: List Value} (t: TriplesOk (a :: .str q tk :: r)): False:= by cases a <;> exact t
theorem tab_snd: ∀ {l: List Value} {q: Str} {tk: Tok},TriplesOk l -> l[1]? = some (.str q tk) -> False
 | [],_,_,_,e=> nomatch e
 | [_],_,_,_,e=> nomatch e
 | _ :: _ :: _,_,_,t,e=> by rw [Option.some.inj e] at t;exact tri_str t
theorem tab_not_imm {ps: Array Value} (t: TriplesOk ps.toList): ¬ Imm (TObj ps):= fun i=> by
 rcases i with ⟨i,_⟩ | ⟨i | ⟨vs,q,tk,e,e2⟩,_⟩ | ⟨fd,i⟩ | i
 ·cases i
 ·cases i
 ·cases e
  exact tab_snd t (by rw [<- e2];simp)
 ·cases i
 ·cases i
theorem seq_not_imm {p: Obj} {vs: Array Value} {n: Nat} (hc: p.cls = .type "list") (hd: p.data = .seq vs n): ¬ Imm p:= fun i=> by
 unfold Imm at i
 rw [hc,hd] at i
 rcases i with ⟨i,_⟩ | ⟨_,_,i⟩ | ⟨_,i⟩ | i
 ·exact absurd (Value.type.inj i) (by decide)
 ·exact nomatch i
 ·exact nomatch i
 ·exact nomatch i
theorem fld_not_imm {p: Obj} {T: String} {vs: Array Value} (hc: p.cls = .type T) (hT: T ≠ "tuple" /\ T ≠ "range") (hd: p.data = .fields vs) (hs: ∀ q t,vs[1]? ≠ some (.str q t)): ¬ Imm p:= fun i=> by
 unfold Imm at i
 rw [hc,hd] at i
 rcases i with ⟨i,_⟩ | ⟨i | ⟨us,q,t,e,e2⟩,_⟩ | ⟨_,i⟩ | i
 ·exact hT.1 (Value.type.inj i)
 ·exact hT.2 (Value.type.inj i)
 ·rw [<- Data.fields.inj e] at e2;exact hs _ _ e2
 ·exact nomatch i
 ·exact nomatch i
theorem cel_not_imm {p: Obj} {v: Option Value} (hd: p.data = .cell v): ¬ Imm p:= fun i=> by
 unfold Imm at i
 rw [hd] at i
 rcases i with ⟨_,_,_,i⟩ | ⟨_,_,i⟩ | ⟨_,i⟩ | i <;> exact nomatch i
theorem two_not_str {a b: Value} {r: List Value} (h: ∀ q t,b ≠ .str q t) (q: Str) (t: Tok): ((a :: b :: r).toArray)[1]? ≠ some (.str q t):= fun e=> h q t (Option.some.inj e)
theorem holds_not_imm {h: Heap} {a: Addr} {o: AObj} {p: Obj} (x: Holds h a o) (e: h.get? a = some p) (i: Imm p): False:= by
 cases o with
 | list xs=> obtain ⟨_,n,e2,_⟩:= x;obtain rfl:= Option.some.inj (e.symm.trans e2);exact seq_not_imm rfl rfl i
 | flist xs=> obtain ⟨_,⟨o2,e2,c2,n,d2⟩,_⟩:= x;obtain rfl:= Option.some.inj (e.symm.trans e2);exact seq_not_imm c2 d2 i
 | iter l i'=> cases l <;> (obtain ⟨o2,e2,c2,d2⟩:= x;obtain rfl:= Option.some.inj (e.symm.trans e2);exact fld_not_imm c2 (by decide) d2 (two_not_str fun q t k=> nomatch k) i)
 | tab ps q=> obtain ⟨e2,t,_⟩:= x;obtain rfl:= Option.some.inj (e.symm.trans e2);exact tab_not_imm t i
 | cell v=> obtain ⟨w,⟨o2,e2,d2⟩,_⟩:= x;obtain rfl:= Option.some.inj (e.symm.trans e2);exact cel_not_imm d2 i
noncomputable def Tups (h h': Heap): Prop:= ∀ a o,h.get? a = some o -> Imm o -> h'.get? a = some o
theorem tup_keep {h₀: Heap} {σ: Hp} {h h': Heap} (w: W h₀ σ h) (k: Keep σ h h'): Tups h h':= fun a p e i=>
 k a p (fun ⟨o,q,_⟩=> holds_not_imm (w.holds a o q) e i) e
theorem Tups.tup {h h': Heap} (k: Tups h h') {a: Addr} {vs: Array Value} (y: IsTup h a vs): IsTup h' a vs:= by
 obtain ⟨o1,e1,c,n,r⟩:= y;exact ⟨o1,k a o1 e1 (.inl ⟨c,_,_,r⟩),c,n,r⟩
theorem Tups.code {h h': Heap} (k: Tups h h') {cd: Value} {q: Str} (y: h.CodeRec cd q): h'.CodeRec cd q:= by
 obtain ⟨c,o,vs,t,e,g,d,s⟩:= y;exact ⟨c,o,vs,t,e,k c o g (.inr (.inl ⟨.inr ⟨vs,q,t,d,s⟩,_,d⟩)),d,s⟩
theorem Rep.tups {h h': Heap} (k: Tups h h') {v: Value} {x: V} (r: Rep h v x): Rep h' v x:=
 Rep.rec (motive_1:= fun v x _=> Rep h' v x) (motive_2:= fun vs xs _=> Reps h' vs xs) .none .bool .int .str .ref .val (fun y _ q=> .tup (k.tup y) q)
  (fun y=> .rng (k _ _ y (.inr (.inl ⟨.inl rfl,_,rfl⟩)))) (fun e c=> .obj (k _ _ e (.inr (.inr (.inr c)))) c) (fun e c d=> .func (k _ _ e (.inr (.inr (.inl ⟨_,c⟩)))) c (k.code d)) .nil (fun _ _ a b=> .cons a b) r
theorem Reps.tups {h h': Heap} (k: Tups h h') {vs: List Value} {xs: List V} (r: Reps h vs xs): Reps h' vs xs:=
 Reps.rec (motive_1:= fun _ _ _=> True) (motive_2:= fun vs xs _=> Reps h' vs xs) True.intro (fun _=> True.intro) (fun _ _=> True.intro) (fun _ _=> True.intro) (fun _=> True.intro) (fun _=> True.intro)
  (fun _ _ _=> True.intro) (fun _=> True.intro) (fun _ _=> True.intro) (fun _ _ _=> True.intro) .nil (fun a _ _ b=> .cons (a.tups k) b) r
noncomputable def IsD (o: Obj): Prop:= ∃ es n,o.data = .dict es n
structure StepX (own: Addr -> Prop) (h₀: Heap) (σ: Hp) (h: Heap) (σ': Hp) (h': Heap): Prop where
 w: W h₀ σ' h'
 keep: ∀ a o,¬ Mut σ a -> ¬ own a -> ¬ IsD o -> h.get? a = some o -> h'.get? a = some o
 dict: ∀ a o,¬ Mut σ a -> ¬ own a -> IsD o -> h.get? a = some o -> ∃ sl,h'.get? a = some { o with slots:= sl }
 grow: Grow σ h σ'
 tups: Tups h h'
 alive: ∀ a o,h.get? a = some o -> ∃ o',h'.get? a = some o' /\ (IsD o -> IsD o')
noncomputable def nobody: Addr -> Prop:= fun _=> False
abbrev Step (h₀: Heap) (σ: Hp) (h: Heap) (σ': Hp) (h': Heap): Prop:= StepX nobody h₀ σ h σ' h'
theorem Step.of {h₀: Heap} {σ: Hp} {h: Heap} {σ': Hp} {h': Heap} (w₀: W h₀ σ h) (w: W h₀ σ' h') (k: Keep σ h h') (g: Grow σ h σ') (al: ∀ a o,h.get? a = some o -> ∃ o',h'.get? a = some o' /\ (IsD o -> IsD o')): Step h₀ σ h σ' h':=
 ⟨w,fun a o n _ _ e=> k a o n e,fun a o n _ _ e=> ⟨o.slots,k a o n e⟩,g,tup_keep w₀ k,al⟩
theorem Step.keeps {h₀: Heap} {σ: Hp} {h: Heap} {σ': Hp} {h': Heap} (s: Step h₀ σ h σ' h') (a: Addr) (o: Obj) (n: ¬ Mut σ a) (d: ¬ IsD o) (e: h.get? a = some o): h'.get? a = some o:= s.keep a o n (fun f=> f) d e
theorem StepX.more {own own': Addr -> Prop} {h₀: Heap} {σ: Hp} {h: Heap} {σ': Hp} {h': Heap} (s: StepX own h₀ σ h σ' h') (i: ∀ a,own a -> own' a): StepX own' h₀ σ h σ' h':=
 ⟨s.w,fun a o n m d e=> s.keep a o n (fun q=> m (i a q)) d e,fun a o n m d e=> s.dict a o n (fun q=> m (i a q)) d e,s.grow,s.tups,s.alive⟩
theorem Step.any {own: Addr -> Prop} {h₀: Heap} {σ: Hp} {h: Heap} {σ': Hp} {h': Heap} (s: Step h₀ σ h σ' h'): StepX own h₀ σ h σ' h':= s.more fun _ f=> f.elim
theorem StepX.refl {own: Addr -> Prop} {h₀: Heap} {σ: Hp} {h: Heap} (w: W h₀ σ h): StepX own h₀ σ h σ h:= ⟨w,fun _ _ _ _ _ e=> e,fun _ o _ _ _ e=> ⟨o.slots,e⟩,.refl _ _,fun _ _ e _=> e,fun _ o e=> ⟨o,e,id⟩⟩
theorem StepX.trans {own: Addr -> Prop} {h₀: Heap} {σ σ' σ'': Hp} {h h' h'': Heap} (x: StepX own h₀ σ h σ' h') (y: StepX own h₀ σ' h' σ'' h''): StepX own h₀ σ h σ'' h'':=
 ⟨y.w,fun a o n m d e=> y.keep a o (x.grow.not e n) m d (x.keep a o n m d e),(fun a o n m d e=> by
  obtain ⟨sl,e1⟩:= x.dict a o n m d e
  exact y.dict a { o with slots:= sl } (x.grow.not e n) m (by obtain ⟨es,k,q⟩:= d;exact ⟨es,k,q⟩) e1),(fun a=> by
  have key: h'.get? a = none -> h.get? a = none:= fun q=> by
   cases e: h.get? a with
   | none=> rfl
   | some o=> obtain ⟨o',e',_⟩:= x.alive a o e;rw [e'] at q;exact absurd q (by simp)
  refine ⟨fun m=> ?_,fun m=> ?_⟩
  ·rcases (y.grow a).1 m with q | q
   ·exact (x.grow a).1 q
   ·exact .inr (key q)
  ·rcases (y.grow a).2 m with q | q
   ·exact (x.grow a).2 q
   ·exact .inr (key q)),
  fun a o e i=> y.tups a o (x.tups a o e i) i,fun a o e=> by
  obtain ⟨o1,e1,d1⟩:= x.alive a o e
  obtain ⟨o2,e2,d2⟩:= y.alive a o1 e1
  exact ⟨o2,e2,fun d=> d2 (d1 d)⟩⟩
theorem Step.trans {h₀: Heap} {σ σ' σ'': Hp} {h h' h'': Heap} (x: Step h₀ σ h σ' h') (y: Step h₀ σ' h' σ'' h''): Step h₀ σ h σ'' h'':= StepX.trans x y
theorem Rep.step {own: Addr -> Prop} {h₀: Heap} {σ σ': Hp} {h h': Heap} {v: Value} {x: V} (r: Rep h v x) (s: StepX own h₀ σ h σ' h'): Rep h' v x:= r.tups s.tups
theorem Reps.step {own: Addr -> Prop} {h₀: Heap} {σ σ': Hp} {h h': Heap} {v: List Value} {x: List V} (r: Reps h v x) (s: StepX own h₀ σ h σ' h'): Reps h' v x:= r.tups s.tups
theorem Reps.ind {h: Heap} {P: List Value -> List V -> Prop} (n: P [] []) (c: ∀ {v x vs xs},Rep h v x -> Reps h vs xs -> P vs xs -> P (v :: vs) (x :: xs)) {vs: List Value} {xs: List V} (r: Reps h vs xs): P vs xs:=
 Reps.rec (motive_1:= fun _ _ _=> True) (motive_2:= fun vs xs _=> P vs xs) True.intro (fun _=> True.intro) (fun _ _=> True.intro) (fun _ _=> True.intro) (fun _=> True.intro) (fun _=> True.intro)
  (fun _ _ _=> True.intro) (fun _=> True.intro) (fun _ _=> True.intro) (fun _ _ _=> True.intro) n (fun a b _ q=> c a b q) r
theorem Reps.length {h: Heap} {vs: List Value} {xs: List V} (r: Reps h vs xs): vs.length = xs.length:= r.ind (P:= fun vs xs=> vs.length = xs.length) rfl fun _ _ ih=> congrArg (· + 1) ih
theorem Reps.append {h: Heap} {vs ws: List Value} {xs ys: List V} (r: Reps h vs xs) (q: Reps h ws ys): Reps h (vs ++ ws) (xs ++ ys):= r.ind (P:= fun vs xs=> Reps h (vs ++ ws) (xs ++ ys)) q fun a _ ih=> .cons a ih
theorem Reps.get {h: Heap} {vs: List Value} {xs: List V} (r: Reps h vs xs): ∀ {i: Nat} {x: V},xs[i]? = some x -> ∃ v,vs[i]? = some v /\ Rep h v x:=
 r.ind (P:= fun vs xs=> ∀ {i: Nat} {x: V},xs[i]? = some x -> ∃ v,vs[i]? = some v /\ Rep h v x) (fun e=> by simp at e) fun a _ ih=> by
  intro i x e
  cases i with
  | zero=> simp at e;subst e;exact ⟨_,rfl,a⟩
  | succ i=> simp at e;simpa using ih e
theorem Reps.getRev {h: Heap} {vs: List Value} {xs: List V} (r: Reps h vs xs): ∀ {i: Nat} {v: Value},vs[i]? = some v -> ∃ x,xs[i]? = some x /\ Rep h v x:=
 r.ind (P:= fun vs xs=> ∀ {i: Nat} {v: Value},vs[i]? = some v -> ∃ x,xs[i]? = some x /\ Rep h v x) (fun e=> by simp at e) fun a _ ih=> by
  intro i x e
  cases i with
  | zero=> simp at e;subst e;exact ⟨_,rfl,a⟩
  | succ i=> simp at e;simpa using ih e
theorem Reps.set {h: Heap} {vs: List Value} {xs: List V} (r: Reps h vs xs): ∀ (i: Nat) {v: Value} {x: V},Rep h v x -> Reps h (vs.set i v) (xs.set i x):=
 r.ind (P:= fun vs xs=> ∀ (i: Nat) {v: Value} {x: V},Rep h v x -> Reps h (vs.set i v) (xs.set i x)) (fun _ _ _ _=> .nil) fun a r ih=> by
  intro i v x e
  cases i with
  | zero=> exact .cons e r
  | succ i=> exact .cons a (ih i e)
theorem Reps.filterMap {h: Heap} {vs: List Value} {xs: List V} (r: Reps h vs xs): ∀ js: List Nat,Reps h (js.filterMap (vs[·]?)) (js.filterMap (xs[·]?))
 | []=> .nil
 | j :: js=> by
  simp only [List.filterMap_cons]
  cases e: vs[j]? with
  | none=>
   have: xs[j]? = none:= by
    rw [List.getElem?_eq_none_iff] at e ⊢;rw [<- r.length];exact e
   rw [this];exact r.filterMap js
  | some v=>
   obtain ⟨x,e',rr⟩:= r.getRev e
   rw [e'];exact .cons rr (r.filterMap js)
theorem upd_small {σ: Hp} {a: Addr} {o: AObj} (h: ∀ a o,σ a = some o -> o.small) (sm: o.small): ∀ b p,upd σ a o b = some p -> p.small:= fun b p e=> by
 unfold upd at e;split at e
 ·cases e;exact sm
 ·exact h b p e
theorem upd_grow {σ: Hp} {h: Heap} {a: Addr} {o: AObj} (n: Mut σ a \/ h.get? a = none): Grow σ h (upd σ a o):= fun b=> by
 by_cases q: b = a
 ·subst q;exact ⟨fun _=> n,fun _=> n.imp (fun ⟨p,e,_⟩=> by rw [e];simp) id⟩
 ·unfold Mut;rw [upd_ne _ _ q];exact ⟨.inl,.inl⟩
theorem get_push_none (h: Heap): h.get? h.objs.size = none:= by
 cases e: h.get? h.objs.size with
 | none=> rfl
 | some o=> exact absurd (Heap.lt_size e) (Nat.lt_irrefl _)
theorem W.fresh {h₀: Heap} {σ: Hp} {h: Heap} (w: W h₀ σ h) {a: Addr} (e: h.get? a = none): σ a = none:= by
 cases q: σ a with
 | none=> rfl
 | some o=>
  have:= w.holds a o q
  cases o with
  | list xs=> obtain ⟨_,_,e2,_⟩:= this;rw [e] at e2;cases e2
  | flist xs=> obtain ⟨_,⟨o2,e2,_⟩,_⟩:= this;rw [e] at e2;cases e2
  | iter l i=> cases l <;> (obtain ⟨o2,e2,_⟩:= this;rw [e] at e2;cases e2)
  | tab ps q=> obtain ⟨e2,_⟩:= this;rw [e] at e2;cases e2
  | cell v=> obtain ⟨w,⟨o2,e2,_⟩,_⟩:= this;rw [e] at e2;cases e2
theorem Holds.alive {h: Heap} {a: Addr} {o: AObj} (x: Holds h a o): ∃ b,h.get? a = some b:= by
 cases o with
 | list xs=> obtain ⟨vs,n,e2,rr⟩:= x;exact ⟨_,e2⟩
 | flist xs=> obtain ⟨vs,⟨o2,e2,r⟩,rr⟩:= x;exact ⟨_,e2⟩
 | iter l i=> cases l <;> (obtain ⟨o2,e2,r⟩:= x;exact ⟨_,e2⟩)
 | tab ps q=> exact ⟨_,x.1⟩
 | cell v=> obtain ⟨w,⟨o2,e2,_⟩,_⟩:= x;exact ⟨_,e2⟩
theorem Holds.move {h h': Heap} (t: Tups h h') {a: Addr} {o: AObj} (x: Holds h a o) (same: ∀ b,h.get? a = some b -> h'.get? a = some b): Holds h' a o:= by
 cases o with
 | list xs=> obtain ⟨vs,n,e2,rr⟩:= x;exact ⟨vs,n,same _ e2,rr.tups t⟩
 | flist xs=> obtain ⟨vs,⟨o2,e2,r⟩,rr⟩:= x;exact ⟨vs,⟨o2,same _ e2,r⟩,rr.tups t⟩
 | iter l i=> cases l <;> (obtain ⟨o2,e2,r⟩:= x;exact ⟨o2,same _ e2,r⟩)
 | tab ps q=> exact ⟨same _ x.1,x.2.1,fun p cv e=> t.code (x.2.2 p cv e)⟩
 | cell v=> obtain ⟨w,⟨o2,e2,r⟩,rr⟩:= x;exact ⟨w,⟨o2,same _ e2,r⟩,rr.tups t⟩
theorem Holds.keep {h₀: Heap} {σ: Hp} {h h': Heap} (w: W h₀ σ h) (k: Keep σ h h') {a: Addr} {o: AObj} (x: Holds h a o) (same: ∀ b,h.get? a = some b -> h'.get? a = some b): Holds h' a o:= x.move (tup_keep w k) same
theorem holds_notD {h: Heap} {a: Addr} {o: AObj} {p: Obj} (x: Holds h a o) (e: h.get? a = some p): ¬ IsD p:= by
 rintro ⟨es,n,d⟩
 cases o with
 | list xs=> obtain ⟨vs,n,e2,rr⟩:= x;rw [e] at e2;cases e2;cases d
 | flist xs=> obtain ⟨vs,⟨o2,e2,_,n,r⟩,rr⟩:= x;rw [e] at e2;cases e2;rw [d] at r;cases r
 | iter l i=> cases l <;> (obtain ⟨o2,e2,_,r⟩:= x;rw [e] at e2;cases e2;rw [d] at r;cases r)
 | tab ps q=> obtain ⟨e2,_⟩:= x;rw [e] at e2;cases e2;cases d
 | cell v=> obtain ⟨w,⟨o2,e2,r⟩,_⟩:= x;rw [e] at e2;cases e2;rw [d] at r;cases r
theorem W.extend {h₀: Heap} {σ: Hp} {h h': Heap} (w: W h₀ σ h) (k: ∀ b o,h.get? b = some o -> h'.get? b = some o): Step h₀ σ h σ h':= by
 have kk: Keep σ h h':= fun a o _ e=> k a o e
 exact .of w ⟨fun b o e=> k b o (w.stays b o e),fun a o e=> (w.holds a o e).keep w kk (fun b=> k a b),w.above,w.small⟩ kk (.refl _ _) (fun a o e=> ⟨o,k a o e,id⟩)
theorem W.alloc {h₀: Heap} {σ: Hp} {h h': Heap} (w: W h₀ σ h) (k: ∀ b o,h.get? b = some o -> h'.get? b = some o) {a: Addr} (n: h.get? a = none) {o: AObj} (x: Holds h' a o) (sm: o.small): Step h₀ σ h (upd σ a o) h':= by
 have kk: Keep σ h h':= fun a o _ e=> k a o e
 refine .of w ⟨fun b o e=> k b o (w.stays b o e),fun b p e=> ?_,fun b m=> ?_,upd_small w.small sm⟩ kk (upd_grow (.inr n)) (fun a o e=> ⟨o,k a o e,id⟩)
 ·unfold upd at e;split at e
  ·rename_i q;subst q;cases e;exact x
  ·exact (w.holds b p e).keep w kk (fun b'=> k b b')
 ·by_cases q: b = a
  ·subst q
   cases r: h₀.get? b with
   | none=> rfl
   | some o'=> rw [w.stays b o' r] at n;cases n
  ·obtain ⟨p,e,mm⟩:= m;rw [upd_ne _ _ q] at e;exact w.above b ⟨p,e,mm⟩
theorem W.change {h₀: Heap} {σ: Hp} {h h': Heap} (w: W h₀ σ h) {a: Addr} (m: Mut σ a) (k: Heap.ExtBut a h h') {o: AObj} (x: Keep σ h h' -> Holds h' a o) (sm: o.small): Step h₀ σ h (upd σ a o) h':= by
 have kk: Keep σ h h':= fun b o n e=> k b o (by rintro rfl;exact n m) e
 refine .of w ⟨fun b o e=> ?_,fun b p e=> ?_,fun b m'=> ?_,upd_small w.small sm⟩ kk (upd_grow (.inl m)) (fun b p e=> by
  by_cases q: b = a
  ·subst q
   obtain ⟨o',e'⟩:= (x kk).alive
   obtain ⟨oo,eo,_⟩:= m
   exact ⟨o',e',fun d=> absurd d (holds_notD (w.holds _ _ eo) e)⟩
  ·exact ⟨p,k b p q e,id⟩)
 ·refine k b o ?_ (w.stays b o e)
  rintro rfl;rw [w.above b m] at e;cases e
 ·unfold upd at e;split at e
  ·rename_i q;subst q;cases e;exact x kk
  ·rename_i q;exact (w.holds b p e).keep w kk (fun b'=> k b b' q)
 ·by_cases q: b = a
  ·subst q;exact w.above b m
  ·obtain ⟨p,e,mm⟩:= m';rw [upd_ne _ _ q] at e;exact w.above b ⟨p,e,mm⟩
theorem W.adopt {h₀: Heap} {σ: Hp} {h: Heap} (w: W h₀ σ h) {a: Addr} (f: h₀.get? a = none) {o: AObj} (x: Holds h a o) (sm: o.small): W h₀ (upd σ a o) h:= by
 refine ⟨w.stays,fun b p e=> ?_,fun b m=> ?_,upd_small w.small sm⟩
 ·unfold upd at e;split at e
  ·rename_i q;subst q;cases e;exact x
  ·exact w.holds b p e
 ·by_cases q: b = a
  ·subst q;exact f
  ·obtain ⟨p,e,mm⟩:= m;rw [upd_ne _ _ q] at e;exact w.above b ⟨p,e,mm⟩
theorem StepX.ns {own: Addr -> Prop} {h₀: Heap} {σ σ': Hp} {h h': Heap} (x: StepX own h₀ σ h σ' h') {a: Addr} {m: Str -> Option Value} (n: ¬ Mut σ a) (no: ¬ own a) (q: h.Ns a m): h'.Ns a m:= by
 obtain ⟨o,es,ep,ho,hd,r⟩:= q
 obtain ⟨sl,e⟩:= x.dict a o n no ⟨_,_,hd⟩ ho
 exact ⟨_,es,ep,e,hd,r⟩
theorem LObj.isList {h: Heap} {a: Addr} {vs: List Value} {n: Nat} (e: h.get? a = some (LObj vs n)): h.IsList a vs.toArray:= ⟨_,e,rfl,n,rfl⟩
theorem LObj.mapSeq (vs: List Value) (n: Nat) (f: Array Value -> Array Value): ∃ m,(LObj vs n).mapSeq f = LObj (f vs.toArray).toList m:= ⟨_,rfl⟩
theorem LObj.update {h: Heap} {a: Addr} {vs: List Value} {n: Nat} (e: h.get? a = some (LObj vs n)) (f: Array Value -> Array Value) :
  ∃ m,(h.update a (Obj.mapSeq f)).get? a = some (LObj (f vs.toArray).toList m):= by
 obtain ⟨m,q⟩:= LObj.mapSeq vs n f
 exact ⟨m,by rw [<- q];exact Heap.get?_update_self _ e rfl⟩
noncomputable def listAt (σ: Hp) (a: Addr): Option (List V):= match σ a with | some (.list xs)=> some xs | some (.flist xs)=> some xs | _=> none
theorem listAt_list {σ: Hp} {a: Addr} {xs: List V} (h: σ a = some (.list xs)): listAt σ a = some xs:= by unfold listAt;rw [h]
theorem listAt_flist {σ: Hp} {a: Addr} {xs: List V} (h: σ a = some (.flist xs)): listAt σ a = some xs:= by unfold listAt;rw [h]
theorem W.list {h₀: Heap} {σ: Hp} {h: Heap} (w: W h₀ σ h) {a: Addr} {xs: List V} (e: listAt σ a = some xs): ∃ vs: List Value,h.IsList a vs.toArray /\ Reps h vs xs:= by
 unfold listAt at e
 split at e
 ·cases e;rename_i q;obtain ⟨vs,n,g,r⟩:= w.holds _ _ q;exact ⟨vs,LObj.isList g,r⟩
 ·cases e;rename_i q;exact w.holds _ _ q
 ·cases e
theorem W.mlist {h₀: Heap} {σ: Hp} {h: Heap} (w: W h₀ σ h) {a: Addr} {xs: List V} (e: σ a = some (.list xs)): ∃ (vs: List Value) (n: Nat),h.get? a = some (LObj vs n) /\ Reps h vs xs:= w.holds _ _ e
theorem W.mapSeq {h₀: Heap} {σ: Hp} {h: Heap} (w: W h₀ σ h) {a: Addr} {xs: List V} (e: σ a = some (.list xs)) {vs: List Value} {n: Nat} (g: h.get? a = some (LObj vs n)) (f: Array Value -> Array Value) {ys: List V}
  (r: Reps h (f vs.toArray).toList ys) (sm: ys.length <= BIG): Step h₀ σ h (upd σ a (.list ys)) (h.update a (Obj.mapSeq f)):=
 w.change ⟨_,e,rfl⟩ (Heap.SameBut.update ..).extBut (fun k=> by
  obtain ⟨m,q⟩:= LObj.update g f
  exact ⟨_,m,q,r.tups (tup_keep w k)⟩) sm
theorem W.len {h₀: Heap} {σ: Hp} {h: Heap} (w: W h₀ σ h) {a: Addr} {xs: List V} (e: listAt σ a = some xs): xs.length <= BIG:= by
 unfold listAt at e
 split at e
 ·cases e;rename_i q;exact w.small _ _ q
 ·cases e;rename_i q;exact w.small _ _ q
 ·cases e
structure Room (A: Around) (n: Nat): Prop where
 handled: A.handled = none
 depth: A.depth + n <= 800
 units: A.units + 8 * n + 5 <= 9000
 env: ∃ env l,A.frames = some (env :: l) /\ env.scope.isGenerator = false /\ env.scope.isCoroutine = false /\ env.builtins = builtinsNs /\ env.globals = mainGlobals
structure RoomW (A: Around) (n: Nat): Prop where
 handled: A.handled = none
 depth: A.depth + n <= 800
 units: A.units + 8 * n <= 9000
 env: ∃ env l,A.frames = some (env :: l) /\ env.scope.isGenerator = false /\ env.scope.isCoroutine = false /\ env.builtins = builtinsNs /\ env.globals = mainGlobals
theorem Room.weak {A: Around} {n: Nat} (r: Room A n): RoomW A n:= ⟨r.handled,r.depth,by have:= r.units;(exact Nat.le_of_add_right_le this),r.env⟩
theorem RoomW.le {A: Around} {n m: Nat} (r: RoomW A n) (h: m <= n): RoomW A m:= ⟨r.handled,by have:= r.depth;(exact ar_u8 h this),by have:= r.units;(exact ar_u7 h this),r.env⟩
structure Gnd (prog: Program) (h₀: Heap) (mg mb: Str -> Option Value): Prop where
 g: h₀.Ns mainGlobals mg
 b: h₀.Ns builtinsNs mb
 nolimit: h₀.NoLimit
 seer: h₀.NoSeer
 tree: prog.given.tree = none
 boot: ∀ x: Str,x ≠ "__name__" -> mb x = bootBuiltins x
inductive PV (h₀: Heap) (σ: Hp) (s: Shared) (Q: V -> Hp -> Prop) (v: Value) (s': Shared): Prop
 | mk (x: V) (σ': Hp) (h1: Rep s'.heap v x) (h2: (Step h₀ σ s.heap σ' s'.heap /\ Sm s s')) (h3: Q x σ'): PV h₀ σ s Q v s'
noncomputable def E0: Value -> Shared -> Prop:= fun _ _=> False
theorem BIG_le: BIG <= sizeLine:= by decide
theorem big_line {n: Nat} (h: n <= BIG): n <= sizeLine:= Nat.le_trans h BIG_le
noncomputable def newL (xs: List V) (Q: V -> Hp -> Prop) (σ: Hp): Prop:= xs.length <= BIG /\ ∀ a,σ a = none -> Q (.ref a) (upd σ a (.list xs))
section
variable {prog: Program} {w: World} {A: Around} {s: Shared} {h₀: Heap} {mg mb: Str -> Option Value} {σ: Hp} {Q: V -> Hp -> Prop}
theorem PV.same {v: Value} {x: V} (hw: W h₀ σ s.heap) (r: Rep s.heap v x) (q: Q x σ) (tk: Nat): PV h₀ σ s Q v { s with toks:= tk }:= ⟨x,σ,r,⟨.refl hw,.rfl⟩,q⟩
theorem PV.same' {v: Value} {x: V} (hw: W h₀ σ s.heap) (r: Rep s.heap v x) (q: Q x σ): PV h₀ σ s Q v s:= ⟨x,σ,r,⟨.refl hw,.rfl⟩,q⟩
theorem PV.push (hw: W h₀ σ s.heap) {vs: List Value} {xs: List V} {n: Nat} (r: Reps s.heap vs xs) (q: newL xs Q σ) (tk: Nat) :
  PV h₀ σ s Q (.ref s.heap.objs.size) { s with heap:= s.heap.push (LObj vs n),toks:= tk }:= by
 have k: ∀ b o,s.heap.get? b = some o -> (s.heap.push (LObj vs n)).get? b = some o:= fun b o e=> Heap.get?_push_of_some _ e
 have x: Step h₀ σ s.heap (upd σ s.heap.objs.size (.list xs)) (s.heap.push (LObj vs n)):=
  hw.alloc k (get_push_none _) ⟨vs,n,Heap.get?_push_size _ rfl,r.tups (fun a o e _=> k a o e)⟩ q.1
 exact ⟨_,_,.ref _,⟨x,Eq.refl _,Eq.refl _⟩,q.2 _ (hw.fresh (get_push_none _))⟩
theorem PV.new (hw: W h₀ σ s.heap) {vs: List Value} {xs: List V} {n: Nat} {a: Addr} {s': Shared} (k: ∀ b o,s.heap.get? b = some o -> s'.heap.get? b = some o) (f: s.heap.get? a = none)
  (g: s'.heap.get? a = some (LObj vs n)) (r: Reps s.heap vs xs) (q: newL xs Q σ) (m: Sm s s':= by exact ⟨rfl,rfl⟩): PV h₀ σ s Q (.ref a) s':=
 ⟨_,_,.ref _,⟨hw.alloc (o:= .list xs) k f ⟨vs,n,g,r.tups (fun a o e _=> k a o e)⟩ q.1,m⟩,q.2 _ (hw.fresh f)⟩
structure BinS (op: Operator) (a b: V) (Q: V -> Hp -> Prop) (σ: Hp): Prop where
 go: ∀ ⦃prog: Program⦄ ⦃w: World⦄ ⦃A: Around⦄ ⦃s: Shared⦄ ⦃h₀: Heap⦄ ⦃mg mb: Str -> Option Value⦄ ⦃n: Nat⦄ ⦃va vb: Value⦄,Gnd prog h₀ mg mb -> Room A n -> W h₀ σ s.heap -> Rep s.heap va a -> Rep s.heap vb b ->
 wpAny (model prog w) A (binaryOp op va vb) (PV h₀ σ s Q) E0 s
noncomputable def binI (op: Operator) (x y: Int) (Q: V -> Hp -> Prop) (σ: Hp): Prop:= match op with
 | .Add=> Q (.int (x + y)) σ
 | .Sub=> Q (.int (x - y)) σ
 | .Mult=> IntMulOk x y /\ Q (.int (x * y)) σ
 | .FloorDiv=> y ≠ 0 /\ Q (.int (x.fdiv y)) σ
 | .Mod=> y ≠ 0 /\ Q (.int (x.fmod y)) σ
 | .RShift=> 0 <= x /\ y = 1 /\ Q (.int (x / 2)) σ
 | .Pow=> 0 <= y /\ y <= 1000 /\ x.natAbs < 2 ^ 64 /\ Q (.int (x ^ y.toNat)) σ
 | _=> False
noncomputable def opBin (op: Operator) (a b: V) (Q: V -> Hp -> Prop) (σ: Hp): Prop:= match a,b with
 | .int x,.int y=> binI op x y Q σ
 | a,b=> BinS op a b Q σ
theorem pylong (G: Gnd prog h₀ mg mb) (hw: W h₀ σ s.heap) {n: Nat} (R: Room A n): PylongRoom (model prog w) A s:= by
 obtain ⟨env,l,h1,h2,h3,h4,h5⟩:= R.env
 refine PylongRoom.of (G.nolimit.keeps hw.stays) (by have:= R.depth;show A.depth + 100 < 1000;(exact ar_u12 this)) (SeerAt.of (G.seer.keeps hw.stays) G.tree h1 h2 h3 h4 h5)
theorem opBin_ok (G: Gnd prog h₀ mg mb) {n: Nat} (R: Room A n) (hw: W h₀ σ s.heap) {op: Operator} {a b: V} {va vb: Value} (ra: Rep s.heap va a) (rb: Rep s.heap vb b) (h: opBin op a b Q σ) :
  wpAny (model prog w) A (binaryOp op va vb) (PV h₀ σ s Q) E0 s:= by
 unfold opBin at h
 split at h
 ·obtain ⟨ta,rfl⟩:= ra.iint
  obtain ⟨tb,rfl⟩:= rb.iint
  cases op with
  | Add=> exact add_int (PV.same hw (.int _ _) h _)
  | Sub=> exact sub_int' (PV.same hw (.int _ _) h _)
  | Mult=> exact mul_int (PV.same hw (.int _ _) h.2 _) h.1
  | FloorDiv=> exact floordiv_int h.1 (PV.same hw (.int _ _) h.2 _) (.inr (pylong G hw R))
  | Mod=> exact mod_int' h.1 (PV.same hw (.int _ _) h.2 _)
  | RShift=> obtain ⟨h1,rfl,h3⟩:= h;exact wpAny_rshift1_int h1 (PV.same hw (.int _ _) h3 _)
  | Pow=> exact pow_int_small h.1 (by have:= h.2.1;lia) h.2.2.1 (PV.same hw (.int _ _) h.2.2.2 _)
  | _=> exact h.elim
 ·exact h.go G R hw ra rb
theorem add_lists {x y: Addr} {xs ys: List V} (e1: listAt σ x = some xs) (e2: listAt σ y = some ys) (q: newL (xs ++ ys) Q σ): opBin .Add (.ref x) (.ref y) Q σ:= by
 refine BinS.mk ?_
 intro prog w A s h₀ mg mb n va vb G R hw ra rb
 obtain rfl:= ra.iref
 obtain rfl:= rb.iref
 obtain ⟨vs,hl,r1⟩:= hw.list e1
 obtain ⟨ws,hb,r2⟩:= hw.list e2
 have hsz: vs.length + ws.length <= sizeLine:= big_line (by have:= q.1;rw [List.length_append] at this;rw [r1.length,r2.length];exact this)
 obtain ⟨⟨cls,dd,data,sl⟩,ho,hc,n,hd⟩:= id hl
 obtain ⟨⟨cls2,dd2,data2,sl2⟩,ho2,hc2,n2,hd2⟩:= id hb
 simp only at hc hd hc2 hd2
 subst hc hd hc2 hd2
 have e: vs.toArray ++ ws.toArray = (vs ++ ws).toArray:= by simp
 refine concat_meets ⟨_,ho,rfl⟩ ⟨_,ho2,rfl⟩ noFill_list_add seq_list_add PySem.F.slot_list_add PySem.F.entry_list_add (PySem.F.args_list_add_2 _ _) (list_addW x y vs.toArray ws.toArray n n2 dd dd2 sl sl2 (by simpa using hsz)) ⟨ho,ho2,?_⟩
 rw [e]
 exact PV.push (n:= 0) hw (r1.append r2) q _
end
mutual
inductive Dat (σ: Hp): V -> PyData -> Prop
 | none: Dat σ .none .none
 | bool (b: Bool): Dat σ (.bool b) (.bool b)
 | int (i: Int): Dat σ (.int i) (.int i)
 | str (s: Str): PyData.strOk s = true -> Dat σ (.str s) (.str s)
 | tup {xs: List V} {ds: List PyData}: Dats σ xs ds -> Dat σ (.tup xs) (.tuple ds)
 | list {a: Addr} {xs: List V} {ds: List PyData}: listAt σ a = some xs -> Dats σ xs ds -> Dat σ (.ref a) (.list ds)
inductive Dats (σ: Hp): List V -> List PyData -> Prop
 | nil: Dats σ [] []
 | cons {x: V} {d: PyData} {xs: List V} {ds: List PyData}: Dat σ x d -> Dats σ xs ds -> Dats σ (x :: xs) (d :: ds)
end
mutual
theorem Dat.lay {σ: Hp}: ∀ {x: V} {d: PyData},Dat σ x d -> d.canLay0 = true
 | _,_,.none=> by simp [PyData.canLay0]
 | _,_,.bool _=> by simp [PyData.canLay0]
 | _,_,.int _=> by simp [PyData.canLay0]
 | _,_,.str _ h=> by simpa [PyData.canLay0] using h
 | _,_,.tup h=> by simpa [PyData.canLay0] using Dats.lay h
 | _,_,.list _ h=> by simpa [PyData.canLay0] using Dats.lay h
theorem Dats.lay {σ: Hp}: ∀ {xs: List V} {ds: List PyData},Dats σ xs ds -> PyData.canLayAll0 ds = true
 | _,_,.nil=> by simp [PyData.canLayAll0]
 | _,_,.cons a b=> by simp [PyData.canLayAll0,Dat.lay a,Dats.lay b]
end
mutual
theorem Dat.reads {h₀: Heap} {σ: Hp} {h: Heap} (w: W h₀ σ h): ∀ {x: V} {d: PyData},Dat σ x d -> ∀ {v: Value},Rep h v x -> ∃ as,Reads h v d as
 | _,_,.none=> fun r=> by obtain rfl:= r.inone;exact ⟨_,.none⟩
 | _,_,.bool _=> fun r=> by obtain rfl:= r.ibool;exact ⟨_,.bool _⟩
 | _,_,.int _=> fun r=> by obtain ⟨t,rfl⟩:= r.iint;exact ⟨_,.int _ _⟩
 | _,_,.str _ _=> fun r=> by obtain ⟨t,rfl⟩:= r.istr;exact ⟨_,.str _ _⟩
 | _,_,.tup h1=> fun r=> by
  obtain ⟨ta,vs,rfl,y,r⟩:= r.itup
  obtain ⟨as,q⟩:= Dats.reads w h1 r
  obtain ⟨o,e,c,n,dd⟩:= y
  exact ⟨_,.tuple e c dd q⟩
 | _,_,.list e h1=> fun r=> by
  obtain rfl:= r.iref
  obtain ⟨vs,⟨o,e,c,n,dd⟩,r⟩:= w.list e
  obtain ⟨as,q⟩:= Dats.reads w h1 r
  exact ⟨_,.list e c dd q⟩
theorem Dats.reads {h₀: Heap} {σ: Hp} {h: Heap} (w: W h₀ σ h): ∀ {xs: List V} {ds: List PyData},Dats σ xs ds -> ∀ {vs: List Value},Reps h vs xs -> ∃ as,ReadsAll h vs ds as
 | _,_,.nil=> fun r=> by obtain rfl:= r.inil;exact ⟨_,.nil⟩
 | _,_,.cons a b=> fun r=> by
  obtain ⟨u,us,rfl,r,rs⟩:= r.icons
  obtain ⟨as,q⟩:= Dat.reads w a r
  obtain ⟨bs,q'⟩:= Dats.reads w b rs
  exact ⟨_,.cons q q'⟩
end
noncomputable def nth (xs: List V) (k: Int): Option V:= if 0 <= k then xs[k.toNat]? else if -(xs.length: Int) <= k then xs[(k + xs.length).toNat]? else none
theorem nth_lt {xs: List V} {k: Int} {x: V} (h: nth xs k = some x): -(xs.length: Int) <= k /\ k < xs.length:= by
 unfold nth at h
 split at h
 ·have:= (List.getElem?_eq_some_iff.mp h).1;(expose_names;exact ar_i1 h_1 this)
 ·split at h
  ·lia
  ·cases h
theorem seqIndex_pos {k: Int} {n: Nat} (h0: 0 <= k) (h1: k < n): seqIndex? k n = some k.toNat:= by
 unfold seqIndex?
 dsimp only
 rw [if_neg (by (exact Int.not_lt_of_ge h0): ¬ k < 0)]
 rw [if_pos (by simp only [Bool.and_eq_true,decide_eq_true_eq];(exact And.symm ⟨h1,h0⟩))]
structure opSub (o i: V) (Q: V -> Hp -> Prop) (σ: Hp): Prop where
 go: ∀ ⦃prog: Program⦄ ⦃w: World⦄ ⦃A: Around⦄ ⦃s: Shared⦄ ⦃h₀: Heap⦄ ⦃vo vi: Value⦄ ⦃value slice: Expr⦄,Rep s.heap vo o -> Rep s.heap vi i -> W h₀ σ s.heap ->
 (∀ o i,subscripted slice false o i = operate [o,i] (getItem o i)) -> wpAny (model prog w) A (subscriptTail value slice vo vi) (PV h₀ σ s Q) E0 s
section
variable {prog: Program} {w: World} {A: Around} {s: Shared} {h₀: Heap} {mg mb: Str -> Option Value} {σ: Hp} {Q: V -> Hp -> Prop}
theorem getList_ok {a: Addr} {k: Int} {u: Tok} {xs: List V} {x: V} (hw: W h₀ σ s.heap) (e: listAt σ a = some xs) (hx: nth xs k = some x) (q: Q x σ) :
  wpAny (model prog w) A (getItem (.ref a) (.int k u)) (PV h₀ σ s Q) E0 s:= by
 obtain ⟨vs,hl,r⟩:= hw.list e
 have hb:= hw.len e
 have hk:= nth_lt hx
 have hlen:= r.length
 unfold BIG at hb
 unfold nth at hx
 split at hx
 ·obtain ⟨v,e1,rr⟩:= r.get hx
  exact wpAny_getItem_list hl (by assumption) (by exact ar_i2 hb hk) (by simpa using e1) (PV.same' hw rr q)
 ·rename_i hneg
  rw [if_pos hk.1] at hx
  obtain ⟨v,e1,rr⟩:= r.get hx
  exact wpAny_getItem_list_neg hl (by exact Int.lt_of_not_ge hneg) (by simp;(exact ar_i5 hk hlen)) (by exact ar_i3 hb hk) (by simpa [hlen] using e1) (PV.same' hw rr q)
theorem sub_list {a: Addr} {k: Int} {xs: List V} {x: V} (e: listAt σ a = some xs) (hx: nth xs k = some x) (q: Q x σ): opSub (.ref a) (.int k) Q σ:= by
 refine opSub.mk ?_
 intro prog w A s h₀ vo vi value slice ro ri hw hs
 obtain rfl:= ro.iref
 obtain ⟨ti,rfl⟩:= ri.iint
 obtain ⟨vs,hl,r⟩:= hw.list e
 exact tail_any hl.typeIs slot_list_getitem.lookup (getList_ok hw e hx q) (hs _ _)
theorem sub_tup {xs: List V} {k: Int} {x: V} (hb: xs.length <= BIG) (hx: nth xs k = some x) (q: Q x σ): opSub (.tup xs) (.int k) Q σ:= by
 refine opSub.mk ?_
 intro prog w A s h₀ vo vi value slice ro ri hw hs
 obtain ⟨ti,rfl⟩:= ri.iint
 obtain ⟨oa,vs,rfl,y,r⟩:= ro.itup
 have hk:= nth_lt hx
 have hlen:= r.length
 unfold BIG at hb
 refine tail_any y.typeIs slot_tuple_getitem.lookup ?_ (hs _ _)
 unfold nth at hx
 split at hx
 ·obtain ⟨v,e1,rr⟩:= r.get hx
  exact getItem_tuple y (by exact ar_i3 hb hk) (by exact ar_i2 hb hk) (j:= k.toNat) (by simp;exact seqIndex_pos (by (expose_names;exact Int.le_of_sub_one_lt h)) (by exact ar_i4 hk hlen)) (by simpa using e1) (PV.same' hw rr q)
 ·rw [if_pos hk.1] at hx
  obtain ⟨v,e1,rr⟩:= r.get hx
  exact getItem_tuple y (by exact ar_i3 hb hk) (by exact ar_i2 hb hk) (j:= (k + xs.length).toNat) (by simp [hlen];exact seqIndex_neg (by (expose_names;exact Int.lt_of_not_ge h)) (by exact ar_i5 hk rfl)) (by simpa using e1) (PV.same' hw rr q)
inductive PU (h₀: Heap) (σ: Hp) (s: Shared) (Q: Hp -> Prop) (s': Shared): Prop
 | mk (σ': Hp) (h1: (Step h₀ σ s.heap σ' s'.heap /\ Sm s s')) (h2: Q σ'): PU h₀ σ s Q s'
structure opSet (o i v: V) (Q: Hp -> Prop) (σ: Hp): Prop where
 go: ∀ ⦃prog: Program⦄ ⦃w: World⦄ ⦃A: Around⦄ ⦃s: Shared⦄ ⦃h₀: Heap⦄ ⦃vo vi vv: Value⦄,Rep s.heap vo o -> Rep s.heap vi i -> Rep s.heap vv v -> W h₀ σ s.heap ->
 wpAny (model prog w) A (setItem vo vi vv) (fun _=> PU h₀ σ s Q) E0 s
theorem set_list {a: Addr} {k: Int} {v: V} {xs: List V} {P: Hp -> Prop} (e: σ a = some (.list xs)) (h0: 0 <= k) (hn: k < xs.length) (q: P (upd σ a (.list (xs.set k.toNat v)))): opSet (.ref a) (.int k) v P σ:= by
 refine opSet.mk ?_
 intro prog w A s h₀ vo vi vv ro ri rv hw
 obtain rfl:= ro.iref
 obtain ⟨t,rfl⟩:= ri.iint
 obtain ⟨vs,n,g,r⟩:= hw.mlist e
 have hb:= hw.len (listAt_list e)
 have hlen:= r.length
 unfold BIG at hb
 have hl: s.heap.IsList a vs.toArray:= LObj.isList g
 unfold setItem
 try with_reducible refine wpAny_holding ?_
 first | refine wpAny_bind (wpAny_pure ?_) | skip
 refine wpAny_bind (wpAny_sequenceKey hl.typeIs (by decide) ?_)
 refine wpAny_bind (wpAny_callSpecial?_slot (name:= Str.ofString "__setitem__") hl.typeIs slot_list_setitem
  (wpAny_call_entry slot_list_setitem hl.typeIs entry_list_setitem ?_ (args_list_setitem _ _ _)))
 show wpAny _ _ (Builtin.List.listSubscript? (.int k t) >>= _) _ _ s
 refine wpAny_bind (wpAny_listSubscript_int (fitsIndex_of h0 (by exact ar_i6 hn hb)) ?_)
 obtain ⟨j,rfl⟩:= Int.eq_ofNat_of_zero_le h0
 have hj: j < vs.toArray.size:= by simp;lia
 have hx': vs.toArray[j]? = some vs.toArray[j]:= Array.getElem?_eq_getElem hj
 show wpAny _ _ ((seqItemAt a j >>= fun r=> pure (r.map (j,·))) >>= _) _ _ s
 refine wpAny_bind (wpAny_bind (wpAny_seqItemAt (items:= vs.toArray) (n:= n) g rfl (wpAny_pure ?_)))
 rw [hx']
 show wpAny _ _ (setSeqItemAt a j vv >>= _) _ _ s
 refine wpAny_bind (wpAny_setSeqItemAt (items:= vs.toArray) (n:= n) g rfl ?_)
 have fin: PU h₀ σ s P { s with heap:= s.heap.update a (Obj.mapSeq (·.setIfInBounds j vv)) }:=
  ⟨_,⟨hw.mapSeq (ys:= xs.set j v) e g (·.setIfInBounds j vv) (by simpa using r.set j rv) (by simp;unfold BIG;lia),Eq.refl _,Eq.refl _⟩,q⟩
 first
  | exact wpAny_bind (wpAny_pure (wpAny_pure ⟨.none,rfl,wpAny_pure fin⟩))
  | exact wpAny_pure ⟨.none,rfl,wpAny_pure fin⟩
structure CmpS (op: CmpOp) (a b: V) (Q: V -> Hp -> Prop) (σ: Hp): Prop where
 go: ∀ ⦃prog: Program⦄ ⦃w: World⦄ ⦃A: Around⦄ ⦃s: Shared⦄ ⦃h₀: Heap⦄ ⦃n: Nat⦄ ⦃va vb: Value⦄,Room A n -> Rep s.heap va a -> Rep s.heap vb b -> W h₀ σ s.heap ->
 wpAny (model prog w) A (compareOp op va vb) (PV h₀ σ s Q) E0 s
noncomputable def cmpI (op: CmpOp) (x y: Int) (Q: V -> Hp -> Prop) (σ: Hp): Prop:= match op with
 | .Lt=> Q (.bool (decide (x < y))) σ
 | .LtE=> Q (.bool (decide (x <= y))) σ
 | .Gt=> Q (.bool (decide (y < x))) σ
 | .GtE=> Q (.bool (decide (y <= x))) σ
 | .Eq=> Q (.bool (x == y)) σ
 | .NotEq=> Q (.bool (x != y)) σ
 | _=> False
noncomputable def opCmp (op: CmpOp) (a b: V) (Q: V -> Hp -> Prop) (σ: Hp): Prop:= match a,b with
 | .int x,.int y=> cmpI op x y Q σ
 | a,b=> CmpS op a b Q σ
theorem opCmp_ok {n: Nat} (R: Room A n) {op: CmpOp} {va vb: Value} {a b: V} (ra: Rep s.heap va a) (rb: Rep s.heap vb b) (hw: W h₀ σ s.heap) (h: opCmp op a b Q σ) :
  wpAny (model prog w) A (compareOp op va vb) (PV h₀ σ s Q) E0 s:= by
 unfold opCmp at h
 split at h
 ·obtain ⟨ta,rfl⟩:= ra.iint
  obtain ⟨tb,rfl⟩:= rb.iint
  cases op with
  | Lt=> exact lt_int (PV.same' hw (.bool _) h)
  | LtE=> exact le_int (PV.same' hw (.bool _) h)
  | Gt=> exact gt_int (PV.same' hw (.bool _) h)
  | GtE=> exact ge_int (PV.same' hw (.bool _) h)
  | Eq=> exact eq_int (PV.same' hw (.bool _) h)
  | NotEq=> exact ne_int (PV.same' hw (.bool _) h)
  | _=> exact h.elim
 ·exact h.go R ra rb hw
theorem eq_dat {a b: V} {d e: PyData} (h1: Dat σ a d) (h2: Dat σ b e) (hd: d.depth <= 60) (q: Q (.bool (PyData.eqv d e)) σ): CmpS .Eq a b Q σ:= by
 refine CmpS.mk ?_
 intro prog w A s h₀ n va vb R ra rb hw
 obtain ⟨as,r1⟩:= h1.reads hw ra
 obtain ⟨bs,r2⟩:= h2.reads hw rb
 have hu: A.units <= 9000:= by have:= R.units;(exact ar_u2 this)
 exact SeqAt.compareEq_reads r1 r2 h1.lay h2.lay (by show _ < 9900;(exact ar_u14 hd hu)) (PV.same' hw (.bool _) q)
theorem ne_dat {a b: V} {d e: PyData} (h1: Dat σ a d) (h2: Dat σ b e) (hd: d.depth <= 60) (q: Q (.bool (!PyData.eqv d e)) σ): CmpS .NotEq a b Q σ:= by
 refine CmpS.mk ?_
 intro prog w A s h₀ n va vb R ra rb hw
 obtain ⟨as,r1⟩:= h1.reads hw ra
 obtain ⟨bs,r2⟩:= h2.reads hw rb
 have hu: A.units <= 9000:= by have:= R.units;(exact ar_u2 this)
 exact SeqAt.compareNe_reads r1 r2 h1.lay h2.lay (by show _ < 9900;(exact ar_u14 hd hu)) (PV.same' hw (.bool _) q)
noncomputable def truth (v: V) (Q: Bool -> Hp -> Prop) (σ: Hp): Prop:=
 match v with
 | .none=> Q false σ
 | .bool b=> Q b σ
 | .int i=> Q (i != 0) σ
 | .ref a=> ∃ xs,listAt σ a = some xs /\ Q (!xs.isEmpty) σ
 | _=> False
inductive PB (h₀: Heap) (σ: Hp) (s: Shared) (Q: Bool -> Hp -> Prop) (b: Bool) (s': Shared): Prop
 | mk (σ': Hp) (h1: (Step h₀ σ s.heap σ' s'.heap /\ Sm s s')) (h2: Q b σ'): PB h₀ σ s Q b s'
theorem truth_ok {vv: Value} {v: V} {P: Bool -> Hp -> Prop} (rv: Rep s.heap vv v) (hw: W h₀ σ s.heap) (h: truth v P σ) :
  wpAny (model prog w) A (truthy vv) (PB h₀ σ s P) E0 s:= by
 unfold truth at h
 split at h
 ·obtain rfl:= rv.inone;exact truthy_none ⟨_,⟨.refl hw,Eq.refl _,Eq.refl _⟩,h⟩
 ·obtain rfl:= rv.ibool;exact wpAny_truthy_bool ⟨_,⟨.refl hw,Eq.refl _,Eq.refl _⟩,h⟩
 ·obtain ⟨t,rfl⟩:= rv.iint;exact truthy_int ⟨_,⟨.refl hw,Eq.refl _,Eq.refl _⟩,h⟩
 ·obtain rfl:= rv.iref
  obtain ⟨xs,e,q⟩:= h
  obtain ⟨vs,hl,r⟩:= hw.list e
  have hb:= hw.len e
  have hlen:= r.length
  unfold BIG at hb
  refine wpAny_truthy_list hl (by simp;(exact ar_i7 hb hlen)) ⟨_,⟨.refl hw,Eq.refl _,Eq.refl _⟩,?_⟩
  have: (!vs.toArray.isEmpty) = !xs.isEmpty:= by
   cases xs with
   | nil=> rw [r.inil];rfl
   | cons x xs=> obtain ⟨u,us,rfl,_⟩:= r.icons;rfl
  rw [this];exact q
 ·exact h.elim
end
inductive BI where
 | len | min | max | sum | range | list | abs | sorted | divmod | reversed | zip | iter | object | str | isinstance
 deriving DecidableEq
noncomputable def BI.val: BI -> Value
 | .len=> .builtin "len"
 | .min=> .builtin "min"
 | .max=> .builtin "max"
 | .sum=> .builtin "sum"
 | .range=> .type "range"
 | .list=> .type "list"
 | .abs=> .builtin "abs"
 | .sorted=> .builtin "sorted"
 | .divmod=> .builtin "divmod"
 | .reversed=> .type "reversed"
 | .zip=> .type "zip"
 | .iter=> .builtin "iter"
 | .object=> .type "object"
 | .str=> .type "str"
 | .isinstance=> .builtin "isinstance"
noncomputable def BI.name: BI -> Str
 | .len=> "len" | .min=> "min" | .max=> "max" | .sum=> "sum" | .range=> "range" | .list=> "list" | .abs=> "abs" | .sorted=> "sorted" | .divmod=> "divmod" | .reversed=> "reversed" | .zip=> "zip" | .iter=> "iter" | .object=> "object" | .str=> "str" | .isinstance=> "isinstance"
theorem BI.kind (f: BI): (∃ n,f.val = .type n) \/ ∃ n,f.val = .builtin n:= by cases f <;> first | exact .inl ⟨_,rfl⟩ | exact .inr ⟨_,rfl⟩
noncomputable def rlen (a b c: Int): Nat:= if 0 < c then (b - a).toNat else (a - b).toNat
noncomputable def rok (a b c: Int): Prop:= c = 1 /\ -(2 ^ 62) <= a /\ a < 2 ^ 62 /\ -(2 ^ 62) <= b /\ b < 2 ^ 62
theorem rok_small {a b c: Int} (h: rok a b c): Builtin.Range.small a b c = true:= by
 obtain ⟨rfl,h1,h2,h3,h4⟩:= h
 exact small_one h1 h2 h3 h4
theorem rok_size {a b c: Int} (h: rok a b c): Builtin.Range.rangeSize a b c = (rlen a b c: Nat):= by
 obtain ⟨rfl,_⟩:= h
 rw [rangeSize_one]
 show _ = ((b - a).toNat: Int)
 split
 ·rename_i h;exact (Int.toNat_of_nonneg (Int.sub_nonneg_of_le (Int.le_of_lt h))).symm
 ·rename_i h;rw [Int.toNat_of_nonpos (Int.sub_nonpos_of_le (Int.not_lt.mp h))];rfl
section
variable {prog: Program} {w: World} {A: Around} {s: Shared} {h₀: Heap} {mg mb: Str -> Option Value} {σ: Hp} {Q: V -> Hp -> Prop}
structure CallS (fv: Value) (args: List V) (Q: V -> Hp -> Prop) (σ: Hp): Prop where
 go: ∀ ⦃prog: Program⦄ ⦃w: World⦄ ⦃A: Around⦄ ⦃s: Shared⦄ ⦃h₀: Heap⦄ ⦃mg mb: Str -> Option Value⦄ ⦃n: Nat⦄ ⦃vargs: List Value⦄,Gnd prog h₀ mg mb -> Room A n -> Reps s.heap vargs args -> W h₀ σ s.heap ->
 wpAny (model prog w) A (call fv vargs) (PV h₀ σ s Q) E0 s
noncomputable def onInt (v: V) (K: Int -> Prop): Prop:= match v with
 | .int i=> K i
 | _=> False
theorem onInt_inv {v: V} {K: Int -> Prop} (h: onInt v K): ∃ i,v = .int i /\ K i:= by
 cases v with
 | int i=> exact ⟨i,rfl,h⟩
 | _=> exact h.elim
noncomputable def rngC (args: List V) (Q: V -> Hp -> Prop) (σ: Hp): Prop:= match args with
 | []=> False
 | x :: l=> onInt x fun a=> match l with
  | []=> Q (.rng 0 a 1) σ
  | y :: l=> onInt y fun b=> match l with
   | []=> Q (.rng a b 1) σ
   | z :: l=> onInt z fun c=> match l with
    | []=> c ≠ 0 /\ Q (.rng a b c) σ
    | _ :: _=> False
noncomputable def opCall (f: BI) (args: List V) (Q: V -> Hp -> Prop) (σ: Hp): Prop:= match f with
 | .range=> rngC args Q σ
 | f=> CallS f.val args Q σ
theorem reps_ints {h: Heap}: ∀ {vs: List Value} {ns: List Int},Reps h vs (ns.map .int) -> IntsAre vs ns
 | vs,[],r=> by rw [r.inil];exact .nil
 | vs,n :: ns,r=> by
  obtain ⟨v,us,rfl,r,rs⟩:= Reps.icons r
  obtain ⟨t,rfl⟩:= r.iint
  exact .cons _ _ (reps_ints rs)
theorem one_rep {h: Heap} {vs: List Value} {x: V} (r: Reps h vs [x]): ∃ v,vs = [v] /\ Rep h v x:= by
 obtain ⟨v,us,rfl,r1,r2⟩:= r.icons
 rw [r2.inil];exact ⟨_,rfl,r1⟩
theorem two_rep {h: Heap} {vs: List Value} {x y: V} (r: Reps h vs [x,y]): ∃ v u,vs = [v,u] /\ Rep h v x /\ Rep h u y:= by
 obtain ⟨v,us,rfl,r1,r2⟩:= r.icons
 obtain ⟨u,rfl,q⟩:= one_rep r2;exact ⟨_,_,rfl,r1,q⟩
theorem range_call {args: List V} (h: rngC args Q σ): CallS (.type "range") args Q σ:= by
 refine CallS.mk ?_
 intro prog w A s h₀ mg mb n vargs G R ra hw
 cases args with
 | nil=> exact h.elim
 | cons x l=>
  obtain ⟨v1,us,rfl,r1,r2⟩:= ra.icons
  obtain ⟨a,rfl,h⟩:= onInt_inv h
  obtain ⟨t1,rfl⟩:= r1.iint
  cases l with
  | nil=>
   obtain rfl:= r2.inil
   exact call_range_1 ⟨_,σ,.rng (Heap.get?_push_size _ rfl),⟨hw.extend (fun b o e=> Heap.get?_push_of_some _ e),Eq.refl _,Eq.refl _⟩,h⟩
  | cons y l=>
   obtain ⟨v2,us,rfl,r1,r3⟩:= r2.icons
   obtain ⟨b,rfl,h⟩:= onInt_inv h
   obtain ⟨t2,rfl⟩:= r1.iint
   cases l with
   | nil=>
    obtain rfl:= r3.inil
    exact call_range_2 ⟨_,σ,.rng (Heap.get?_push_size _ rfl),⟨hw.extend (fun b o e=> Heap.get?_push_of_some _ e),Eq.refl _,Eq.refl _⟩,h⟩
   | cons z l=>
    obtain ⟨v3,us,rfl,r1,r4⟩:= r3.icons
    obtain ⟨c,rfl,h⟩:= onInt_inv h
    obtain ⟨t3,rfl⟩:= r1.iint
    cases l with
    | cons _ _=> exact h.elim
    | nil=>
     obtain rfl:= r4.inil
     exact call_range_3 h.1 ⟨_,σ,.rng (Heap.get?_push_size _ rfl),⟨hw.extend (fun b o e=> Heap.get?_push_of_some _ e),Eq.refl _,Eq.refl _⟩,h.2⟩ (.inr (pylong G hw R))
theorem opCall_ok {f: BI} {args: List V} (h: opCall f args Q σ): CallS f.val args Q σ:= by
 cases f with
 | range=> exact range_call h
 | _=> exact h
theorem call_len {a: Addr} {xs: List V} (e: listAt σ a = some xs) (q: Q (.int xs.length) σ): opCall .len [.ref a] Q σ:= by
 refine CallS.mk ?_
 intro prog w A s h₀ mg mb n vargs G R ra hw
 obtain ⟨v,rfl,r⟩:= one_rep ra;obtain rfl:= r.iref
 obtain ⟨vs,hl,r⟩:= hw.list e
 have hb:= hw.len e
 have hlen:= r.length
 unfold BIG at hb
 refine Calls.call_len_list hl (by simp;(exact ar_i7 hb hlen)) (PV.same hw (.int _ _) ?_ _)
 simp only [List.size_toArray,hlen];exact q
theorem call_sum {a: Addr} {ns: List Int} (e: listAt σ a = some (ns.map .int)) (q: Q (.int ns.sum) σ): opCall .sum [.ref a] Q σ:= by
 refine CallS.mk ?_
 intro prog w A s h₀ mg mb n vargs G R ra hw
 obtain ⟨v,rfl,r⟩:= one_rep ra;obtain rfl:= r.iref
 obtain ⟨vs,hl,r⟩:= hw.list e
 have hi:= reps_ints r
 obtain ⟨xs,hx⟩:= hi.allInts.items
 rw [hx] at hl
 refine sum_intListG R.handled hl fun h' tk t' k=> ?_
 refine ⟨_,σ,.int _ _,⟨hw.extend k,Eq.refl _,Eq.refl _⟩,?_⟩
 have e2: preSum (numAt xs) xs.size = ns.sum:= by
  have:= hi.numsOf
  rw [show vs = vs.toArray.toList from rfl,hx,nums_intItems] at this
  rw [preSum_eq,List.take_of_length_le (by simp),this]
 rw [e2];exact q
theorem call_list {a: Addr} {xs: List V} (e: listAt σ a = some xs) (q: newL xs Q σ): opCall .list [.ref a] Q σ:= by
 refine CallS.mk ?_
 intro prog w A s h₀ mg mb n vargs G R ra hw
 obtain ⟨v,rfl,r⟩:= one_rep ra;obtain rfl:= r.iref
 obtain ⟨vs,hl,r⟩:= hw.list e
 have hb:= hw.len e
 have hlen:= r.length
 obtain ⟨o,ho,hc,n,hd⟩:= id hl
 exact call_list_seq _ (.inl rfl) ho hc hd (fun h' c' k g=> PV.new (n:= c') hw k (get_push_none _) g r q) (by simp;exact big_line (by lia))
inductive Meth where
 | append | extend | pop | index | reverse | sort
 deriving DecidableEq
noncomputable def Meth.name: Meth -> Str
 | .append=> "append" | .extend=> "extend" | .pop=> "pop" | .index=> "index" | .reverse=> "reverse" | .sort=> "sort"
noncomputable def Meth.id: Meth -> String
 | .append=> "list.append" | .extend=> "list.extend" | .pop=> "list.pop" | .index=> "list.index" | .reverse=> "list.reverse" | .sort=> "list.sort"
structure opMeth (m: Meth) (o: V) (args: List V) (Q: V -> Hp -> Prop) (σ: Hp): Prop where
 go: ∀ ⦃prog: Program⦄ ⦃w: World⦄ ⦃A: Around⦄ ⦃s: Shared⦄ ⦃h₀: Heap⦄ ⦃mg mb: Str -> Option Value⦄ ⦃n: Nat⦄ ⦃vo: Value⦄ ⦃vargs: List Value⦄,Gnd prog h₀ mg mb -> Room A n -> Rep s.heap vo o -> Reps s.heap vargs args -> W h₀ σ s.heap ->
 wpAny (model prog w) A (call (.builtin m.id) (vo :: vargs)) (PV h₀ σ s Q) E0 s
theorem m_append {a: Addr} {x: V} {xs: List V} (e: σ a = some (.list xs)) (hb: xs.length < BIG) (q: Q .none (upd σ a (.list (xs ++ [x])))): opMeth .append (.ref a) [x] Q σ:= by
 refine opMeth.mk ?_
 intro prog w A s h₀ mg mb n0 vo vargs G R ro ra hw
 obtain ⟨v,rfl,r1⟩:= one_rep ra
 obtain rfl:= ro.iref
 obtain ⟨vs,n,g,r⟩:= hw.mlist e
 have hlen:= r.length
 have hsz: vs.length <= sizeLine:= big_line (by lia)
 refine call_meets PySem.F.slot_list_append ⟨_,g,rfl⟩ PySem.F.entry_list_append (PySem.F.args_list_append_2 _ _) (AutoListH.list_append_list_val_0 _ vs.toArray n _ (by simpa using hsz)) ⟨g,?_⟩
 exact ⟨_,_,.none,⟨hw.mapSeq e g _ (by simpa using r.append (.cons r1 .nil)) (by simp;(exact Nat.succ_le_of_lt hb)),Eq.refl _,Eq.refl _⟩,q⟩
theorem m_extend {a b: Addr} {xs ys: List V} (e1: σ a = some (.list xs)) (e2: σ b = some (.list ys)) (hb: xs.length + ys.length <= BIG) (q: Q .none (upd σ a (.list (xs ++ ys)))): opMeth .extend (.ref a) [.ref b] Q σ:= by
 refine opMeth.mk ?_
 intro prog w A s h₀ mg mb n0 vo vargs G R ro ra hw
 obtain ⟨v,rfl,r1⟩:= one_rep ra
 obtain rfl:= ro.iref;obtain rfl:= r1.iref
 obtain ⟨vs,n,g,r⟩:= hw.mlist e1
 obtain ⟨ws,n2,g2,r2⟩:= hw.mlist e2
 have hlen:= r.length
 have hlen2:= r2.length
 have hs: sizeLine = 16777216:= by decide
 unfold BIG at hb
 refine call_meets PySem.F.slot_list_extend ⟨_,g,rfl⟩ PySem.F.entry_list_extend (PySem.F.args_list_extend_2 _ _) (AutoSeq1.list_extend_list_list_0 _ vs.toArray n _ ws.toArray n2 (by
  simp [Builtin.List.listTooLong,hs];lia) (by simp [hs];lia) (by simp [hs];lia)) ⟨g,g2,?_⟩
 exact ⟨_,_,.none,⟨hw.mapSeq e1 g _ (by simpa using r.append r2) (by simp;unfold BIG;lia),Eq.refl _,Eq.refl _⟩,q⟩
end
inductive Tgt where
 | name (i: Nat)
 | tup (is: List Nat)
inductive IK where
 | plain | enum | rev
 deriving DecidableEq
abbrev Frm:= List (Option V)
inductive It where
 | lst (a: Addr) (i: Nat)
 | rng (x: Int) (n: Nat) (c: Int)
 | vals (vs: List V)
noncomputable def itStart (k: IK) (x: V) (Q: It -> Hp -> Prop) (σ: Hp): Prop:=
 match k,x with
 | .plain,.ref a=> (∃ xs,listAt σ a = some xs) /\ Q (.lst a 0) σ
 | .plain,.rng a b c=> rok a b c /\ Q (.rng a (rlen a b c) c) σ
 | .plain,.tup vs=> Q (.vals vs) σ
 | .rev,.rng a b c=> a = 0 /\ c = 1 /\ 0 <= b /\ b <= 1000000 /\ Q (.rng (b - 1) b.toNat (-1)) σ
 | _,_=> False
noncomputable def itNext (it: It) (σ: Hp): Option (Option (V × It)):=
 match it with
 | .lst a i=> match listAt σ a with
  | some xs=> (match xs[i]? with | some x=> some (some (x,.lst a (i + 1))) | none=> some none)
  | none=> none
 | .rng _ 0 _=> some none
 | .rng x (n + 1) c=> some (some (.int x,.rng (x + c) n c))
 | .vals []=> some none
 | .vals (v :: vs)=> some (some (v,.vals vs))
noncomputable def setAll: List Nat -> List V -> Frm -> Frm
 | i :: is,v :: vs,F=> setAll is vs (F.set i (some v))
 | _,_,F=> F
noncomputable def bindT (t: Tgt) (x: V) (Q: Frm -> Prop) (F: Frm) (σ: Hp): Prop:=
 match t,x with
 | .name i,x=> Q (F.set i (some x))
 | .tup is,.tup vs=> is.length = vs.length /\ Q (setAll is vs F)
 | .tup is,.ref a=> ∃ vs,listAt σ a = some vs /\ is.length = vs.length /\ Q (setAll is vs F)
 | _,_=> False
noncomputable def partV (v: V) (Q: Option Int -> Prop): Prop:= match v with | .none=> Q .none | .int i=> Q (some i) | _=> False
noncomputable def pickL (xs: List V) (lo hi st: Option Int): List V:=
 (sliceRange (sliceBounds lo hi st xs.length).1 (sliceBounds lo hi st xs.length).2.1 (sliceBounds lo hi st xs.length).2.2).filterMap (xs[·]?)
noncomputable def opSlice (o lo hi st: V) (Q: V -> Hp -> Prop) (σ: Hp): Prop:=
 match o with
 | .ref a=> ∃ xs,listAt σ a = some xs /\ partV lo fun l=> partV hi fun h=> partV st fun s=> s ≠ some 0 /\ newL (pickL xs l h s) Q σ
 | _=> False
abbrev Fns:= Nat -> List V -> (V -> Hp -> Prop) -> Hp -> Prop
structure PE where
 v: Fns -> (V -> Hp -> Prop) -> Frm -> Hp -> Prop
 t: Fns -> (Bool -> Hp -> Prop) -> Frm -> Hp -> Prop
noncomputable def vE (Φ: Fns) (p: PE) (Q: V -> Hp -> Prop) (F: Frm) (σ: Hp): Prop:= p.v Φ Q F σ
noncomputable def vT (Φ: Fns) (p: PE) (P: Bool -> Hp -> Prop) (F: Frm) (σ: Hp): Prop:= p.t Φ P F σ
noncomputable def PE.of (v: Fns -> (V -> Hp -> Prop) -> Frm -> Hp -> Prop): PE:= ⟨v,fun Φ P F σ=> v Φ (fun x σ=> truth x P σ) F σ⟩
noncomputable def vEs (Φ: Fns): List PE -> (List V -> Hp -> Prop) -> Frm -> Hp -> Prop
 | [],Q,F,σ=> Q [] σ
 | e :: es,Q,F,σ=> vE Φ e (fun v σ=> vEs Φ es (fun vs σ=> Q (v :: vs) σ) F σ) F σ
noncomputable def vO (Φ: Fns): Option PE -> (V -> Hp -> Prop) -> Frm -> Hp -> Prop
 | .none,Q,F,σ=> Q .none σ
 | some e,Q,F,σ=> vE Φ e Q F σ
noncomputable def vTs (Φ: Fns): List PE -> (Bool -> Hp -> Prop) -> Frm -> Hp -> Prop
 | [],Q,F,σ=> Q true σ
 | e :: es,Q,F,σ=> vT Φ e (fun b σ=> if b then vTs Φ es Q F σ else Q false σ) F σ
noncomputable def look (F: Frm) (i: Nat) (K: V -> Prop): Prop:= match F[i]? with | some (some v)=> K v | _=> False
noncomputable def frOf (fmap: List (Option Nat)) (F: Frm): Frm:= fmap.map fun j=> match j with | some j=> (match F[j]? with | some v=> v | none=> none) | none=> none
inductive CompG (Φ: Fns) (ifs: List PE) (elt: PE) (t: Tgt) (F0: Frm) (Q: V -> Hp -> Prop) (I: It) (σ: Hp): Prop
 | mk (Inv: Nat -> It -> List V -> Hp -> Prop) (h1: (∃ n,Inv n I [] σ)) (h2: ∀ n I acc σ,Inv n I acc σ ->
    match itNext I σ with
    | none=> False
    | some none=> newL acc Q σ
    | some (some (x,I'))=> bindT t x (fun F1=> vTs Φ ifs (fun b σ=> if b then vE Φ elt (fun y σ=> acc.length < BIG /\ ∃ m,m < n /\ Inv m I' (acc ++ [y]) σ) F1 σ else ∃ m,m < n /\ Inv m I' acc σ) F1 σ) F0 σ): CompG Φ ifs elt t F0 Q I σ
namespace PE
noncomputable def int (i: Int): PE:= .of fun Φ Q F σ=> Q (.int i) σ
noncomputable def bool (b: Bool): PE:= .of fun Φ Q F σ=> Q (.bool b) σ
noncomputable def none: PE:= .of fun Φ Q F σ=> Q .none σ
noncomputable def var (i: Nat): PE:= .of fun Φ Q F σ=> look F i (fun v=> Q v σ)
noncomputable def bin (op: Operator) (l r: PE): PE:= .of fun Φ Q F σ=> vE Φ l (fun a σ=> vE Φ r (fun b σ=> opBin op a b Q σ) F σ) F σ
noncomputable def not (e: PE): PE:= ⟨fun Φ Q F σ=> vT Φ e (fun b σ=> Q (.bool (!b)) σ) F σ,fun Φ P F σ=> vT Φ e (fun b σ=> P (!b) σ) F σ⟩
noncomputable def cmp (op: CmpOp) (l r: PE): PE:= .of fun Φ Q F σ=> vE Φ l (fun a σ=> vE Φ r (fun b σ=> opCmp op a b Q σ) F σ) F σ
noncomputable def and (l r: PE): PE:= ⟨fun Φ Q F σ=> vE Φ l (fun a σ=> truth a (fun b σ=> if b then vE Φ r Q F σ else Q a σ) σ) F σ,fun Φ P F σ=> vT Φ l (fun b σ=> if b then vT Φ r P F σ else P false σ) F σ⟩
noncomputable def ite (c a b: PE): PE:= .of fun Φ Q F σ=> vT Φ c (fun t σ=> if t then vE Φ a Q F σ else vE Φ b Q F σ) F σ
noncomputable def sub (o i: PE): PE:= .of fun Φ Q F σ=> vE Φ o (fun a σ=> vE Φ i (fun b σ=> opSub a b Q σ) F σ) F σ
noncomputable def slice (o: PE) (lo hi st: Option PE): PE:= .of fun Φ Q F σ=> vE Φ o (fun a σ=> vO Φ lo (fun l σ=> vO Φ hi (fun h σ=> vO Φ st (fun s σ=> opSlice a l h s Q σ) F σ) F σ) F σ) F σ
noncomputable def list (es: List PE): PE:= .of fun Φ Q F σ=> vEs Φ es (fun vs σ=> newL vs Q σ) F σ
noncomputable def tuple (es: List PE): PE:= .of fun Φ Q F σ=> vEs Φ es (fun vs σ=> vs.length <= BIG /\ Q (.tup vs) σ) F σ
noncomputable def call (f: BI) (es: List PE): PE:= .of fun Φ Q F σ=> vEs Φ es (fun vs σ=> opCall f vs Q σ) F σ
noncomputable def ucall (f: Nat) (es: List PE): PE:= .of fun Φ Q F σ=> vEs Φ es (fun vs σ=> Φ f vs Q σ) F σ
noncomputable def meth (m: Meth) (o: PE) (es: List PE): PE:= .of fun Φ Q F σ=> vE Φ o (fun a σ=> (∃ b xs,a = .ref b /\ σ b = some (.list xs)) /\ vEs Φ es (fun vs σ=> opMeth m a vs Q σ) F σ) F σ
noncomputable def comp (fm: List (Option Nat)) (elt: PE) (t: Tgt) (k: IK) (it: PE) (ifs: List PE): PE:= .of fun Φ Q F σ=> vE Φ it (fun x σ=> itStart k x (fun I σ=> CompG Φ ifs elt t (frOf fm F) Q I σ) σ) F σ
end PE
inductive Fl where
 | next | brk | cont
 | ret (v: V)
noncomputable def PS: Type:= Fns -> (Fl -> Frm -> Hp -> Prop) -> Frm -> Hp -> Prop
noncomputable def vS (Φ: Fns) (p: PS) (Q: Fl -> Frm -> Hp -> Prop) (F: Frm) (σ: Hp): Prop:= p Φ Q F σ
structure Seq (fl: Fl) (A B: Prop): Prop where
 go: match fl with
  | .next=> A
  | _=> B
noncomputable def vSs (Φ: Fns): List PS -> (Fl -> Frm -> Hp -> Prop) -> Frm -> Hp -> Prop
 | [],Q,F,σ=> Q .next F σ
 | s :: ss,Q,F,σ=> vS Φ s (fun fl F σ=> Seq fl (vSs Φ ss Q F σ) (Q fl F σ)) F σ
inductive ForG (Φ: Fns) (b: List PS) (t: Tgt) (Q: Fl -> Frm -> Hp -> Prop) (I: It) (F: Frm) (σ: Hp): Prop
 | mk (Inv: Nat -> It -> Frm -> Hp -> Prop) (h1: (∃ n,Inv n I F σ)) (h2: ∀ n I F σ,Inv n I F σ ->
    match itNext I σ with
    | none=> False
    | some none=> Q .next F σ
    | some (some (x,I'))=> bindT t x (fun F1=> vSs Φ b (fun fl F σ=> match fl with
     | .next=> ∃ m,m < n /\ Inv m I' F σ
     | .cont=> ∃ m,m < n /\ Inv m I' F σ
     | .brk=> Q .next F σ
     | .ret v=> Q (.ret v) F σ) F1 σ) F σ): ForG Φ b t Q I F σ
inductive WhileG (Φ: Fns) (c: PE) (b: List PS) (Q: Fl -> Frm -> Hp -> Prop) (F: Frm) (σ: Hp): Prop
 | mk (Inv: Nat -> Frm -> Hp -> Prop) (h1: (∃ n,Inv n F σ)) (h2: ∀ n F σ,Inv n F σ ->
   vT Φ c (fun t σ=> if t then vSs Φ b (fun fl F σ=> match fl with
    | .next=> ∃ m,m < n /\ Inv m F σ
    | .cont=> ∃ m,m < n /\ Inv m F σ
    | .brk=> Q .next F σ
    | .ret v=> Q (.ret v) F σ) F σ else Q .next F σ) F σ): WhileG Φ c b Q F σ
noncomputable def augI (op: Operator) (x y: Int) (Q: V -> Hp -> Prop) (σ: Hp): Prop:= match op with
 | .Add=> Q (.int (x + y)) σ
 | .Mult=> IntMulOk x y /\ Q (.int (x * y)) σ
 | _=> False
noncomputable def opAug (op: Operator) (a b: V) (Q: V -> Hp -> Prop) (σ: Hp): Prop:= match a,b with
 | .int x,.int y=> augI op x y Q σ
 | _,_=> False
namespace PS
noncomputable def expr (e: PE): PS:= fun Φ R F σ=> vE Φ e (fun _ σ=> R .next F σ) F σ
noncomputable def assign (t: Tgt) (e: PE): PS:= fun Φ R F σ=> vE Φ e (fun v σ=> bindT t v (fun F'=> R .next F' σ) F σ) F σ
noncomputable def setitem (o i e: PE): PS:= fun Φ R F σ=> vE Φ e (fun v σ=> vE Φ o (fun ov σ=> vE Φ i (fun iv σ=> opSet ov iv v (fun σ=> R .next F σ) σ) F σ) F σ) F σ
noncomputable def aug (i: Nat) (op: Operator) (e: PE): PS:= fun Φ R F σ=> look F i (fun x=> vE Φ e (fun b σ=> opAug op x b (fun v σ=> R .next (F.set i (some v)) σ) σ) F σ)
noncomputable def ifs (c: PE) (a b: List PS): PS:= fun Φ R F σ=> vT Φ c (fun t σ=> if t then vSs Φ a R F σ else vSs Φ b R F σ) F σ
noncomputable def whil (c: PE) (b: List PS): PS:= fun Φ R F σ=> WhileG Φ c b R F σ
noncomputable def «for» (t: Tgt) (k: IK) (it: PE) (b: List PS): PS:= fun Φ R F σ=> vE Φ it (fun x σ=> itStart k x (fun I σ=> ForG Φ b t R I F σ) σ) F σ
noncomputable def ret (e: PE): PS:= fun Φ R F σ=> vE Φ e (fun v σ=> R (.ret v) F σ) F σ
noncomputable def brk: PS:= fun Φ R F σ=> R .brk F σ
noncomputable def cont: PS:= fun Φ R F σ=> R .cont F σ
end PS
section
variable (Φ: Fns) (Q: V -> Hp -> Prop) (P: Bool -> Hp -> Prop) (R: Fl -> Frm -> Hp -> Prop) (F: Frm) (σ: Hp)
theorem e_int (i: Int): vE Φ (.int i) Q F σ = Q (.int i) σ:= rfl
theorem e_bool (b: Bool): vE Φ (.bool b) Q F σ = Q (.bool b) σ:= rfl
theorem e_none: vE Φ .none Q F σ = Q .none σ:= rfl
theorem e_bin (op: Operator) (l r: PE): vE Φ (.bin op l r) Q F σ = vE Φ l (fun a σ=> vE Φ r (fun b σ=> opBin op a b Q σ) F σ) F σ:= rfl
theorem e_cmp (op: CmpOp) (l r: PE): vE Φ (.cmp op l r) Q F σ = vE Φ l (fun a σ=> vE Φ r (fun b σ=> opCmp op a b Q σ) F σ) F σ:= rfl
theorem e_ite (c a b: PE): vE Φ (.ite c a b) Q F σ = vT Φ c (fun t σ=> if t then vE Φ a Q F σ else vE Φ b Q F σ) F σ:= rfl
theorem e_sub (o i: PE): vE Φ (.sub o i) Q F σ = vE Φ o (fun a σ=> vE Φ i (fun b σ=> opSub a b Q σ) F σ) F σ:= rfl
theorem e_slice (o: PE) (lo hi st: Option PE): vE Φ (.slice o lo hi st) Q F σ = vE Φ o (fun a σ=> vO Φ lo (fun l σ=> vO Φ hi (fun h σ=> vO Φ st (fun s σ=> opSlice a l h s Q σ) F σ) F σ) F σ) F σ:= rfl
theorem e_list (es: List PE): vE Φ (.list es) Q F σ = vEs Φ es (fun vs σ=> newL vs Q σ) F σ:= rfl
theorem e_tuple (es: List PE): vE Φ (.tuple es) Q F σ = vEs Φ es (fun vs σ=> vs.length <= BIG /\ Q (.tup vs) σ) F σ:= rfl
theorem e_call (f: BI) (es: List PE): vE Φ (.call f es) Q F σ = vEs Φ es (fun vs σ=> opCall f vs Q σ) F σ:= rfl
theorem e_ucall (f: Nat) (es: List PE): vE Φ (.ucall f es) Q F σ = vEs Φ es (fun vs σ=> Φ f vs Q σ) F σ:= rfl
theorem e_meth (m: Meth) (o: PE) (es: List PE): vE Φ (.meth m o es) Q F σ = vE Φ o (fun a σ=> (∃ b xs,a = .ref b /\ σ b = some (.list xs)) /\ vEs Φ es (fun vs σ=> opMeth m a vs Q σ) F σ) F σ:= rfl
theorem t_not (e: PE): vT Φ (.not e) P F σ = vT Φ e (fun b σ=> P (!b) σ) F σ:= rfl
theorem t_and (l r: PE): vT Φ (.and l r) P F σ = vT Φ l (fun b σ=> if b then vT Φ r P F σ else P false σ) F σ:= rfl
theorem t_cmp (op: CmpOp) (l r: PE): vT Φ (.cmp op l r) P F σ = vE Φ l (fun a σ=> vE Φ r (fun b σ=> opCmp op a b (fun v σ=> truth v P σ) σ) F σ) F σ:= rfl
theorem s_expr (e: PE): vS Φ (.expr e) R F σ = vE Φ e (fun _ σ=> R .next F σ) F σ:= rfl
theorem s_assign (t: Tgt) (e: PE): vS Φ (.assign t e) R F σ = vE Φ e (fun v σ=> bindT t v (fun F'=> R .next F' σ) F σ) F σ:= rfl
theorem s_setitem (o i e: PE): vS Φ (.setitem o i e) R F σ = vE Φ e (fun v σ=> vE Φ o (fun ov σ=> vE Φ i (fun iv σ=> opSet ov iv v (fun σ=> R .next F σ) σ) F σ) F σ) F σ:= rfl
theorem s_ifs (c: PE) (a b: List PS): vS Φ (.ifs c a b) R F σ = vT Φ c (fun t σ=> if t then vSs Φ a R F σ else vSs Φ b R F σ) F σ:= rfl
theorem s_ret (e: PE): vS Φ (.ret e) R F σ = vE Φ e (fun v σ=> R (.ret v) F σ) F σ:= rfl
theorem s_brk: vS Φ .brk R F σ = R .brk F σ:= rfl
theorem s_cont: vS Φ .cont R F σ = R .cont F σ:= rfl
theorem ss_nil: vSs Φ [] R F σ = R .next F σ:= rfl
theorem es_nil (K: List V -> Hp -> Prop): vEs Φ [] K F σ = K [] σ:= rfl
theorem es_cons (K: List V -> Hp -> Prop) (e: PE) (es: List PE): vEs Φ (e :: es) K F σ = vE Φ e (fun v σ=> vEs Φ es (fun vs σ=> K (v :: vs) σ) F σ) F σ:= rfl
theorem o_none: vO Φ none Q F σ = Q .none σ:= rfl
theorem o_some (e: PE): vO Φ (some e) Q F σ = vE Φ e Q F σ:= rfl
theorem ts_nil: vTs Φ [] P F σ = P true σ:= rfl
theorem e_var (i: Nat): vE Φ (.var i) Q F σ = look F i (fun v=> Q v σ):= rfl
theorem e_comp (fm: List (Option Nat)) (elt: PE) (t: Tgt) (k: IK) (it: PE) (ifs: List PE): vE Φ (.comp fm elt t k it ifs) Q F σ = vE Φ it (fun x σ=> itStart k x (fun I σ=> CompG Φ ifs elt t (frOf fm F) Q I σ) σ) F σ:= rfl
theorem t_var (i: Nat): vT Φ (.var i) P F σ = look F i (fun v=> truth v P σ):= rfl
theorem s_aug (i: Nat) (op: Operator) (e: PE): vS Φ (.aug i op e) R F σ = look F i (fun x=> vE Φ e (fun b σ=> opAug op x b (fun v σ=> R .next (F.set i (some v)) σ) σ) F σ):= rfl
theorem a_add (x y: Int): opAug .Add (.int x) (.int y) Q σ = Q (.int (x + y)) σ:= rfl
theorem s_while (c: PE) (b: List PS): vS Φ (.whil c b) R F σ = WhileG Φ c b R F σ:= rfl
theorem s_for (t: Tgt) (k: IK) (it: PE) (b: List PS): vS Φ (.for t k it b) R F σ = vE Φ it (fun x σ=> itStart k x (fun I σ=> ForG Φ b t R I F σ) σ) F σ:= rfl
noncomputable def seqQ (Φ: Fns) (ss: List PS) (R: Fl -> Frm -> Hp -> Prop) (fl: Fl) (F: Frm) (σ: Hp): Prop:= Seq fl (vSs Φ ss R F σ) (R fl F σ)
theorem ss_cons (s: PS) (ss: List PS): vSs Φ (s :: ss) R F σ = vS Φ s (seqQ Φ ss R) F σ:= rfl
theorem q_next (ss: List PS): seqQ Φ ss R .next F σ = vSs Φ ss R F σ:= propext ⟨fun h=> h.go,fun h=> ⟨h⟩⟩
theorem q_ret (ss: List PS) (v: V): seqQ Φ ss R (.ret v) F σ = R (.ret v) F σ:= propext ⟨fun h=> h.go,fun h=> ⟨h⟩⟩
theorem go_cons {s: PS} {ss: List PS} {Φ: Fns} {R: Fl -> Frm -> Hp -> Prop} {F: Frm} {σ: Hp} (h: vS Φ s (seqQ Φ ss R) F σ): vSs Φ (s :: ss) R F σ:= h
theorem q_nextI {ss: List PS} {Φ: Fns} {R: Fl -> Frm -> Hp -> Prop} {F: Frm} {σ: Hp} (h: vSs Φ ss R F σ): seqQ Φ ss R .next F σ:= ⟨h⟩
theorem q_brkI {ss: List PS} {Φ: Fns} {R: Fl -> Frm -> Hp -> Prop} {F: Frm} {σ: Hp} (h: R .brk F σ): seqQ Φ ss R .brk F σ:= ⟨h⟩
theorem q_contI {ss: List PS} {Φ: Fns} {R: Fl -> Frm -> Hp -> Prop} {F: Frm} {σ: Hp} (h: R .cont F σ): seqQ Φ ss R .cont F σ:= ⟨h⟩
theorem q_retI {ss: List PS} {v: V} {Φ: Fns} {R: Fl -> Frm -> Hp -> Prop} {F: Frm} {σ: Hp} (h: R (.ret v) F σ): seqQ Φ ss R (.ret v) F σ:= ⟨h⟩
theorem ss_nilI {Φ: Fns} {R: Fl -> Frm -> Hp -> Prop} {F: Frm} {σ: Hp} (h: R .next F σ): vSs Φ [] R F σ:= h
theorem bt_name (i: Nat) (x: V) (K: Frm -> Prop): bindT (.name i) x K F σ = K (F.set i (some x)):= rfl
theorem bt_tup (is: List Nat) (vs: List V) (K: Frm -> Prop): bindT (.tup is) (.tup vs) K F σ = (is.length = vs.length /\ K (setAll is vs F)):= rfl
theorem c_range1 (b: Int): opCall .range [.int b] Q σ = Q (.rng 0 b 1) σ:= rfl
theorem i_rng (a b c: Int) (K: It -> Hp -> Prop): itStart .plain (.rng a b c) K σ = (rok a b c /\ K (.rng a (rlen a b c) c) σ):= rfl
theorem i_ref (a: Addr) (K: It -> Hp -> Prop): itStart .plain (.ref a) K σ = ((∃ xs,listAt σ a = some xs) /\ K (.lst a 0) σ):= rfl
theorem i_rev (a b c: Int) (K: It -> Hp -> Prop): itStart .rev (.rng a b c) K σ = (a = 0 /\ c = 1 /\ 0 <= b /\ b <= 1000000 /\ K (.rng (b - 1) b.toNat (-1)) σ):= rfl
theorem look_zero (v: V) (K: V -> Prop): look (some v :: F) 0 K = K v:= rfl
theorem look_succ (v: Option V) (i: Nat) (K: V -> Prop): look (v :: F) (i + 1) K = look F i K:= rfl
theorem sa_nil (vs: List V): setAll [] vs F = F:= rfl
theorem sa_cons (i: Nat) (is: List Nat) (v: V) (vs: List V): setAll (i :: is) (v :: vs) F = setAll is vs (F.set i (some v)):= rfl
variable (x y: Int) (b: Bool)
theorem c_lt: opCmp .Lt (.int x) (.int y) Q σ = Q (.bool (decide (x < y))) σ:= rfl
theorem c_gt: opCmp .Gt (.int x) (.int y) Q σ = Q (.bool (decide (y < x))) σ:= rfl
theorem c_ge: opCmp .GtE (.int x) (.int y) Q σ = Q (.bool (decide (y <= x))) σ:= rfl
theorem c_eq: opCmp .Eq (.int x) (.int y) Q σ = Q (.bool (x == y)) σ:= rfl
theorem b_add: opBin .Add (.int x) (.int y) Q σ = Q (.int (x + y)) σ:= rfl
theorem b_sub: opBin .Sub (.int x) (.int y) Q σ = Q (.int (x - y)) σ:= rfl
theorem b_mul: opBin .Mult (.int x) (.int y) Q σ = (IntMulOk x y /\ Q (.int (x * y)) σ):= rfl
theorem b_div: opBin .FloorDiv (.int x) (.int y) Q σ = (y ≠ 0 /\ Q (.int (x.fdiv y)) σ):= rfl
theorem b_mod: opBin .Mod (.int x) (.int y) Q σ = (y ≠ 0 /\ Q (.int (x.fmod y)) σ):= rfl
theorem b_shr: opBin .RShift (.int x) (.int 1) Q σ = (0 <= x /\ (1: Int) = 1 /\ Q (.int (x / 2)) σ):= rfl
theorem t_bool: truth (.bool b) P σ = P b σ:= rfl
end
structure Cfg where
 sc: List (Str × NameKind)
 fns: List Str
 code: Option (Addr × Str):= none
noncomputable def isVar: NameKind -> Bool
 | .local=> true
 | .cell=> true
 | .free=> true
 | _=> false
noncomputable def Cfg.names (c: Cfg): List Str:= (c.sc.filter fun x=> isVar x.2).map (·.1)
noncomputable def fmapOf (c: Cfg) (sc: List (Str × NameKind)): List (Option Nat):=
 (sc.filter fun x=> isVar x.2).map fun x=> if x.2 == .free then some (c.names.idxOf x.1) else none
noncomputable def scOk (c: Cfg) (sc: List (Str × NameKind)): Bool:=
 decide (sc.map (·.1)).Nodup && sc.all fun x=> (x.2 != .free || (c.names.contains x.1 && c.sc.lookup x.1 != some .local)) && (isVar x.2 || x.2 == .globalImplicit)
mutual
inductive CG: Cfg -> Expr -> Tgt -> Prop
 | name {c: Cfg} {x: Str} {p: Pos} {i: Nat}: c.names[i]? = some x -> c.sc.lookup x ≠ some .free -> CG c (.Name x p) (.name i)
 | tup {c: Cfg} {es: List Expr} {k: Nat} {p: Pos} {is: List Nat}: CGs c es is -> CG c (.Tuple es k p) (.tup is)
inductive CGs: Cfg -> List Expr -> List Nat -> Prop
 | nil {c: Cfg}: CGs c [] []
 | cons {c: Cfg} {x: Str} {p: Pos} {i: Nat} {es: List Expr} {is: List Nat}: c.names[i]? = some x -> c.sc.lookup x ≠ some .free -> CGs c es is -> CGs c (.Name x p :: es) (i :: is)
end
inductive CellAt (c: Cfg) (env: Env) (own: Addr -> Prop) (F: Frm) (h₀: Heap) (σ: Hp) (h: Heap) (i: Nat) (x: Str): Prop
 | mk (a: Addr) (cv: Option Value) (h1: env.cells.lookup x = some a) (h2: h.IsCell a cv) (h3: ¬ Mut σ a) (h4: a ≠ env.locals) (h5: c.sc.lookup x = some .cell -> own a /\ σ a = none /\ h₀.get? a = none) (h6: ∀ v,F[i]? = some (some v) -> ∃ w,cv = some w /\ Rep h w v): CellAt c env own F h₀ σ h i x
inductive NsHas (c: Cfg) (env: Env) (F: Frm) (h: Heap): Prop
 | mk (m: Str -> Option Value) (h1: h.Ns env.locals m) (h2: ∀ (i: Nat) x v,c.names[i]? = some x -> env.kindOf x = some .local -> F[i]? = some (some v) -> ∃ w,m x = some w /\ Rep h w v): NsHas c env F h
structure FrOk (c: Cfg) (env: Env) (own: Addr -> Prop) (F: Frm) (h₀: Heap) (σ: Hp) (h: Heap): Prop where
 kind: env.scope.kind = .function
 glob: env.globals = mainGlobals
 bi: env.builtins = builtinsNs
 gk: ∀ x,c.sc.lookup x = some .globalImplicit -> env.kindOf x = some .globalImplicit
 vk: ∀ (i: Nat) x,c.names[i]? = some x -> (c.sc.lookup x = some .local /\ env.kindOf x = some .local) \/ (c.sc.lookup x = some .cell /\ env.kindOf x = some .cell) \/
  (c.sc.lookup x = some .free /\ (env.kindOf x = some .cell \/ env.kindOf x = some .free))
 ns: NsHas c env F h
 cell: ∀ (i: Nat) x,c.names[i]? = some x -> env.kindOf x ≠ some .local -> CellAt c env own F h₀ σ h i x
 inj: ∀ x y a,env.cells.lookup x = some a -> env.cells.lookup y = some a -> x = y
 loc: own env.locals /\ σ env.locals = none /\ h₀.get? env.locals = none
 nd: ∀ (i j: Nat) x,c.names[i]? = some x -> c.names[j]? = some x -> i = j
 ex: ∀ a,own a -> ∃ o,h.get? a = some o
 code: ∀ a q,c.code = some (a,q) -> env.code = .ref a /\ env.qual = q
section
variable {prog: Program} {w: World} {A: Around} {s: Shared} {h₀: Heap} {mg mb: Str -> Option Value} {σ σ': Hp} {c: Cfg} {env: Env} {own: Addr -> Prop} {F: Frm} {h h': Heap}
theorem none_mut {σ: Hp} {a: Addr} (e: σ a = none): ¬ Mut σ a:= fun ⟨o,q,_⟩=> by rw [e] at q;cases q
theorem FrOk.step (f: FrOk c env own F h₀ σ h) (st: Step h₀ σ h σ' h'): FrOk c env own F h₀ σ' h':= by
 refine ⟨f.kind,f.glob,f.bi,f.gk,f.vk,?_,fun i x e n=> ?_,f.inj,?_,f.nd,fun a oa=> (f.ex a oa).elim fun o e=> (st.alive a o e).imp fun _ q=> q.1,f.code⟩
 ·obtain ⟨m,n,r⟩:= f.ns
  exact ⟨m,st.ns (none_mut f.loc.2.1) (fun h=> h) n,fun i x v e1 e2 e3=> by
   obtain ⟨w,e4,e5⟩:= r i x v e1 e2 e3
   exact ⟨w,e4,e5.step st⟩⟩
 ·obtain ⟨a,cv,e1,⟨o,e2,e2'⟩,e3,e4,e5,e6⟩:= f.cell i x e n
  refine ⟨a,cv,e1,⟨o,st.keeps _ _ e3 (fun ⟨_,_,d⟩=> by rw [e2'] at d;cases d) e2,e2'⟩,st.grow.not e2 e3,e4,fun k=> ⟨(e5 k).1,st.grow.none e2 (e5 k).2.1,(e5 k).2.2⟩,fun v hv=> ?_⟩
  obtain ⟨w,q1,q2⟩:= e6 v hv
  exact ⟨w,q1,q2.step st⟩
 ·obtain ⟨m,n,r⟩:= f.ns
  obtain ⟨o,es,ep,ho,q⟩:= n
  exact ⟨f.loc.1,st.grow.none ho f.loc.2.1,f.loc.2.2⟩
theorem FrOk.load (f: FrOk c env own F h₀ σ s.heap) {i: Nat} {x: Str} {v: V} (e: c.names[i]? = some x) (hv: F[i]? = some (some v)) (hcd: (x == ("__classdict__": Str)) = false)
  {Q: Value -> Shared -> Prop} {E: Value -> Shared -> Prop} (q: ∀ w,Rep s.heap w v -> Q w s): wpAny (model prog w) A (loadName env x) Q E s:= by
 rcases f.vk i x e with ⟨_,k⟩ | ⟨_,k⟩ | ⟨_,k | k⟩
 ·obtain ⟨m,n,r⟩:= f.ns
  obtain ⟨w,e1,e2⟩:= r i x v e k hv
  exact wpAny_loadName_local f.kind k n e1 (q w e2)
 ·obtain ⟨a,cv,e1,e2,e3,e4,e5,e6⟩:= f.cell i x e (by rw [k];simp)
  obtain ⟨w,rfl,q2⟩:= e6 v hv
  exact wpAny_loadName_cell f.kind k e1 e2 (q w q2)
 ·obtain ⟨a,cv,e1,e2,e3,e4,e5,e6⟩:= f.cell i x e (by rw [k];simp)
  obtain ⟨w,rfl,q2⟩:= e6 v hv
  exact wpAny_loadName_cell f.kind k e1 e2 (q w q2)
 ·obtain ⟨a,cv,e1,e2,e3,e4,e5,e6⟩:= f.cell i x e (by rw [k];simp)
  obtain ⟨w,rfl,q2⟩:= e6 v hv
  exact wpAny_loadName_free f.kind k e1 e2 (q w q2) hcd
theorem own_step {own: Addr -> Prop} {a: Addr} (hw: W h₀ σ h) (oa: own a) (na: σ a = none) (ng: h₀.get? a = none) (sb: Heap.SameBut a h h') (ni: ∀ o,h.get? a = some o -> ¬ Imm o)
  (al: ∀ o,h.get? a = some o -> ∃ o',h'.get? a = some o' /\ (IsD o -> IsD o')): StepX own h₀ σ h σ h':= by
 have keep: ∀ b o,b ≠ a -> h.get? b = some o -> h'.get? b = some o:= fun b o n e=> (sb.2 b n).trans e
 have tups: Tups h h':= fun b o e i=> keep b o (by rintro rfl;exact ni o e i) e
 refine ⟨⟨fun b o e=> keep b o (by rintro rfl;rw [ng] at e;cases e) (hw.stays b o e),fun b o e=> ?_,hw.above,hw.small⟩,fun b o _ no _ e=> keep b o (by rintro rfl;exact no oa) e,fun b o _ no _ e=> ⟨o.slots,keep b o (by rintro rfl;exact no oa) e⟩,.refl _ _,tups,fun b o e=> ?_⟩
 ·have nb: b ≠ a:= by rintro rfl;rw [na] at e;cases e
  exact (hw.holds b o e).move tups fun o'=> keep b o' nb
 ·by_cases q: b = a
  ·subst q;exact al o e
  ·exact ⟨o,keep b o q e,id⟩
theorem ns_not_imm {a: Addr} {m: Str -> Option Value} (n: h.Ns a m): ∀ o,h.get? a = some o -> ¬ Imm o:= fun o e i=> by
 obtain ⟨o',es,ep,ho,hd,_⟩:= n
 rw [e] at ho;cases ho
 rcases i with ⟨_,vs,n,q⟩ | ⟨_,vs,q⟩ | ⟨fd,q⟩ | q
 ·rw [hd] at q;cases q
 ·rw [hd] at q;cases q
 ·rw [hd] at q;cases q
 ·rw [hd] at q;cases q
theorem cell_not_imm {a: Addr} {v: Option Value} (n: h.IsCell a v): ∀ o,h.get? a = some o -> ¬ Imm o:= fun o e i=> by
 obtain ⟨o',ho,hd⟩:= n
 rw [e] at ho;cases ho
 rcases i with ⟨_,vs,n,q⟩ | ⟨_,vs,q⟩ | ⟨fd,q⟩ | q <;> rw [hd] at q <;> cases q
theorem FrOk.store (f: FrOk c env own F h₀ σ s.heap) (hw: W h₀ σ s.heap) {i: Nat} {x: Str} {vv: Value} {v: V} (e: c.names[i]? = some x) (nf: c.sc.lookup x ≠ some .free) (rv: Rep s.heap vv v)
  {Q: Unit -> Shared -> Prop} {E: Value -> Shared -> Prop} (q: ∀ s',Sm s s' -> StepX own h₀ σ s.heap σ s'.heap -> FrOk c env own (F.set i (some v)) h₀ σ s'.heap -> Q () s'): wpAny (model prog w) A (storeName env x vv) Q E s:= by
 have hi:= (List.getElem?_eq_some_iff.mp e).1
 have same: ∀ (j: Nat) y (u: V),c.names[j]? = some y -> (F.set i (some v))[j]? = some (some u) -> (j = i /\ u = v) \/ (j ≠ i /\ F[j]? = some (some u)):= fun j y u _ e2=> by
  by_cases q: j = i
  ·subst q
   rw [List.getElem?_set_self'] at e2
   cases q2: F[j]? with
   | none=> rw [q2] at e2;cases e2
   | some z=> rw [q2] at e2;simp at e2;exact .inl ⟨rfl,e2.symm⟩
  ·rw [List.getElem?_set_ne (fun h=> q h.symm)] at e2;exact .inr ⟨q,e2⟩
 rcases f.vk i x e with ⟨_,k⟩ | ⟨kc,k⟩ | ⟨k,_⟩
 ·obtain ⟨m,n,r⟩:= f.ns
  refine wpAny_storeName_local k n (fun h' n' sb=> ?_) (by rw [f.kind];rfl)
  have st: StepX own h₀ σ s.heap σ h':= own_step hw f.loc.1 f.loc.2.1 f.loc.2.2 sb (ns_not_imm n) (fun o _=> by obtain ⟨o',es,ep,ho,hd,_⟩:= n';exact ⟨o',ho,fun _=> ⟨_,_,hd⟩⟩)
  refine q _ ⟨Eq.refl _,Eq.refl _⟩ st ⟨f.kind,f.glob,f.bi,f.gk,f.vk,⟨_,n',fun j y u e1 e2 e3=> ?_⟩,fun j y e1 e2=> ?_,f.inj,f.loc,f.nd,fun a oa=> (f.ex a oa).elim fun o e=> (st.alive a o e).imp fun _ q=> q.1,f.code⟩
  ·rcases same j y u e1 e3 with ⟨rfl,rfl⟩ | ⟨hj,e3⟩
   ·rw [e] at e1;cases e1
    exact ⟨vv,if_pos rfl,rv.step st⟩
   ·obtain ⟨w,e4,e5⟩:= r j y u e1 e2 e3
    refine ⟨w,?_,e5.step st⟩
    show (if y = x then some vv else m y) = some w
    rw [if_neg (by rintro rfl;exact hj (f.nd _ _ _ e1 e))];exact e4
  ·obtain ⟨a,cv,g1,g2,g3,g4,g5,g6⟩:= f.cell j y e1 e2
   refine ⟨a,cv,g1,g2.sameBut sb g4,g3,g4,g5,fun u hu=> ?_⟩
   rcases same j y u e1 hu with ⟨rfl,rfl⟩ | ⟨hj,e3⟩
   ·rw [e] at e1;cases e1;exact absurd k e2
   ·obtain ⟨w,q1,q2⟩:= g6 u e3
    exact ⟨w,q1,q2.step st⟩
 ·obtain ⟨a,cv,g1,g2,g3,g4,g5,g6⟩:= f.cell i x e (by rw [k];simp)
  refine wpAny_storeName_cell f.kind k g1 g2 fun h' n' sb=> ?_
  have st: StepX own h₀ σ s.heap σ h':= own_step hw (g5 kc).1 (g5 kc).2.1 (g5 kc).2.2 sb (cell_not_imm g2) (fun o eo=> by obtain ⟨o',ho,_⟩:= n';exact ⟨o',ho,fun ⟨_,_,d⟩=> by obtain ⟨o2,e2,d2⟩:= g2;rw [eo] at e2;cases e2;rw [d] at d2;cases d2⟩)
  refine q _ ⟨Eq.refl _,Eq.refl _⟩ st ⟨f.kind,f.glob,f.bi,f.gk,f.vk,?_,fun j y e1 e2=> ?_,f.inj,f.loc,f.nd,fun a oa=> (f.ex a oa).elim fun o e=> (st.alive a o e).imp fun _ q=> q.1,f.code⟩
  ·obtain ⟨m,n,r⟩:= f.ns
   refine ⟨m,n.sameBut sb (fun h=> g4 h.symm),fun j y u e1 e2 e3=> ?_⟩
   rcases same j y u e1 e3 with ⟨rfl,rfl⟩ | ⟨hj,e3⟩
   ·rw [e] at e1;cases e1;rw [k] at e2;cases e2
   ·obtain ⟨w,e4,e5⟩:= r j y u e1 e2 e3
    exact ⟨w,e4,e5.step st⟩
  ·obtain ⟨a',cv',g1',g2',g3',g4',g5',g6'⟩:= f.cell j y e1 e2
   by_cases hya: y = x
   ·subst hya
    rw [g1] at g1';cases g1'
    refine ⟨a,some vv,g1,n',g3,g4,g5',fun u hu=> ?_⟩
    rcases same j _ u e1 hu with ⟨rfl,rfl⟩ | ⟨hj,e3⟩
    ·exact ⟨vv,rfl,rv.step st⟩
    ·exact absurd (f.nd _ _ _ e1 e) hj
   ·have na: a' ≠ a:= by rintro rfl;exact hya (f.inj _ _ _ g1' g1)
    refine ⟨a',cv',g1',g2'.sameBut sb na,g3',g4',g5',fun u hu=> ?_⟩
    rcases same j y u e1 hu with ⟨rfl,rfl⟩ | ⟨hj,e3⟩
    ·rw [e] at e1;cases e1;exact absurd rfl hya
    ·obtain ⟨w,q1,q2⟩:= g6' u e3
     exact ⟨w,q1,q2.step st⟩
 ·exact absurd k nf
end
section
variable {prog: Program} {w: World} {A: Around} {s: Shared} {h₀: Heap} {mg mb: Str -> Option Value} {σ σ' σs: Hp} {c: Cfg} {env: Env} {own: Addr -> Prop} {F: Frm} {h h' hs: Heap}
theorem FrOk.move (f: FrOk c env own F h₀ σ h) (kl: ∀ o,h.get? env.locals = some o -> h'.get? env.locals = some o) (kc: ∀ x a,env.cells.lookup x = some a -> ∀ o,h.get? a = some o -> h'.get? a = some o)
  (t: Tups h h') (al: ∀ a,own a -> ∃ o,h'.get? a = some o): FrOk c env own F h₀ σ h':= by
 refine ⟨f.kind,f.glob,f.bi,f.gk,f.vk,?_,fun i x e n=> ?_,f.inj,f.loc,f.nd,al,f.code⟩
 ·obtain ⟨m,n,r⟩:= f.ns
  obtain ⟨o,es,ep,ho,q⟩:= n
  exact ⟨m,⟨o,es,ep,kl _ ho,q⟩,fun i x v e1 e2 e3=> by
   obtain ⟨w,e4,e5⟩:= r i x v e1 e2 e3
   exact ⟨w,e4,e5.tups t⟩⟩
 ·obtain ⟨a,cv,e1,⟨o,e2,e2'⟩,e3,e4,e5,e6⟩:= f.cell i x e n
  refine ⟨a,cv,e1,⟨o,kc _ _ e1 _ e2,e2'⟩,e3,e4,e5,fun v hv=> ?_⟩
  obtain ⟨w,q1,q2⟩:= e6 v hv
  exact ⟨w,q1,q2.tups t⟩
noncomputable def Beside (as: List Addr) (h₀: Heap) (σ: Hp) (hs: Heap): Prop:= ∀ a ∈ as,hs.get? a = none /\ σ a = none /\ h₀.get? a = none
theorem W.slip {as: List Addr} (hw: W h₀ σ h) (b: ∀ a ∈ as,σ a = none /\ h₀.get? a = none) (ni: ∀ a ∈ as,∀ o,h.get? a = some o -> ¬ Imm o) (k: ∀ b o,b ∉ as -> h.get? b = some o -> h'.get? b = some o): W h₀ σ h' /\ Tups h h':= by
 have tups: Tups h h':= fun a o e i=> k a o (fun m=> ni a m o e i) e
 refine ⟨⟨fun a o e=> k a o (fun m=> by rw [(b a m).2] at e;cases e) (hw.stays a o e),fun a o e=> ?_,hw.above,hw.small⟩,tups⟩
 have na: a ∉ as:= fun m=> by rw [(b a m).1] at e;cases e
 exact (hw.holds a o e).move tups fun o'=> k a o' na
theorem StepX.slip {as: List Addr} (x: StepX own h₀ σs hs σ h) (b: Beside as h₀ σ hs) (ni: ∀ a ∈ as,∀ o,h.get? a = some o -> ¬ Imm o) (k: ∀ b o,b ∉ as -> h.get? b = some o -> h'.get? b = some o): StepX own h₀ σs hs σ h':= by
 obtain ⟨w',tups⟩:= x.w.slip (fun a m=> (b a m).2) ni k
 have old: ∀ a o,hs.get? a = some o -> a ∉ as:= fun a o e m=> by rw [(b a m).1] at e;cases e
 exact ⟨w',fun a o n m d e=> k a o (old a o e) (x.keep a o n m d e),fun a o n m d e=> (x.dict a o n m d e).imp fun sl e'=> k a _ (old a o e) e',x.grow,fun a o e i=> k a o (old a o e) (x.tups a o e i),fun a o e=> by
  obtain ⟨o',e',d⟩:= x.alive a o e
  exact ⟨o',k a o' (old a o e) e',d⟩⟩
inductive ItVals (h: Heap) (v: Value) (as: List Addr) (vs: List V): Prop
 | mk (I t: Addr) (k: Nat) (ws: List Value) (h1: v = .ref I) (h2: as = [I]) (h3: h.IsTupleIter I t k) (h4: h.IsTuple t ws.toArray) (h5: Reps h (ws.drop k) vs): ItVals h v as vs
noncomputable def ItRep (h: Heap) (v: Value) (as: List Addr): It -> Prop
 | .lst a i=> ∃ I,v = .ref I /\ as = [I] /\ h.IsListIter I a i
 | .rng x n c=> ∃ I,v = .ref I /\ as = [I] /\ IsRangeIter h I x n c
 | .vals vs=> ItVals h v as vs
theorem ItRep.notImm {v: Value} {as: List Addr} {it: It} (r: ItRep h v as it): ∀ a ∈ as,∀ o,h.get? a = some o -> ¬ Imm o:= by
 intro a m o e
 cases it with
 | lst b k=> obtain ⟨I,_,rfl,o',e',c',d'⟩:= r;rw [List.mem_singleton.mp m] at e;obtain rfl:= Option.some.inj (e.symm.trans e');exact fld_not_imm c' (by decide) d' (two_not_str fun q t k=> nomatch k)
 | rng x n c=> obtain ⟨I,_,rfl,e'⟩:= r;rw [List.mem_singleton.mp m] at e;obtain rfl:= Option.some.inj (e.symm.trans e');exact fld_not_imm rfl (by decide) rfl (two_not_str fun q t k=> nomatch k)
 | vals vs=> obtain ⟨I,t,k,ws,_,rfl,⟨o',e',c',d'⟩,_⟩:= r;rw [List.mem_singleton.mp m] at e;obtain rfl:= Option.some.inj (e.symm.trans e');exact fld_not_imm c' (by decide) d' (two_not_str fun q t k=> nomatch k)
theorem fld_notD {p: Obj} {vs: Array Value} (hd: p.data = .fields vs): ¬ IsD p:= fun ⟨_,_,d⟩=> by rw [hd] at d;exact nomatch d
theorem ItRep.notD {v: Value} {as: List Addr} {it: It} (r: ItRep h v as it): ∀ a ∈ as,∀ o,h.get? a = some o -> ¬ IsD o:= by
 intro a m o e
 cases it with
 | lst b k=> obtain ⟨I,_,rfl,o',e',c',d'⟩:= r;rw [List.mem_singleton.mp m] at e;obtain rfl:= Option.some.inj (e.symm.trans e');exact fld_notD d'
 | rng x n c=> obtain ⟨I,_,rfl,e'⟩:= r;rw [List.mem_singleton.mp m] at e;obtain rfl:= Option.some.inj (e.symm.trans e');exact fld_notD rfl
 | vals vs=> obtain ⟨I,t,k,ws,_,rfl,⟨o',e',c',d'⟩,_⟩:= r;rw [List.mem_singleton.mp m] at e;obtain rfl:= Option.some.inj (e.symm.trans e');exact fld_notD d'
theorem ItRep.move {v: Value} {as: List Addr} {it: It} (r: ItRep h v as it) (k: ∀ a ∈ as,∀ o,h.get? a = some o -> h'.get? a = some o) (t: Tups h h'): ItRep h' v as it:= by
 cases it with
 | lst b j=> obtain ⟨I,rfl,rfl,o',e',q⟩:= r;exact ⟨I,rfl,rfl,o',k I (by simp) _ e',q⟩
 | rng x n c=> obtain ⟨I,rfl,rfl,e'⟩:= r;exact ⟨I,rfl,rfl,k I (by simp) _ e'⟩
 | vals vs=>
  obtain ⟨I,t',j,ws,rfl,rfl,⟨o',e',q⟩,⟨o2,e2,c2,n2,d2⟩,rr⟩:= r
  exact ⟨I,t',j,ws,rfl,rfl,⟨o',k I (by simp) _ e',q⟩,⟨o2,t _ _ e2 (.inl ⟨c2,_,_,d2⟩),c2,n2,d2⟩,rr.tups t⟩
theorem next_item {v: Value} {as: List Addr} {it it': It} {x: V} (hh: A.handled = none) (hw: W h₀ σ s.heap) (r: ItRep s.heap v as it) (b: ∀ a ∈ as,σ a = none /\ h₀.get? a = none)
  (hn: itNext it σ = some (some (x,it'))) {Q: Option Value -> Shared -> Prop} {E: Value -> Shared -> Prop}
  (q: ∀ y s',Sm s s' -> Rep s'.heap y x -> ItRep s'.heap v as it' -> (∀ b o,b ∉ as -> s.heap.get? b = some o -> s'.heap.get? b = some o) -> Q (some y) s'): wpAny (model prog w) A (pyNext v) Q E s:= by
 cases it with
 | lst a i=>
  obtain ⟨I,rfl,rfl,hi⟩:= r
  simp only [itNext] at hn
  cases e: listAt σ a with
  | none=> rw [e] at hn;cases hn
  | some xs=>
   rw [e] at hn
   dsimp only at hn
   cases e2: xs[i]? with
   | none=> rw [e2] at hn;cases hn
   | some z=>
    rw [e2] at hn;cases hn
    obtain ⟨vs,hl,rr⟩:= hw.list e
    obtain ⟨y,e3,ry⟩:= rr.get e2
    refine wpAny_pyNext_list_item hi hl (by simpa using e3) fun h' hi' sb=> ?_
    have k: ∀ b o,b ∉ [I] -> s.heap.get? b = some o -> h'.get? b = some o:= fun b o n e=> sb.extBut b o (by simpa using n) e
    have t:= (hw.slip (as:= [I]) b (ItRep.notImm (it:= .lst a i) ⟨I,rfl,rfl,hi⟩) k).2
    exact q _ _ ⟨Eq.refl _,Eq.refl _⟩ (ry.tups t) ⟨I,rfl,rfl,hi'⟩ k
 | rng a n cc=>
  obtain ⟨I,rfl,rfl,hi⟩:= r
  cases n with
  | zero=> simp [itNext] at hn
  | succ n=>
   simp only [itNext] at hn;cases hn
   refine wpAny_pyNext_range_item hi (by exact Int.ofNat_succ_pos n) fun h' hi' sb=> ?_
   have k: ∀ b o,b ∉ [I] -> s.heap.get? b = some o -> h'.get? b = some o:= fun b o n e=> sb.extBut b o (by simpa using n) e
   refine q _ _ ⟨Eq.refl _,Eq.refl _⟩ (.int _ _) ⟨I,rfl,rfl,?_⟩ k
   have: ((n + 1: Nat): Int) - 1 = (n: Int):= by exact Int.sub_eq_iff_eq_add.mpr rfl
   rw [this] at hi';exact hi'
 | vals vs=>
  obtain ⟨I,t,k0,ws,rfl,rfl,hi,ht,rr⟩:= r
  cases vs with
  | nil=> simp [itNext] at hn
  | cons z zs=>
   simp only [itNext] at hn;cases hn
   have hk0: k0 < ws.length:= by
    rcases Nat.lt_or_ge k0 ws.length with h | h
    ·exact h
    ·rw [List.drop_eq_nil_of_le h] at rr;cases rr
   rw [List.drop_eq_getElem_cons hk0] at rr
   cases rr with
   | cons ry rr=> ?_
   refine wpAny_pyNext_tuple_item hi ht (by simp [hk0];rfl) fun h' hi' sb=> ?_
   have k: ∀ b o,b ∉ [I] -> s.heap.get? b = some o -> h'.get? b = some o:= fun b o n e=> sb.extBut b o (by simpa using n) e
   have t2:= (hw.slip (as:= [I]) b (ItRep.notImm (it:= .vals (x :: zs)) ⟨I,t,k0,ws,rfl,rfl,hi,ht,by rw [List.drop_eq_getElem_cons hk0];exact .cons ry rr⟩) k).2
   refine q _ _ ⟨Eq.refl _,Eq.refl _⟩ (ry.tups t2) ⟨I,t,k0 + 1,ws,rfl,rfl,hi',?_,rr.tups t2⟩ k
   obtain ⟨o2,e2,c2,n2,d2⟩:= ht
   exact ⟨o2,t2 _ _ e2 (.inl ⟨c2,_,_,d2⟩),c2,n2,d2⟩
theorem next_end {v: Value} {as: List Addr} {it: It} (hh: A.handled = none) (hw: W h₀ σ s.heap) (r: ItRep s.heap v as it)
  (hn: itNext it σ = some none) {Q: Option Value -> Shared -> Prop} {E: Value -> Shared -> Prop}
  (q: ∀ s',Sm s s' -> (∀ b o,b ∉ as -> s.heap.get? b = some o -> s'.heap.get? b = some o) -> Q none s'): wpAny (model prog w) A (pyNext v) Q E s:= by
 cases it with
 | lst a i=>
  obtain ⟨I,rfl,rfl,hi⟩:= r
  simp only [itNext] at hn
  cases e: listAt σ a with
  | none=> rw [e] at hn;cases hn
  | some xs=>
   rw [e] at hn
   dsimp only at hn
   cases e2: xs[i]? with
   | some z=> rw [e2] at hn;cases hn
   | none=>
    obtain ⟨vs,hl,rr⟩:= hw.list e
    have e3: vs[i]? = none:= by rw [List.getElem?_eq_none_iff] at e2 ⊢;rw [rr.length];exact e2
    exact wpAny_pyNext_list_end hh hi hl (by simpa using e3) fun h' sb=> q _ ⟨Eq.refl _,Eq.refl _⟩ fun b o n e=> sb b o (by simpa using n) e
 | rng a n cc=>
  obtain ⟨I,rfl,rfl,hi⟩:= r
  cases n with
  | succ n=> simp [itNext] at hn
  | zero=> exact wpAny_pyNext_range_end hh hi (by exact Int.natCast_nonpos_iff.mpr rfl) fun h' sb=> q _ ⟨Eq.refl _,Eq.refl _⟩ fun b o n e=> sb b o (by simpa using n) e
 | vals vs=>
  obtain ⟨I,t,k0,ws,rfl,rfl,hi,ht,rr⟩:= r
  cases vs with
  | cons z zs=> simp [itNext] at hn
  | nil=>
   have hk0: ws.length <= k0:= by
    have:= rr.length;simp at this;(exact Nat.le_of_sub_eq_zero this)
   exact wpAny_pyNext_tuple_end hh hi ht (by simp;exact hk0) fun h' sb=> q _ ⟨Eq.refl _,Eq.refl _⟩ fun b o n e=> sb b o (by simpa using n) e
end
section
variable {prog: Program} {w: World} {A: Around} {E: Value -> Shared -> Prop} {s: Shared}
theorem draw_list {it t: Addr} {items: Array Value} (hne: t ≠ it): ∀ (n i: Nat) (s: Shared) (Q: List Value -> Shared -> Prop),s.heap.IsListIter it t i -> s.heap.IsList t items -> i + n <= items.size ->
  (∀ h',h'.IsListIter it t (i + n) -> Heap.SameBut it s.heap h' -> Q ((items.toList.drop i).take n) { s with heap:= h' }) -> wpAny (model prog w) A (draw (.ref it) n) Q E s
 | 0,i,s,Q,hit,_,_,hQ=> by
  show wpAny _ _ (pure []) Q E s
  exact wpAny_pure (by simpa using hQ s.heap hit (Heap.SameBut.refl ..))
 | n + 1,i,s,Q,hit,ht,hle,hQ=> by
  have hlt: i < items.size:= Nat.lt_of_lt_of_le (Nat.lt_add_of_pos_right (Nat.succ_pos n)) hle
  show wpAny _ _ (pyNext (.ref it) >>= _) Q E s
  refine wpAny_bind (wpAny_pyNext_list_item hit ht (x:= items[i]) (by simp [hlt]) fun h₁ hit₁ hs₁=> ?_)
  refine wpAny_bind (wpAny_holding (draw_list hne n (i + 1) _ _ hit₁ (ht.extBut hs₁.extBut hne) (by rw [Nat.add_assoc,Nat.add_comm 1 n];exact hle) fun h₂ hit₂ hs₂=> wpAny_pure ?_))
  have hd: items.toList.drop i = items[i] :: items.toList.drop (i + 1):= by simp [List.drop_eq_getElem_cons,hlt]
  have:= hQ h₂ (by rw [show i + (n + 1) = i + 1 + n from by rw [Nat.add_assoc,Nat.add_comm 1 n]];exact hit₂) (hs₁.trans hs₂)
  rw [hd,List.take_succ_cons] at this
  exact this
theorem unpackItems_list {t: Addr} {items: Array Value} {Q: List Value -> Shared -> Prop} (hh: A.handled = none) (ht: s.heap.IsList t items)
  (hQ: ∀ h',Heap.ExtBut s.heap.objs.size s.heap h' -> Q items.toList { s with heap:= h' }): wpAny (model prog w) A (unpackItems (.ref t) items.size none) Q E s:= by
 have hlt: t ≠ s.heap.objs.size:= by obtain ⟨o,ho,_⟩:= ht;exact Nat.ne_of_lt (Heap.lt_size ho)
 unfold unpackItems
 refine wpAny_bind ?_
 ·unfold notIterableAtAll
  refine wpAny_bind (wpAny_specialOf ht.typeIs slot_list_iter.lookup ?_)
  refine wpAny_pure ?_
  simp only [Bool.false_eq_true,if_false]
  refine wpAny_bind (wpAny_holding (wpAny_pyIter_list ht ?_))
  refine wpAny_bind (wpAny_holding (draw_list hlt items.size 0 _ _ ⟨_,Heap.get?_push_size _ rfl,rfl,rfl⟩ (ht.push _) (by simp) fun h₁ hit₁ hs₁=> ?_))
  have hall: List.take items.size (List.drop 0 items.toList) = items.toList:= by
   rw [List.drop_zero];exact List.take_of_length_le (by simp)
  rw [hall]
  rw [if_neg (by simp)]
  have ht₁: h₁.IsList t items:= (ht.push _).extBut hs₁.extBut hlt
  refine wpAny_bind (wpAny_holding (wpAny_pyNext_list_end hh hit₁ ht₁ (by simp) fun h₂ he₂=> ?_))
  simp only [Option.isSome_none,Bool.false_eq_true,if_false]
  refine wpAny_pure (hQ h₂ fun b o hb e=> he₂ b o hb (hs₁.extBut b o hb (Heap.get?_push_of_some _ e)))
theorem assign_Tuple_list {env: Env} {elts: List Expr} {x1} {pos: Pos} {t: Addr} {items: Array Value} {Q: Unit -> Shared -> Prop} (hh: A.handled = none) (ht: s.heap.IsList t items)
  (hn: (assignEach elts env).length = items.size) (hstar: (assignEach elts env).findIdx? (·.1) = none)
  (h: ∀ h',Heap.ExtBut s.heap.objs.size s.heap h' -> wpAny (model prog w) A (assignInOrder ((assignEach elts env).map (·.2)) items.toList) Q E { s with heap:= h' }) :
  wpAny (model prog w) A (assign (.Tuple elts x1 pos) env (.ref t)) Q E s:= by
 rw [arm_assign_Tuple]
 refine wpAny_bind (wpAny_standAt ?_)
 unfold unpack
 rw [hn,hstar]
 exact wpAny_bind (wpAny_holding (unpackItems_list hh ht h))
end
section
variable {prog: Program} {w: World} {A: Around} {s: Shared} {h₀: Heap} {mg mb: Str -> Option Value} {σ σ' σs: Hp} {c: Cfg} {env: Env} {own: Addr -> Prop} {F: Frm} {h h' hs: Heap}
theorem beside_one (hw: W h₀ σ h) {a: Addr} (e: h.get? a = none): h.get? a = none /\ σ a = none /\ h₀.get? a = none:=
 ⟨e,hw.fresh e,by cases q: h₀.get? a with | none=> rfl | some o=> rw [hw.stays a o q] at e;cases e⟩
inductive Started (en: Bool) (h₀: Heap) (σ: Hp) (s: Shared) (P: It -> Hp -> Prop) (it: Value) (s': Shared): Prop
 | mk (l0: Sm s s') (I: It) (as: List Addr) (h2: ItRep s'.heap it as I) (h3: Beside as h₀ σ s.heap) (h4: (∀ b o,s.heap.get? b = some o -> s'.heap.get? b = some o)) (h5: P I σ): Started en h₀ σ s P it s'
theorem start_plain {v: Value} {x: V} {P: It -> Hp -> Prop} (hw: W h₀ σ s.heap) (r: Rep s.heap v x) (q: itStart .plain x P σ): wpAny (model prog w) A (pyIter v) (Started false h₀ σ s P) E0 s:= by
 have b1:= beside_one hw (get_push_none s.heap)
 cases x with
 | ref a=>
  obtain ⟨⟨xs,e⟩,q⟩:= q
  obtain rfl:= r.iref
  obtain ⟨vs,hl,rr⟩:= hw.list e
  exact wpAny_pyIter_list hl ⟨⟨Eq.refl _,Eq.refl _⟩,.lst _ 0,[s.heap.objs.size],⟨_,rfl,rfl,_,Heap.get?_push_size _ rfl,rfl,rfl⟩,by intro a m;rw [List.mem_singleton.mp m];exact b1,fun b o e=> Heap.get?_push_of_some _ e,q⟩
 | rng a b c=>
  obtain ⟨ok,q⟩:= q
  obtain ⟨lr,t,u,w',rfl,hr⟩:= r.irng
  refine wpAny_pyIter_range hr (rok_small ok) ⟨⟨Eq.refl _,Eq.refl _⟩,.rng _ _ _,[s.heap.objs.size],⟨_,rfl,rfl,?_⟩,by intro a m;rw [List.mem_singleton.mp m];exact b1,fun b o e=> Heap.get?_push_of_some _ e,q⟩
  rw [rok_size ok];exact Heap.get?_push_size _ rfl
 | tup vs=>
  obtain ⟨a,ws,rfl,y,rr⟩:= r.itup
  refine wpAny_pyIter_tuple (items:= ws.toArray) y ⟨⟨Eq.refl _,Eq.refl _⟩,.vals _,[s.heap.objs.size],⟨_,a,0,ws,rfl,rfl,⟨_,Heap.get?_push_size _ rfl,rfl,rfl⟩,Heap.IsTuple.push y _,?_⟩,by intro a m;rw [List.mem_singleton.mp m];exact b1,fun b o e=> Heap.get?_push_of_some _ e,q⟩
  exact rr.tups fun a o e _=> Heap.get?_push_of_some _ e
 | _=> exact q.elim
theorem store_all: ∀ {es: List Expr} {is: List Nat},CGs c es is -> ∀ {F: Frm} {s: Shared} {ys: List Value} {xs: List V},W h₀ σ s.heap -> FrOk c env own F h₀ σ s.heap -> Reps s.heap ys xs -> is.length = xs.length ->
  ∀ {Q: Unit -> Shared -> Prop} {E: Value -> Shared -> Prop},(∀ s',Sm s s' -> StepX own h₀ σ s.heap σ s'.heap -> FrOk c env own (setAll is xs F) h₀ σ s'.heap -> Q () s') -> wpAny (model prog w) A (assignInOrder ((assignEach es env).map (·.2)) ys) Q E s
 | _,_,.nil,F,s,ys,xs,hw,hf,r,hl,Q,E,q=> by
  cases xs with
  | nil=> obtain rfl:= r.inil;exact wpAny_pure (q s .rfl (.refl hw) hf)
  | cons _ _=> simp at hl
 | _,_,.cons (x:= x) (p:= p) (i:= i) (es:= es) (is:= is) e nf hr,F,s,ys,xs,hw,hf,r,hl,Q,E,q=> by
  cases xs with
  | nil=> simp at hl
  | cons x1 xs=>
   obtain ⟨v,vs,rfl,r1,rs⟩:= r.icons
   show wpAny _ A (do holding vs (assign (.Name x p) env v);assignInOrder ((assignEach es env).map (·.2)) vs) _ _ _
   refine wpAny_bind (wpAny_holding (wpAny_assign_Name (hf.store hw e nf r1 fun s' m st hf'=> ?_)))
   refine store_all hr st.w hf' (rs.step st) (by simpa using hl) fun s'' m' st' hf''=> q s'' (m.trans m') (st.trans st') hf''
theorem cgs_len: ∀ {es: List Expr} {is: List Nat},CGs c es is -> (assignEach es env).length = is.length /\ (assignEach es env).findIdx? (·.1) = none
 | _,_,.nil=> ⟨rfl,rfl⟩
 | _,_,.cons (es:= es) _ _ hr=> by
  have ih:= cgs_len hr
  refine ⟨by show (assignEach es env).length + 1 = _;rw [ih.1];rfl,?_⟩
  show List.findIdx? _ ((false,_) :: assignEach es env) = none
  rw [List.findIdx?_cons]
  simp [ih.2]
theorem assign_ok {t: Expr} {tg: Tgt} {y: Value} {x: V} {P: Frm -> Prop} (hg: CG c t tg) (hh: A.handled = none) (hw: W h₀ σ s.heap) (hf: FrOk c env own F h₀ σ s.heap) (r: Rep s.heap y x) (q: bindT tg x P F σ)
  {Q: Unit -> Shared -> Prop} {E: Value -> Shared -> Prop} (k: ∀ s' F1,P F1 -> Sm s s' -> StepX own h₀ σ s.heap σ s'.heap -> FrOk c env own F1 h₀ σ s'.heap -> Q () s') :
  wpAny (model prog w) A (assign t env y) Q E s:= by
 cases hg with
 | name e nf=> exact wpAny_assign_Name (hf.store hw e nf r fun s' m st hf'=> k s' _ q m st hf')
 | tup hgs=>
  unfold bindT at q
  split at q
  ·rename_i hh2;cases hh2
  ·rename_i hh2;cases hh2
   obtain ⟨hl,q⟩:= q
   obtain ⟨ta,tvs,rfl,z,rr⟩:= r.itup
   obtain ⟨l1,l2⟩:= cgs_len (env:= env) hgs
   refine wpAny_assign_Tuple hh z (by rw [l1,hl];simp [rr.length]) l2 fun h' ext=> ?_
   have st: Step h₀ σ s.heap σ h':= hw.extend fun b o e=> ext b o (Nat.ne_of_lt (Heap.lt_size e)) e
   refine store_all hgs (s:= { s with heap:= h' }) st.w (hf.step st) (rr.step st) hl fun s'' m st' hf'=> k s'' _ q (Sm.trans ⟨Eq.refl _,Eq.refl _⟩ m) ((Step.any st).trans st') hf'
  ·rename_i hh2;cases hh2
   obtain ⟨vs,hla,hl,q⟩:= q
   obtain rfl:= r.iref
   obtain ⟨tvs,z,rr⟩:= hw.list hla
   obtain ⟨l1,l2⟩:= cgs_len (env:= env) hgs
   refine assign_Tuple_list hh z (by rw [l1,hl];simp [rr.length]) l2 fun h' ext=> ?_
   have st: Step h₀ σ s.heap σ h':= hw.extend fun b o e=> ext b o (Nat.ne_of_lt (Heap.lt_size e)) e
   refine store_all hgs (s:= { s with heap:= h' }) st.w (hf.step st) (rr.step st) hl fun s'' m st' hf'=> k s'' _ q (Sm.trans ⟨Eq.refl _,Eq.refl _⟩ m) ((Step.any st).trans st') hf'
  ·exact q.elim
end
noncomputable def clGo (env: Env): List (Str × NameKind) -> List (Str × Addr) -> List (Str × Addr)
 | [],acc=> acc
 | (n,k) :: r,acc=> if k == .free then clGo env r ((n,(env.cells.lookup n).getD 0) :: acc) else clGo env r acc
theorem closure_go {env: Env} (f: Str × NameKind -> List (Str × Addr) -> Sem (ForInStep (List (Str × Addr))))
  (hf: ∀ n k cs,f (n,k) cs = if k == .free then (do let a <- cellOf env n;pure (.yield ((n,a) :: cs))) else pure (.yield cs)) :
  ∀ (names: List (Str × NameKind)) (acc: List (Str × Addr)),(∀ n,(n,NameKind.free) ∈ names -> (env.cells.lookup n).isSome = true) -> forIn names acc f = pure (clGo env names acc)
 | [],acc,_=> by rw [List.forIn_nil];rfl
 | (n,k) :: r,acc,h=> by
  rw [List.forIn_cons,hf]
  unfold clGo
  by_cases q: (k == NameKind.free) = true
  ·rw [if_pos q,if_pos q]
   have e: k = .free:= by simpa using q
   subst e
   obtain ⟨a,ha⟩:= Option.isSome_iff_exists.mp (h n (.head _))
   have: cellOf env n = pure a:= by unfold cellOf;rw [ha]
   rw [this]
   show (forIn r ((n,a) :: acc) f) = _
   rw [closure_go f hf r _ (fun m hm=> h m (.tail _ hm)),ha];rfl
  ·rw [if_neg q,if_neg q]
   show (forIn r acc f) = _
   exact closure_go f hf r _ (fun m hm=> h m (.tail _ hm))
theorem closureFor_eq {env: Env} {scope: Scope} (h: ∀ n,(n,NameKind.free) ∈ scope.names -> (env.cells.lookup n).isSome = true): closureFor scope env = pure (clGo env scope.names []):= by
 simp only [closureFor]
 rw [closure_go (env:= env) _ (fun n k cs=> ?_) scope.names [] h]
 ·rfl
 ·cases hk: k == NameKind.free <;> simp
theorem clGo_not {env: Env} {x: Str}: ∀ (names: List (Str × NameKind)) (acc: List (Str × Addr)),(x,NameKind.free) ∉ names -> (clGo env names acc).lookup x = acc.lookup x
 | [],acc,_=> rfl
 | (n,k) :: r,acc,h=> by
  unfold clGo
  split
  ·rename_i q
   have e: k = .free:= by simpa using q
   subst e
   rw [clGo_not r _ (fun m=> h (.tail _ m)),List.lookup_cons]
   have: (x == n) = false:= by
    cases q: x == n with
    | false=> rfl
    | true=> exact absurd (by rw [beq_iff_eq.mp q];exact .head _) h
   rw [this]
  ·exact clGo_not r _ (fun m=> h (.tail _ m))
theorem clGo_free {env: Env} {x: Str}: ∀ (names: List (Str × NameKind)) (acc: List (Str × Addr)),(names.map (·.1)).Nodup -> (x,NameKind.free) ∈ names -> (clGo env names acc).lookup x = some ((env.cells.lookup x).getD 0)
 | (n,k) :: r,acc,nd,h=> by
  unfold clGo
  simp only [List.map_cons,List.nodup_cons] at nd
  rcases List.mem_cons.mp h with e | h'
  ·cases e
   rw [if_pos (by decide),clGo_not r _ (fun m=> nd.1 (List.mem_map_of_mem (f:= (·.1)) m)),List.lookup_cons]
   simp
  ·split <;> exact clGo_free r _ nd.2 h'
theorem clGo_some {env: Env} {x: Str} {a: Addr}: ∀ (names: List (Str × NameKind)) (acc: List (Str × Addr)),(clGo env names acc).lookup x = some a -> acc.lookup x = some a \/ ((x,NameKind.free) ∈ names /\ a = (env.cells.lookup x).getD 0)
 | [],acc,h=> .inl h
 | (n,k) :: r,acc,h=> by
  unfold clGo at h
  split at h
  ·rename_i q
   have e: k = .free:= by simpa using q
   subst e
   rcases clGo_some r _ h with q | ⟨q1,q2⟩
   ·rw [List.lookup_cons] at q
    cases hx: x == n with
    | true=> rw [hx] at q;cases q;have:= beq_iff_eq.mp hx;subst this;exact .inr ⟨.head _,rfl⟩
    | false=> rw [hx] at q;exact .inl q
   ·exact .inr ⟨.tail _ q1,q2⟩
  ·rcases clGo_some r _ h with q | ⟨q1,q2⟩
   ·exact .inl q
   ·exact .inr ⟨.tail _ q1,q2⟩
noncomputable def relK (env: Env) (x: Str) (k: NameKind): NameKind:= if (k == .free && env.scope.kind == .function && env.kindOf x == some .cell) then .cell else k
theorem lookup_relabel {env: Env} {x: Str}: ∀ (names: List (Str × NameKind)),
  (names.map fun (n,k)=> if (k == NameKind.free && env.scope.kind == .function && env.kindOf n == some .cell) then (n,NameKind.cell) else (n,k)).lookup x = (names.lookup x).map (relK env x)
 | []=> rfl
 | (n,k) :: r=> by
  have ih:= lookup_relabel (env:= env) (x:= x) r
  show List.lookup x ((if (k == NameKind.free && env.scope.kind == .function && env.kindOf n == some .cell) = true then (n,NameKind.cell) else (n,k)) :: _) = _
  cases hx: x == n with
  | true=>
   have:= beq_iff_eq.mp hx;subst this
   unfold relK
   by_cases hc: (k == NameKind.free && env.scope.kind == .function && env.kindOf x == some .cell) = true
   ·rw [if_pos hc];simp only [List.lookup_cons,beq_self_eq_true,Option.map_some,if_pos hc]
   ·rw [if_neg hc];simp only [List.lookup_cons,beq_self_eq_true,Option.map_some,if_neg hc]
  | false=>
   by_cases hc: (k == NameKind.free && env.scope.kind == .function && env.kindOf n == some .cell) = true
   ·rw [if_pos hc];simp only [List.lookup_cons,hx];exact ih
   ·rw [if_neg hc];simp only [List.lookup_cons,hx];exact ih
theorem lookup_of_nodup {x: Str} {k: NameKind}: ∀ {names: List (Str × NameKind)},(names.map (·.1)).Nodup -> (x,k) ∈ names -> names.lookup x = some k
 | (n,k') :: r,nd,h=> by
  simp only [List.map_cons,List.nodup_cons] at nd
  rw [List.lookup_cons]
  rcases List.mem_cons.mp h with e | h'
  ·cases e;simp
  ·have: (x == n) = false:= by
    cases q: x == n with
    | false=> rfl
    | true=> exact absurd (by rw [<- beq_iff_eq.mp q];exact List.mem_map_of_mem (f:= (·.1)) h') nd.1
   rw [this];exact lookup_of_nodup nd.2 h'
theorem names_mem {c: Cfg} {i: Nat} {x: Str} (h: c.names[i]? = some x): ∃ k,(c.sc.filter fun x=> isVar x.2)[i]? = some (x,k) /\ (x,k) ∈ c.sc /\ isVar k = true:= by
 unfold Cfg.names at h
 rw [List.getElem?_map] at h
 cases e: (c.sc.filter fun x=> isVar x.2)[i]? with
 | none=> rw [e] at h;cases h
 | some p=>
  rw [e] at h;cases h
  have:= List.mem_of_getElem? e
  have:= List.mem_filter.mp this
  exact ⟨p.2,rfl,this.1,this.2⟩
theorem getElem_inj {α: Type} {l: List α} (nd: l.Nodup) {i j: Nat} {x: α} (h1: l[i]? = some x) (h2: l[j]? = some x): i = j:= by
 obtain ⟨a,b⟩:= List.getElem?_eq_some_iff.mp h1
 obtain ⟨a',b'⟩:= List.getElem?_eq_some_iff.mp h2
 exact (List.getElem_inj nd).mp (b.trans b'.symm)
theorem nodup_names {c: Cfg} (nd: (c.sc.map (·.1)).Nodup): c.names.Nodup:= by
 unfold Cfg.names
 exact List.Nodup.sublist (List.Sublist.map _ List.filter_sublist) nd
structure OwnCells (names: List (Str × NameKind)) (C: Addr) (h h': Heap) (A: List (Str × Addr)): Prop where
 all: ∀ x,names.lookup x = some .cell -> (A.lookup x).isSome = true
 mem: ∀ x a,(x,a) ∈ A -> (x,NameKind.cell) ∈ names /\ h'.IsCell a none /\ h.get? a = none /\ a ≠ C
 apart: A.Pairwise fun x y=> x.2 ≠ y.2
theorem inner_ok {c: Cfg} {env: Env} {own: Addr -> Prop} {F: Frm} {h₀: Heap} {σ: Hp} {h h': Heap} {scope: Scope} {C: Addr} {A cl: List (Str × Addr)} (hf: FrOk c env own F h₀ σ h) (ok: scOk c scope.names = true) (hk: scope.kind = .function)
  (hcl: cl = A ++ clGo env scope.names []) (hA: OwnCells scope.names C h h' A) (fresh: ∀ a,h.get? a = none -> σ a = none /\ h₀.get? a = none) (k: ∀ b o,h.get? b = some o -> h'.get? b = some o) (hC: h.get? C = none) (hn: h'.Ns C fun _=> none) :
  FrOk { sc:= scope.names,fns:= c.fns } (compEnvC scope cl C env) (fun a=> a ∈ C :: A.map (·.2)) (frOf (fmapOf c scope.names) F) h₀ σ h':= by
 simp only [scOk,Bool.and_eq_true,decide_eq_true_eq,List.all_eq_true] at ok
 obtain ⟨nd,ok⟩:= ok
 have t: Tups h h':= fun a o e _=> k a o e
 have kind: ∀ x,(compEnvC scope cl C env).kindOf x = (scope.names.lookup x).map (relK env x):= fun x=> lookup_relabel scope.names
 have vark: ∀ (i: Nat) x,(Cfg.mk scope.names c.fns Option.none).names[i]? = some x -> ∃ kk,(scope.names.filter fun x=> isVar x.2)[i]? = some (x,kk) /\ (x,kk) ∈ scope.names /\ scope.names.lookup x = some kk /\ (kk = .local \/ kk = .free \/ kk = .cell):= fun i x e=> by
  obtain ⟨kk,e1,e2,e3⟩:= names_mem e
  refine ⟨kk,e1,e2,lookup_of_nodup nd e2,?_⟩
  have:= ok _ e2
  cases kk <;> simp_all [isVar]
 have freeOut: ∀ x,(x,NameKind.free) ∈ scope.names -> c.names[c.names.idxOf x]? = some x /\ (env.kindOf x = some .cell \/ env.kindOf x = some .free):= fun x m=> by
  have o:= ok _ m
  simp at o
  have hx: x ∈ c.names:= o.1.1
  have e: c.names[c.names.idxOf x]? = some x:= by
   have hlt:= List.idxOf_lt_length_iff.mpr hx
   rw [List.getElem?_eq_getElem hlt,List.getElem_idxOf hlt]
  refine ⟨e,?_⟩
  rcases hf.vk _ _ e with ⟨q,_⟩ | ⟨_,q⟩ | ⟨_,q⟩
  ·exact absurd q o.1.2
  ·exact .inl q
  ·exact q
 have noA: ∀ x kk,(x,kk) ∈ scope.names -> kk ≠ .cell -> A.lookup x = none:= fun x kk m hkk=> by
  cases e: A.lookup x with
  | none=> rfl
  | some a=>
   have m2:= (hA.mem x a (mem_of_lookup e)).1
   have l1:= lookup_of_nodup nd m
   have l2:= lookup_of_nodup nd m2
   rw [l1] at l2;cases l2;exact absurd rfl hkk
 have look: ∀ x,cl.lookup x = (A.lookup x).or ((clGo env scope.names []).lookup x):= fun x=> by rw [hcl];exact List.lookup_append
 refine ⟨hk,hf.glob,hf.bi,fun x e=> ?_,fun i x e=> ?_,⟨_,hn,fun i x v e1 e2 e3=> ?_⟩,fun i x e1 e2=> ?_,fun x y a e1 e2=> ?_,⟨.head _,(fresh C hC).1,(fresh C hC).2⟩,fun i j x e1 e2=> getElem_inj (nodup_names nd) e1 e2,fun a e=> ?_,fun a q e=> by cases e⟩
 ·rw [kind,show scope.names.lookup x = some NameKind.globalImplicit from e];simp [relK]
 ·obtain ⟨kk,_,m,l,q⟩:= vark i x e
  rcases q with rfl | rfl | rfl
  ·exact .inl ⟨l,by rw [kind,l];simp [relK]⟩
  ·refine .inr (.inr ⟨l,?_⟩)
   rw [kind,l]
   rcases (freeOut x m).2 with q | q
   ·exact .inl (by simp [relK,hf.kind,q])
   ·exact .inr (by simp [relK,q])
  ·exact .inr (.inl ⟨l,by rw [kind,l];simp [relK]⟩)
 ·obtain ⟨kk,g,m,l,q⟩:= vark i x e1
  exfalso
  rcases q with rfl | rfl | rfl
  ·unfold frOf fmapOf at e3
   rw [List.getElem?_map,List.getElem?_map,g] at e3
   simp at e3
  ·rw [kind,l] at e2
   rcases (freeOut x m).2 with q | q
   ·simp [relK,hf.kind,q] at e2
   ·simp [relK,q] at e2
  ·rw [kind,l] at e2
   simp [relK] at e2
 ·obtain ⟨kk,g,m,l,q⟩:= vark i x e1
  rcases q with rfl | rfl | rfl
  ·exfalso;apply e2;rw [kind,l];simp [relK]
  ·obtain ⟨q1,q2⟩:= freeOut x m
   obtain ⟨a,cv,g1,g2,g3,g4,g5,g6⟩:= hf.cell _ _ q1 (by rcases q2 with q | q <;> rw [q] <;> simp)
   refine ⟨a,cv,?_,g2.keeps k,g3,?_,fun hh=> ?_,fun v hv=> ?_⟩
   ·show cl.lookup x = some a
    rw [look,noA x _ m (by simp),clGo_free _ _ nd m,g1];rfl
   ·rintro rfl;obtain ⟨o,ho,_⟩:= g2;rw [hC] at ho;cases ho
   ·rw [show ({ sc:= scope.names,fns:= c.fns }: Cfg).sc.lookup x = some NameKind.free from l] at hh;cases hh
   ·unfold frOf fmapOf at hv
    rw [List.getElem?_map,List.getElem?_map,g] at hv
    simp at hv
    obtain ⟨w,w1,w2⟩:= g6 v (by cases q: F[List.idxOf x c.names]? with | none=> rw [q] at hv;cases hv | some z=> rw [q] at hv;simp at hv;rw [hv])
    exact ⟨w,w1,w2.tups t⟩
  ·obtain ⟨a,ha⟩:= Option.isSome_iff_exists.mp (hA.all x l)
   obtain ⟨_,g2,g3,g4⟩:= hA.mem x a (mem_of_lookup ha)
   refine ⟨a,none,?_,g2,none_mut (fresh a g3).1,g4,fun _=> ⟨.tail _ (List.mem_map.mpr ⟨(x,a),mem_of_lookup ha,rfl⟩),(fresh a g3).1,(fresh a g3).2⟩,fun v hv=> ?_⟩
   ·show cl.lookup x = some a
    rw [look,ha];rfl
   ·exfalso
    unfold frOf fmapOf at hv
    rw [List.getElem?_map,List.getElem?_map,g] at hv
    simp at hv
 ·have e1': cl.lookup x = some a:= e1
  have e2': cl.lookup y = some a:= e2
  rw [look] at e1' e2'
  have old: ∀ z b,(clGo env scope.names []).lookup z = some b -> (∃ o,h.get? b = some o) /\ env.cells.lookup z = some b:= fun z b e=> by
   rcases clGo_some _ _ e with q | ⟨m1,q1⟩
   ·cases q
   obtain ⟨p1,p2⟩:= freeOut z m1
   obtain ⟨a1,cv,g1,⟨o,g2,_⟩,_⟩:= hf.cell _ _ p1 (by rcases p2 with q | q <;> rw [q] <;> simp)
   rw [g1] at q1;simp at q1;subst q1
   exact ⟨⟨o,g2⟩,g1⟩
  cases hx: A.lookup x with
  | some a1=>
   rw [hx] at e1';simp at e1';subst e1'
   cases hy: A.lookup y with
   | some a2=> rw [hy] at e2';simp at e2';subst e2';exact name_of_addr hA.apart (mem_of_lookup hx) (mem_of_lookup hy)
   | none=>
    rw [hy] at e2';simp at e2'
    obtain ⟨⟨o,q⟩,_⟩:= old y _ e2'
    rw [(hA.mem x _ (mem_of_lookup hx)).2.2.1] at q;cases q
  | none=>
   rw [hx] at e1';simp at e1'
   cases hy: A.lookup y with
   | some a2=>
    rw [hy] at e2';simp at e2';subst e2'
    obtain ⟨⟨o,q⟩,_⟩:= old x _ e1'
    rw [(hA.mem y _ (mem_of_lookup hy)).2.2.1] at q;cases q
   | none=>
    rw [hy] at e2';simp at e2'
    exact hf.inj x y a (old x a e1').2 (old y a e2').2
 ·rcases List.mem_cons.mp e with rfl | e
  ·obtain ⟨o,_,_,ho,_⟩:= hn
   exact ⟨o,ho⟩
  ·obtain ⟨⟨x,a'⟩,m,rfl⟩:= List.mem_map.mp e
   obtain ⟨o,ho,_⟩:= (hA.mem x a' m).2.1
   exact ⟨o,ho⟩
theorem BI.boot (f: BI): bootBuiltins f.name = some f.val:= by cases f <;> decide +kernel
theorem BI.notName (f: BI): f.name ≠ ("__name__": Str) /\ (f.name == ("__debug__": Str)) = false:= by cases f <;> decide +kernel
noncomputable def freeNames: List Str:= ["len","min","max","sum","range","list","abs","sorted","divmod","reversed","zip","iter","object","str","isinstance","enumerate","int","TypeError","AttributeError","IndexError"]
theorem BI.mem (f: BI): f.name ∈ freeNames:= by cases f <;> decide +kernel
structure Frs (A: Around) (h₀: Heap) (σ: Hp) (h: Heap): Prop where
 go: ∃ l,A.frames = some l /\ ∀ env ∈ l,env.scope.kind ≠ .module /\ ∃ L,env.frame = some L /\ h₀.get? L = none /\ σ L = none /\ ∃ o,h.get? L = some o /\ IsD o
theorem Frs.step {A: Around} {own: Addr -> Prop} {h₀: Heap} {σ σ': Hp} {h h': Heap} (f: Frs A h₀ σ h) (st: StepX own h₀ σ h σ' h'): Frs A h₀ σ' h':= by
 obtain ⟨l,e,q⟩:= f.go
 refine ⟨l,e,fun env m=> ?_⟩
 obtain ⟨k,L,e1,e2,e3,o,e4,e5⟩:= q env m
 obtain ⟨o',e6,e7⟩:= st.alive L o e4
 exact ⟨k,L,e1,e2,st.grow.none e4 e3,o',e6,e7 e5⟩
noncomputable def OnTop (A: Around) (env: Env): Prop:= ∃ l,A.frames = some (env :: l)
noncomputable def FdOk (prog: Program) (w: World) (h₀: Heap) (n: Nat) (fd: FuncData) (Φ: List V -> (V -> Hp -> Prop) -> Hp -> Prop): Prop:=
 ∀ (A: Around) (s: Shared) (σ: Hp) (fa: Addr) (o: Obj) (ar: Args) (vals: List Value) (args: List V) (Q: V -> Hp -> Prop),s.heap.get? fa = some o -> o.data = .func fd -> s.heap.CodeRec fd.code fd.qualname -> (∀ binds,BindsTo s fd ⟨vals,[]⟩ binds -> BindsTo s fd ar binds) -> RoomW A n -> Frs A h₀ σ s.heap -> W h₀ σ s.heap -> Reps s.heap vals args ->
  Φ args Q σ -> wpAny (model prog w) A (call (.ref fa) ar.pos ar.kw) (PV h₀ σ s Q) E0 s
inductive FnOk (prog: Program) (w: World) (h₀: Heap) (n: Nat) (fv: Value) (Φ: List V -> (V -> Hp -> Prop) -> Hp -> Prop): Prop
 | mk (fa: Addr) (o: Obj) (fd: FuncData) (h1: fv = .ref fa) (h2: h₀.get? fa = some o) (h3: o.data = .func fd) (h4: FdOk prog w h₀ n fd Φ) (h5: h₀.CodeRec fd.code fd.qualname): FnOk prog w h₀ n fv Φ
structure NamesOk (prog: Program) (w: World) (h₀: Heap) (mg: Str -> Option Value) (n: Nat) (fns: List Str) (Φ: Fns): Prop where
 fr: ∀ x ∈ freeNames,mg x = none
 fn: ∀ (i: Nat) x,fns[i]? = some x -> ∃ fv,mg x = some fv /\ FnOk prog w h₀ n fv (Φ i)
 cv: ∀ fd,FdOk prog w h₀ n fd (fun args Q σ=> Φ 1000 (.func fd :: args) Q σ)
 gv: ∀ (i: Nat) x fa o fd,fns[i]? = some x -> mg x = some (.ref fa) -> h₀.get? fa = some o -> o.data = .func fd -> ∀ σ,Φ 1001 [.int i,.func fd] (fun _ _=> True) σ
 kv: ∀ fa o fd,mg "nsmallest" = some (.ref fa) -> h₀.get? fa = some o -> o.data = .func fd -> ∀ (s: Shared),(∀ b o,h₀.get? b = some o -> s.heap.get? b = some o) -> ∀ binds a b c,
  (BindsTo s fd ⟨[a,b,c],[]⟩ binds -> BindsTo s fd ⟨[a,b],[("key",c)]⟩ binds) /\ (BindsTo s fd ⟨[a,b,.none],[]⟩ binds -> BindsTo s fd ⟨[a,b],[]⟩ binds)
 tb: ∀ (a P: Addr) σ,Φ 1002 [.ref a,.ref P] (fun _ _=> True) σ -> CodeHd h₀ a P /\ h₀.BuiltinsAt mg P
theorem PV.back {h₀: Heap} {σ σ': Hp} {s s₁: Shared} {Q: V -> Hp -> Prop} {v: Value} {s': Shared} (p: PV h₀ σ' s₁ Q v s') (st: Step h₀ σ s.heap σ' s₁.heap) (m: Sm s s₁): PV h₀ σ s Q v s':= by
 obtain ⟨x,σ'',r,⟨st',m'⟩,q⟩:= p;exact ⟨x,σ'',r,⟨st.trans st',m.trans m'⟩,q⟩
theorem PB.back {h₀: Heap} {σ σ': Hp} {s s₁: Shared} {Q: Bool -> Hp -> Prop} {v: Bool} {s': Shared} (p: PB h₀ σ' s₁ Q v s') (st: Step h₀ σ s.heap σ' s₁.heap) (m: Sm s s₁): PB h₀ σ s Q v s':= by
 obtain ⟨σ'',⟨st',m'⟩,q⟩:= p;exact ⟨σ'',⟨st.trans st',m.trans m'⟩,q⟩
inductive PVs (h₀: Heap) (σ: Hp) (s: Shared) (Q: List V -> Hp -> Prop) (v: List Value) (s': Shared): Prop
 | mk (x: List V) (σ': Hp) (h1: Reps s'.heap v x) (h2: (Step h₀ σ s.heap σ' s'.heap /\ Sm s s')) (h3: Q x σ'): PVs h₀ σ s Q v s'
theorem PV.on {h₀: Heap} {σ: Hp} {s s': Shared} {Q: V -> Hp -> Prop} {v: Value} {R: Prop} (k: ∀ x σ',Rep s'.heap v x -> Step h₀ σ s.heap σ' s'.heap -> Sm s s' -> Q x σ' -> R) (p: PV h₀ σ s Q v s'): R:= by
 obtain ⟨x,σ',r,⟨st,m⟩,q⟩:= p;exact k x σ' r st m q
theorem PVs.on {h₀: Heap} {σ: Hp} {s s': Shared} {Q: List V -> Hp -> Prop} {v: List Value} {R: Prop} (k: ∀ x σ',Reps s'.heap v x -> Step h₀ σ s.heap σ' s'.heap -> Sm s s' -> Q x σ' -> R) (p: PVs h₀ σ s Q v s'): R:= by
 obtain ⟨x,σ',r,⟨st,m⟩,q⟩:= p;exact k x σ' r st m q
theorem PB.on {h₀: Heap} {σ: Hp} {s s': Shared} {Q: Bool -> Hp -> Prop} {v: Bool} {R: Prop} (k: ∀ σ',Step h₀ σ s.heap σ' s'.heap -> Sm s s' -> Q v σ' -> R) (p: PB h₀ σ s Q v s'): R:= by
 obtain ⟨σ',⟨st,m⟩,q⟩:= p;exact k σ' st m q
theorem list_slots (m: Meth): Slot "list" m.name m.id /\ typeOf (.builtin m.id) = pure (.type "method_descriptor"):= by
 cases m
 ·exact ⟨PySem.F.slot_list_append,by kernel_rfl⟩
 ·exact ⟨PySem.F.slot_list_extend,by kernel_rfl⟩
 ·exact ⟨PySem.F.slot_list_pop,by kernel_rfl⟩
 ·exact ⟨PySem.F.slot_list_index,by kernel_rfl⟩
 ·exact ⟨PySem.F.slot_list_reverse,by kernel_rfl⟩
 ·exact ⟨PySem.F.slot_list_sort,by kernel_rfl⟩
section
variable {prog: Program} {w: World} {h₀: Heap} {mg mb: Str -> Option Value} {Φ: Fns} {n: Nat} {fns: List Str}
theorem load_glob (G: Gnd prog h₀ mg mb) {A: Around} {s: Shared} {σ: Hp} {c: Cfg} {env: Env} {own: Addr -> Prop} {F: Frm} (hw: W h₀ σ s.heap) (hf: FrOk c env own F h₀ σ s.heap) {x: Str} {p: Pos} {v: Value}
  (k: c.sc.lookup x = some .globalImplicit) (hd: (x == ("__debug__": Str)) = false) (hv: mg x = some v \/ (mg x = none /\ mb x = some v)) {Q: Value -> Shared -> Prop} {E: Value -> Shared -> Prop} (q: Q v s) :
  wpAny (model prog w) A (eval (.Name x p) env) Q E s:= by
 refine Calls.Name_function_global hf.kind (hf.gk x k) ?_ hd
 rcases hv with e | ⟨e1,e2⟩
 ·exact Calls.loadGlobal_global (by rw [hf.glob];exact G.g.keeps hw.stays) e q
 ·exact Calls.loadGlobal_builtin (by rw [hf.glob];exact G.g.keeps hw.stays) e1 (by rw [hf.bi];exact G.b.keeps hw.stays) e2 q
structure Here (prog: Program) (w: World) (h₀: Heap) (mg mb: Str -> Option Value) (Φ: Fns) (n: Nat) (c: Cfg) (A: Around) (s: Shared) (σ: Hp) (env: Env) (own: Addr -> Prop) (F: Frm): Prop where
 G: Gnd prog h₀ mg mb
 NM: NamesOk prog w h₀ mg n c.fns Φ
 R: Room A n
 w: W h₀ σ s.heap
 f: FrOk c env own F h₀ σ s.heap
 fs: Frs A h₀ σ s.heap
theorem Here.step {c: Cfg} {A: Around} {s s': Shared} {σ σ': Hp} {env: Env} {own: Addr -> Prop} {F: Frm} (X: Here prog w h₀ mg mb Φ n c A s σ env own F) (st: Step h₀ σ s.heap σ' s'.heap): Here prog w h₀ mg mb Φ n c A s' σ' env own F:= ⟨X.G,X.NM,X.R,st.w,X.f.step st,X.fs.step st⟩
end
noncomputable def CE (c: Cfg) (e: Expr) (p: PE): Prop:= ∀ {prog: Program} {w: World} {h₀: Heap} {mg mb: Str -> Option Value} {Φ: Fns} {n: Nat} {A: Around} {s: Shared} {σ: Hp} {env: Env} {own: Addr -> Prop} {F: Frm} {Q: V -> Hp -> Prop},
 Here prog w h₀ mg mb Φ n c A s σ env own F -> vE Φ p Q F σ -> wpAny (model prog w) A (eval e env) (PV h₀ σ s Q) E0 s
noncomputable def CT (c: Cfg) (e: Expr) (p: PE): Prop:= ∀ {prog: Program} {w: World} {h₀: Heap} {mg mb: Str -> Option Value} {Φ: Fns} {n: Nat} {A: Around} {s: Shared} {σ: Hp} {env: Env} {own: Addr -> Prop} {F: Frm} {P: Bool -> Hp -> Prop},
 Here prog w h₀ mg mb Φ n c A s σ env own F -> vT Φ p P F σ -> wpAny (model prog w) A (isTrue e env (eval e env)) (PB h₀ σ s P) E0 s
inductive CEs (c: Cfg): List Expr -> List PE -> Prop
 | nil: CEs c [] []
 | cons {e: Expr} {a: PE} {es: List Expr} {as: List PE}: CE c e a -> CEs c es as -> (∀ env,starEach (e :: es) env = (false,eval e env) :: starEach es env) -> CEs c (e :: es) (a :: as)
inductive CO (c: Cfg): Option Expr -> Option PE -> Prop
 | none: CO c none none
 | some {e: Expr} {a: PE}: CE c e a -> CO c (some e) (some a)
inductive CTs (c: Cfg): List Expr -> List PE -> Prop
 | nil: CTs c [] []
 | cons {e: Expr} {a: PE} {es: List Expr} {as: List PE}: CT c e a -> CTs c es as -> CTs c (e :: es) (a :: as)
section
variable {prog: Program} {w: World} {h₀: Heap} {mg mb: Str -> Option Value} {Φ: Fns} {n: Nat} {fns: List Str}
theorem star_plain {c: Cfg} {env: Env} {pos: Pos}: ∀ {es: List Expr} {as: List PE},CEs c es as -> (backTo pos (starEach es env)).any (·.1) = false
 | _,_,.nil=> rfl
 | _,_,.cons (es:= es) _ h hs=> by
  rw [hs env]
  show (false || (backTo pos (starEach es env)).any (·.1)) = false
  rw [star_plain h];rfl
theorem evalArgs_ces {c: Cfg} {es: List Expr} {as: List PE} {env: Env} {pos: Pos} {M: Model} {A: Around} {s: Shared} {E: Value -> Shared -> Prop} {f: Value} {Q: Args -> Shared -> Prop} (h: CEs c es as)
  (q: wpAny M A (spliced (backTo pos (starEach es env))) (fun vs s'=> Q ⟨vs,[]⟩ s') E s): wpAny M A (evalArgs f true (backTo pos (starEach es env)) []) Q E s:= by
 cases h with
 | nil=>
  have q': wpAny M A (spliced []) (fun vs s'=> Q ⟨vs,[]⟩ s') E s:= q
  show wpAny M A (evalArgs f true [] []) Q E s
  unfold evalArgs
  show wpAny M A (spliced [] >>= _) Q E s
  refine wpAny_bind (wpAny_mono q' (fun vs s' h'=> wpAny_bind (wpAny_pure ?_)) fun _ _ x=> x)
  refine wpAny_holding ?_
  exact wpAny_bind (wpAny_pure (wpAny_bind (wpAny_pure (wpAny_pure h'))))
 | cons h1 h2 hs=>
  rw [hs env] at q ⊢
  exact Calls.evalArgs_plain q
end
theorem StepX.drop {own: Addr -> Prop} {h₀: Heap} {σ σ': Hp} {h h': Heap} (x: StepX own h₀ σ h σ' h') (n: ∀ a,own a -> h.get? a = none): Step h₀ σ h σ' h':=
 ⟨x.w,fun a o m _ d e=> x.keep a o m (fun q=> by rw [n a q] at e;cases e) d e,fun a o m _ d e=> x.dict a o m (fun q=> by rw [n a q] at e;cases e) d e,x.grow,x.tups,x.alive⟩
theorem Beside.of_grow {as: List Addr} {h₀: Heap} {σ σ': Hp} {hb h: Heap} (b: Beside as h₀ σ hb) (g: Grow σ h σ') (e: ∀ a ∈ as,∃ o,h.get? a = some o): Beside as h₀ σ' hb:= fun a m=> by
 obtain ⟨o,q⟩:= e a m
 exact ⟨(b a m).1,g.none q (b a m).2.1,(b a m).2.2⟩
theorem ItRep.there {h: Heap} {v: Value} {as: List Addr} {it: It} (r: ItRep h v as it): ∀ a ∈ as,∃ o,h.get? a = some o:= by
 intro a m
 cases it with
 | lst b k=> obtain ⟨I,_,rfl,o',e',_⟩:= r;rw [List.mem_singleton.mp m];exact ⟨_,e'⟩
 | rng x n c=> obtain ⟨I,_,rfl,e'⟩:= r;rw [List.mem_singleton.mp m];exact ⟨_,e'⟩
 | vals vs=> obtain ⟨I,t,k,ws,_,rfl,⟨o',e',_⟩,_⟩:= r;rw [List.mem_singleton.mp m];exact ⟨_,e'⟩
noncomputable def Sub0 (F F': Frm): Prop:= ∀ (i: Nat) v,F[i]? = some (some v) -> F'[i]? = some (some v)
theorem FrOk.weak {c: Cfg} {env: Env} {own: Addr -> Prop} {F F': Frm} {h₀: Heap} {σ: Hp} {h: Heap} (f: FrOk c env own F' h₀ σ h) (s: Sub0 F F'): FrOk c env own F h₀ σ h:=
 ⟨f.kind,f.glob,f.bi,f.gk,f.vk,(by obtain ⟨m,a,b⟩:= f.ns;exact ⟨m,a,fun i x v e1 e2 e3=> b i x v e1 e2 (s i v e3)⟩),
  (fun i x e1 e2=> by obtain ⟨a,cv,g1,g2,g3,g4,g5,g6⟩:= f.cell i x e1 e2;exact ⟨a,cv,g1,g2,g3,g4,g5,fun v hv=> g6 v (s i v hv)⟩),f.inj,f.loc,f.nd,f.ex,f.code⟩
noncomputable def Tgt.free (t: Tgt) (F: Frm): Prop:= match t with | .name i=> ∀ v,F[i]? ≠ some (some v) | .tup is=> ∀ i ∈ is,∀ v,F[i]? ≠ some (some v)
theorem sub_set {F: Frm} {i: Nat} {x: V} (h: ∀ v,F[i]? ≠ some (some v)): Sub0 F (F.set i (some x)):= fun j v e=> by
 by_cases q: i = j
 ·subst q;exact absurd e (h v)
 ·rw [List.getElem?_set_ne q];exact e
theorem sub_setAll: ∀ (is: List Nat) (xs: List V) (F G: Frm),(∀ i ∈ is,∀ v,F[i]? ≠ some (some v)) -> Sub0 F G -> Sub0 F (setAll is xs G)
 | [],_,F,G,_,h=> by simpa [setAll] using h
 | i :: is,[],F,G,_,h=> by simpa [setAll] using h
 | i :: is,x :: xs,F,G,hn,h=> by
  unfold setAll
  refine sub_setAll is xs F _ (fun j m=> hn j (.tail _ m)) fun j v e=> ?_
  by_cases q: i = j
  ·subst q;exact absurd e (hn _ (.head _) v)
  ·rw [List.getElem?_set_ne q];exact h j v e
theorem bind_sub {t: Tgt} {x: V} {P: Frm -> Prop} {F: Frm} {σ: Hp} (h: bindT t x P F σ) (f: t.free F): bindT t x (fun F1=> P F1 /\ Sub0 F F1) F σ:= by
 unfold bindT at h ⊢
 split at h
 ·exact ⟨h,sub_set f⟩
 ·exact ⟨h.1,h.2,sub_setAll _ _ _ _ f (fun _ _ e=> e)⟩
 ·obtain ⟨vs,h1,h2,h3⟩:= h;exact ⟨vs,h1,h2,h3,sub_setAll _ _ _ _ f (fun _ _ e=> e)⟩
 ·exact h
theorem inner_free_at {c: Cfg} {scope: Scope} {F: Frm} (ok: scOk c scope.names = true) {i: Nat} {x: Str} (e: (Cfg.mk scope.names c.fns Option.none).names[i]? = some x) (nf: (Cfg.mk scope.names c.fns Option.none).sc.lookup x ≠ some .free) :
  ∀ v,(frOf (fmapOf c scope.names) F)[i]? ≠ some (some v):= by
 intro v h
 simp only [scOk,Bool.and_eq_true,decide_eq_true_eq,List.all_eq_true] at ok
 obtain ⟨kk,g,m,l⟩:= names_mem e
 have lk:= lookup_of_nodup ok.1 m
 have hk: kk ≠ .free:= by rintro rfl;exact nf lk
 unfold frOf fmapOf at h
 rw [List.getElem?_map,List.getElem?_map,g] at h
 simp [hk] at h
theorem inner_free {c: Cfg} {scope: Scope} {F: Frm} (ok: scOk c scope.names = true) {t: Expr} {tg: Tgt} (h: CG { sc:= scope.names,fns:= c.fns } t tg): tg.free (frOf (fmapOf c scope.names) F):= by
 cases h with
 | name e nf=> exact inner_free_at ok e nf
 | tup hg=>
  show ∀ i ∈ _,_
  exact go hg
where
 go: ∀ {es: List Expr} {is: List Nat},CGs { sc:= scope.names,fns:= c.fns } es is -> ∀ i ∈ is,∀ v,(frOf (fmapOf c scope.names) F)[i]? ≠ some (some v)
 | _,_,.nil,i,m=> by cases m
 | _,_,.cons e nf hr,i,m=> by
  rcases List.mem_cons.mp m with rfl | m
  ·exact inner_free_at ok e nf
  ·exact go hr i m
section
variable {prog: Program} {w: World} {A: Around} {R: Result -> Shared -> Prop} {s: Shared}
theorem compLoop_gen {elt target iter: Expr} {ifs: List Expr} {scope: Scope} {pos: Pos} {it acc: Value} {env: Env} (I: Nat -> Shared -> Prop)
  (turn: ∀ n s,I n s -> wpAny (model prog w) A (pyNext it) (fun r s₁=> match r with
   | none=> R (.ok .next) s₁
   | some v=> wpAny (model prog w) A (letOwnedTupleGo target it v) (fun _ s₁'=> wpAny (model prog w) A (assign target env v) (fun _ s₂=>
     wpAny (model prog w) A (forIn ifs true fun c r=> if r = true then do let ok <- isTrue c env (eval c env);pure (ForInStep.yield ok) else pure (ForInStep.yield r)) (fun ok s₃=>
      if ok = true then wpAny (model prog w) A (eval elt env) (fun x s₄=>
       wpAny (model prog w) A (call (.builtin "list.append") [acc,x]) (fun _ s₅=> ∃ m,m < n /\ I m s₅) E0 s₄) E0 s₃
      else ∃ m,m < n /\ I m s₃) E0 s₂) E0 s₁') E0 s₁) E0 s)
  (n: Nat) (h: I n s) :
  codeAny (model prog w) A (.compLoop (.ListComp elt [⟨target,iter,ifs,0⟩] scope pos) 0 it acc env) R s:= by
 refine codeAny_loop rfl I (fun n s hI=> ?_) n h
 show wpAny _ A ((compTurn (.ListComp elt [⟨target,iter,ifs,0⟩] scope pos) 0 it acc env).onRaise (fun x=> do noteFrame x env;theTreesLotGoes x)) _ _ s
 refine wpAny_noted ?_
 rw [compTurn_list]
 have e0: ∀ (E: Value -> Shared -> Prop) e s,E0 e s -> E e s:= fun _ _ _ f=> f.elim
 refine wpAny_bind (wpAny_standAt (wpAny_bind (wpAny_mono (turn n s hI) (fun r s₁ h₁=> ?_) (e0 _))))
 cases r with
 | none=> exact wpAny_pure h₁
 | some v=>
  refine wpAny_bind (wpAny_mono h₁ (fun _ s₁' h₁'=> ?_) (e0 _))
  refine wpAny_bind (wpAny_mono h₁' (fun _ s₂ h₂=> wpAny_bind (wpAny_mono h₂ (fun ok s₃ h₃=> ?_) (e0 _))) (e0 _))
  cases ok with
  | true=>
   simp only [if_true] at h₃ ⊢
   exact wpAny_bind (wpAny_bind (wpAny_mono h₃ (fun x s₄ h₄=> wpAny_bind (wpAny_mono h₄ (fun _ s₅ h₅=> wpAny_pure (wpAny_pure ⟨rfl,h₅⟩)) (e0 _))) (e0 _)))
  | false=>
   simp only [Bool.false_eq_true,if_false] at h₃ ⊢
   exact wpAny_pure ⟨rfl,h₃⟩
end
set_option tactic.hygienic true
theorem letGo_at {prog: Program} {w: World} {A: Around} {s: Shared} {t: Expr} {I: Addr} {o: Obj} {T: String} {vs: Array Value} {y: Value} {Q: Unit -> Shared -> Prop} {E: Value -> Shared -> Prop} (e: s.heap.get? I = some o) (hc: o.cls = .type T) (hd: o.data = .fields vs)
  (hT: ["enumerate","zip","dict_itemiterator","dict_reverseitemiterator","odict_iterator","itertools.zip_longest","itertools.pairwise"].contains T = false) (q: Q () s): wpAny (model prog w) A (letOwnedTupleGo t (.ref I) y) Q E s:= by
 have key: wpAny (model prog w) A (do
   let (.ref r,.ref a):= (Value.ref I,y) | return
   let o <- load r
   match o.cls,o.data with
   | .type n,.fields vs=>
    if ["enumerate","zip","dict_itemiterator","dict_reverseitemiterator","odict_iterator","itertools.zip_longest","itertools.pairwise"].contains n && vs[0]? == some (rawInt a) then
     rule "for.unpacks-the-owned-tuple"
     updateField r 0 .none
   | _,_=> pure ()) Q E s:= by
  cases y with
  | ref a=>
   refine wpAny_bind (wpAny_load e ?_)
   rw [hc,hd]
   dsimp only
   rw [hT]
   exact wpAny_pure q
  | _=> exact wpAny_pure q
 unfold letOwnedTupleGo
 split
 ·exact key
 ·exact key
 ·exact wpAny_pure q
theorem letGo_it {prog: Program} {w: World} {A: Around} {s: Shared} {t: Expr} {iv: Value} {as: List Addr} {it: It} {y: Value} {Q: Unit -> Shared -> Prop} {E: Value -> Shared -> Prop} (r: ItRep s.heap iv as it) (q: Q () s) :
  wpAny (model prog w) A (letOwnedTupleGo t iv y) Q E s:= by
 cases it with
 | lst b k=> obtain ⟨I,rfl,rfl,o',e',c',d'⟩:= r;exact letGo_at e' c' d' (by decide) q
 | rng x n c=> obtain ⟨I,rfl,rfl,e'⟩:= r;exact letGo_at e' rfl rfl (by decide) q
 | vals vs=> obtain ⟨I,t,k,ws,rfl,rfl,⟨o',e',c',d'⟩,_⟩:= r;exact letGo_at e' c' d' (by decide) q
theorem pyIter_self {prog: Program} {w: World} {A: Around} {s: Shared} {iv: Value} {as: List Addr} {it: It} {Q: Value -> Shared -> Prop} {E: Value -> Shared -> Prop} (hh: A.handled = none) (r: ItRep s.heap iv as it) (q: Q iv s) :
  wpAny (model prog w) A (pyIter iv) Q E s:= by
 cases it with
 | lst b k=> obtain ⟨I,rfl,rfl,hi⟩:= r;exact wpAny_pyIter_listiter hi q
 | rng x n c=>
  obtain ⟨I,rfl,rfl,hi⟩:= r
  exact (Walks.range hh I x c n).self 0 s Q E (by simpa using hi) q
 | vals vs=>
  obtain ⟨I,t,k,ws,rfl,rfl,hi,ht,_⟩:= r
  have hne: t ≠ I:= by
   rintro rfl
   obtain ⟨o,e,c,_⟩:= hi
   obtain ⟨o',e',c',_⟩:= ht
   rw [e] at e';cases e';rw [c] at c';simp at c'
  exact (Walks.tuple hh I t hne ws.toArray).self k s Q E ⟨hi,ht⟩ q
theorem lobj_notD {vs: List Value} {k: Nat}: ¬ IsD (LObj vs k):= fun ⟨_,_,d⟩=> by cases d
structure Stand (as: List Addr) (P: Heap -> Prop): Prop where
 move: ∀ {h h': Heap},P h -> (∀ a ∈ as,∀ o,h.get? a = some o -> h'.get? a = some o) -> Tups h h' -> P h'
 notImm: ∀ {h: Heap},P h -> ∀ a ∈ as,∀ o,h.get? a = some o -> ¬ Imm o
 there: ∀ {h: Heap},P h -> ∀ a ∈ as,∃ o,h.get? a = some o
 notD: ∀ {h: Heap},P h -> ∀ a ∈ as,∀ o,h.get? a = some o -> ¬ IsD o
abbrev ItAt (iv: Value) (as: List Addr) (I: It) (h: Heap): Prop:= ItRep h iv as I
theorem stand_it {iv: Value} {as: List Addr} {I: It}: Stand as (ItAt iv as I):= ⟨fun x k t=> ItRep.move x k t,fun x=> ItRep.notImm x,fun x=> ItRep.there x,fun x=> ItRep.notD x⟩
structure CSt (c: Cfg) (env: Env) (Cs: List Addr) (D: Addr) (as: List Addr) (P: Heap -> Prop) (F0: Frm) (h₀: Heap) (σb: Hp) (hb: Heap) (acc: List V) (σ: Hp) (h: Heap): Prop where
 it: P h
 sd: Stand as P
 lst: ∃ vs k,h.get? D = some (LObj vs k) /\ Reps h vs acc
 fr: FrOk c env (fun a=> a ∈ Cs) F0 h₀ σ h
 st: Step h₀ σb hb σ h
 bD: hb.get? D = none /\ σ D = none /\ h₀.get? D = none
 bC: Beside Cs h₀ σ hb
 bI: Beside as h₀ σ hb
 ne: D ∉ Cs /\ D ∉ as /\ ∀ a ∈ Cs,a ∉ as
 cl: ∀ y a,env.cells.lookup y = some a -> a ∉ as /\ a ≠ D /\ (a ∈ Cs \/ ∃ o,hb.get? a = some o)
section
variable {prog: Program} {w: World} {A: Around} {s: Shared} {c: Cfg} {env: Env} {Cs: List Addr} {D: Addr} {as: List Addr} {P P': Heap -> Prop} {F0 F1: Frm} {h₀: Heap} {σb σ σ': Hp} {hb h h': Heap} {acc: List V}
theorem CSt.step (x: CSt c env Cs D as P F0 h₀ σb hb acc σ h) (y: Step h₀ σ h σ' h'): CSt c env Cs D as P F0 h₀ σb hb acc σ' h':= by
 obtain ⟨vs,k,e,r⟩:= x.lst
 refine ⟨x.sd.move x.it (fun a m o e=> y.keeps a o (none_mut (x.bI a m).2.1) (x.sd.notD x.it a m o e) e) y.tups,x.sd,⟨vs,k,y.keeps D _ (none_mut x.bD.2.1) lobj_notD e,r.step y⟩,x.fr.step y,x.st.trans y,⟨x.bD.1,y.grow.none e x.bD.2.1,x.bD.2.2⟩,x.bC.of_grow y.grow (fun a m=> x.fr.ex a m),x.bI.of_grow y.grow (x.sd.there x.it),x.ne,x.cl⟩
theorem CSt.moved (x: CSt c env Cs D as P F0 h₀ σb hb acc σ h) (k: ∀ b o,b ∉ as -> h.get? b = some o -> h'.get? b = some o) (it': P' h') (sd': Stand as P'): CSt c env Cs D as P' F0 h₀ σb hb acc σ h':= by
 have t:= (x.st.w.slip (fun a m=> (x.bI a m).2) (x.sd.notImm x.it) k).2
 have st:= StepX.slip x.st x.bI (x.sd.notImm x.it) k
 refine ⟨it',sd',?_,?_,st,x.bD,x.bC,x.bI,x.ne,x.cl⟩
 ·obtain ⟨vs,j,e,r⟩:= x.lst
  exact ⟨vs,j,k D _ x.ne.2.1 e,r.tups t⟩
 ·refine x.fr.move (fun o e=> k _ o (x.ne.2.2 _ x.fr.loc.1) e) (fun y a e o e2=> k a o (x.cl y a e).1 e2) t (fun a m=> ?_)
  obtain ⟨o,e⟩:= x.fr.ex a m
  exact ⟨o,k a o (x.ne.2.2 a m) e⟩
theorem CSt.bound (x: CSt c env Cs D as P F0 h₀ σb hb acc σ h) (y: StepX (fun a=> a ∈ Cs) h₀ σ h σ h') (f: FrOk c env (fun a=> a ∈ Cs) F1 h₀ σ h'): CSt c env Cs D as P F1 h₀ σb hb acc σ h':= by
 obtain ⟨vs,k,e,r⟩:= x.lst
 refine ⟨x.sd.move x.it (fun a m o e=> y.keep a o (none_mut (x.bI a m).2.1) (fun q=> x.ne.2.2 a q m) (x.sd.notD x.it a m o e) e) y.tups,x.sd,⟨vs,k,y.keep D _ (none_mut x.bD.2.1) x.ne.1 lobj_notD e,r.step y⟩,f,?_,x.bD,x.bC,x.bI,x.ne,x.cl⟩
 exact StepX.drop ((Step.any x.st).trans y) fun a q=> (x.bC a q).1
theorem CSt.append (x: CSt c env Cs D as P F1 h₀ σb hb acc σ s.heap) (sub: Sub0 F0 F1) {y: V} {v: Value} (r: Rep s.heap v y) (hb': acc.length < BIG) {Q: Value -> Shared -> Prop} {E: Value -> Shared -> Prop}
  (q: ∀ s',Sm s s' -> CSt c env Cs D as P F0 h₀ σb hb (acc ++ [y]) σ s'.heap -> Q .none s'): wpAny (model prog w) A (call (.builtin "list.append") [.ref D,v]) Q E s:= by
 obtain ⟨vs,k,e,rr⟩:= x.lst
 have hlen:= rr.length
 refine call_meets PySem.F.slot_list_append ⟨_,e,rfl⟩ PySem.F.entry_list_append (PySem.F.args_list_append_2 _ _) (AutoListH.list_append_list_val_0 _ vs.toArray k _ (by simp;exact big_line (by lia))) ⟨e,?_⟩
 have kk: ∀ b o,b ∉ [D] -> s.heap.get? b = some o -> (s.heap.update D (Obj.mapSeq fun x=> x.push v)).get? b = some o:= fun b o n e=> (Heap.SameBut.update ..).extBut b o (by simpa using n) e
 have ni: ∀ a ∈ [D],∀ o,s.heap.get? a = some o -> ¬ Imm o:= fun a m o e' i=> by
  simp at m;subst m;rw [e] at e';cases e'
  rcases i with i | i | i | i <;> simp [LObj] at i
 have bD: Beside [D] h₀ σ hb:= fun a m=> by simp at m;subst m;exact x.bD
 have t:= (x.st.w.slip (fun a m=> (bD a m).2) ni kk).2
 have nd: ∀ a ∈ Cs,a ∉ [D]:= fun a m m'=> by simp at m';subst m';exact x.ne.1 m
 refine q _ ⟨Eq.refl _,Eq.refl _⟩ ⟨x.sd.move x.it (fun a m o e=> kk a o (by simp;rintro rfl;exact x.ne.2.1 m) e) t,x.sd,?_,?_,StepX.slip x.st bD ni kk,x.bD,x.bC,x.bI,x.ne,x.cl⟩
 ·obtain ⟨m,g⟩:= LObj.update e (fun x=> x.push v)
  refine ⟨_,m,g,?_⟩
  have: ((fun x: Array Value=> x.push v) vs.toArray).toList = vs ++ [v]:= by simp
  rw [this]
  exact (rr.tups t).append (.cons (r.tups t) .nil)
 ·refine (x.fr.weak sub).move (fun o e=> kk _ o (nd _ x.fr.loc.1) e) (fun y a e o e2=> kk a o (by simp;exact (x.cl y a e).2.1) e2) t (fun a m=> ?_)
  obtain ⟨o,e⟩:= x.fr.ex a m
  exact ⟨o,kk a o (nd a m) e⟩
theorem CSt.weak (x: CSt c env Cs D as P F1 h₀ σb hb acc σ h) (sub: Sub0 F0 F1): CSt c env Cs D as P F0 h₀ σb hb acc σ h:= ⟨x.it,x.sd,x.lst,x.fr.weak sub,x.st,x.bD,x.bC,x.bI,x.ne,x.cl⟩
end
theorem cellsFrom_app: ∀ (names: List (Str × NameKind)) (n: Nat) (a b: List (Str × Addr)),cellsFrom n names (a ++ b) = cellsFrom n names a ++ b
 | [],n,a,b=> rfl
 | (x,k) :: r,n,a,b=> by
  unfold cellsFrom;split
  ·exact cellsFrom_app r (n + 1) ((x,n) :: a) b
  ·exact cellsFrom_app r n a b
theorem cells_mem {x: Str} {a: Addr}: ∀ (names: List (Str × NameKind)) (n: Nat) (acc: List (Str × Addr)),(x,a) ∈ cellsFrom n names acc -> (x,a) ∈ acc \/ (x,NameKind.cell) ∈ names
 | [],n,acc,h=> .inl h
 | (y,k) :: r,n,acc,h=> by
  unfold cellsFrom at h
  split at h
  ·rename_i hk
   have e: k = .cell:= by simpa using hk
   subst e
   rcases cells_mem r _ _ h with q | q
   ·rcases List.mem_cons.mp q with q | q
    ·cases q;exact .inr (.head _)
    ·exact .inl q
   ·exact .inr (.tail _ q)
  ·rcases cells_mem r _ _ h with q | q
   ·exact .inl q
   ·exact .inr (.tail _ q)
theorem newEnv_cells {M: Model} {A: Around} {E: Value -> Shared -> Prop} {s: Shared} {scope: Scope} {globals: Addr} {cl: List (Str × Addr)} {qual: Str} {outer: Env} {Q: Env -> Shared -> Prop}
  (hQ: ∀ h' Ac,h'.Ns s.heap.objs.size (fun _=> none) -> (∀ b o,s.heap.get? b = some o -> h'.get? b = some o) -> OwnCells scope.names s.heap.objs.size s.heap h' Ac ->
   Q { scope,locals:= s.heap.objs.size,globals,cells:= Ac ++ cl,qual,func:= none,code:= outer.code,frame:= outer.frame,builtins:= outer.builtins } { s with heap:= h' }) :
  wpAny M A (newFunctionEnv scope globals cl [] qual none .none (some outer)) Q E s:= by
 simp only [newFunctionEnv,Option.isSome_some,if_true]
 refine wpAny_bind (wpAny_alloc ?_)
 refine wpAny_bind (wpAny_layCells _ (fun name kind cells=> by cases hkc: kind == NameKind.cell <;> simp [hkc]) _ _ _ _ ?_)
 refine wpAny_bind ?_
 rw [List.forIn_nil]
 refine wpAny_pure (wpAny_pure ?_)
 have sz: ({ s with heap:= s.heap.push { cls:= .type "dict",data:= .dict #[] } }: Shared).heap.objs.size = s.heap.objs.size + 1:= Heap.size_push ..
 rw [sz]
 have e0: cellsFrom (s.heap.objs.size + 1) scope.names cl = cellsFrom (s.heap.objs.size + 1) scope.names [] ++ cl:= cellsFrom_app scope.names _ [] cl
 rw [e0]
 have ok:= cellsFrom_ok scope.names (s.heap.push { cls:= .type "dict",data:= .dict #[] }) (s.heap.objs.size + 1) [] ⟨fun _ _ hm=> (nomatch hm),List.Pairwise.nil⟩ (by rw [Heap.size_push];exact Nat.le_refl _)
 rw [Heap.size_push] at ok
 have hns: (s.heap.push { cls:= .type "dict",data:= .dict #[] }).Ns s.heap.objs.size (fun _=> none):= Heap.Ns.new ..
 refine hQ _ _ (hns.keeps (pushCells_keeps scope.names _)) (fun b o e=> pushCells_keeps scope.names _ b o (Heap.get?_push_of_some _ e)) ⟨fun x e=> cellsFrom_some _ _ _ (.inl e),fun x a m=> ?_,ok.apart⟩
 obtain ⟨h1,h2⟩:= ok.empty x a m
 refine ⟨(cells_mem _ _ _ m).resolve_left (by simp),h1,?_,Nat.ne_of_gt h2⟩
 cases q: s.heap.get? a with
 | none=> rfl
 | some o=> exact absurd (Heap.lt_size q) (Nat.not_lt_of_le (Nat.le_of_succ_le h2))
section
variable {prog: Program} {w: World} {A: Around} {s: Shared} {c: Cfg} {env: Env} {own: Addr -> Prop} {as: List Addr} {iv: Value} {F: Frm} {h₀: Heap} {σ: Hp} {hb: Heap} {I: It}
noncomputable def CompInv (Φ: Fns) (fm: List (Option Nat)) (elt: PE) (t: Tgt) (ifs: List PE) (Q: V -> Hp -> Prop) (F: Frm) (Inv: Nat -> It -> List V -> Hp -> Prop): Prop:=
 ∀ n I acc σ,Inv n I acc σ ->
    match itNext I σ with
    | none=> False
    | some none=> newL acc Q σ
    | some (some (x,I'))=> bindT t x (fun F1=> vTs Φ ifs (fun b σ=> if b then vE Φ elt (fun y σ=> acc.length < BIG /\ ∃ m,m < n /\ Inv m I' (acc ++ [y]) σ) F1 σ else ∃ m,m < n /\ Inv m I' acc σ) F1 σ)
      (frOf fm F) σ
theorem comp_setup {elt t it: Expr} {ifs: List Expr} {rest: List Comprehension} {scope: Scope} {pos: Pos}
  (hh: A.handled = none) (ok: scOk c scope.names = true) (hk: scope.kind = .function)
  (hwb: W h₀ σ hb) (hf: FrOk c env own F h₀ σ hb) (ko: ∀ b o,hb.get? b = some o -> s.heap.get? b = some o) (hit: ItRep s.heap iv as I) (bes: Beside as h₀ σ hb)
  {RR: Value -> Addr -> Result -> Shared -> Prop}
  (turns: ∀ env' Cs D s₃,Sm s s₃ -> CSt { sc:= scope.names,fns:= c.fns } env' Cs D as (ItAt iv as I) (frOf (fmapOf c scope.names) F) h₀ σ hb [] σ s₃.heap ->
   codeAny (model prog w) A (.compLoop (.ListComp elt (⟨t,it,ifs,0⟩ :: rest) scope pos) 0 iv (.ref D) env') (RR (.ref D) env'.locals) s₃) :
  wpAny (model prog w) A (newList []) (fun acc s₃=> wpAny (model prog w) A (newFunctionEnv scope env.globals (clGo env scope.names []) [] env.qual none .none (some env)) (fun cenv s₄=>
   codeAny (model prog w) A (.compStart (.ListComp elt (⟨t,it,ifs,0⟩ :: rest) scope pos) 0 iv acc { cenv with scope:= relabel scope env }) (RR acc cenv.locals) s₄) E0 s₃) E0 s:= by
 have okk:= ok
 simp only [scOk,Bool.and_eq_true,decide_eq_true_eq,List.all_eq_true] at okk
 refine wpAny_newObj_type (newEnv_cells (fun h₁ Ac hns₁ old₁ own₁=> ?_))
 dsimp only at hns₁ old₁ own₁ ⊢
 generalize hH2: s.heap.push { cls:= .type "list",dict:= none,data:= .seq ([]: List Value).toArray } = H2 at hns₁ old₁ own₁ ⊢
 have hC: H2.objs.size = s.heap.objs.size + 1:= by rw [<- hH2,Heap.size_push]
 have hDC: s.heap.objs.size ≠ H2.objs.size:= by rw [hC];exact Nat.ne_of_lt (Nat.lt_succ_self _)
 have below: ∀ b o,s.heap.get? b = some o -> b ≠ H2.objs.size /\ b ≠ s.heap.objs.size:= fun b o e=> ⟨by rw [hC];exact Nat.ne_of_lt (Nat.lt_succ_of_lt (Heap.lt_size e)),Nat.ne_of_lt (Heap.lt_size e)⟩
 have old2: ∀ b o,s.heap.get? b = some o -> H2.get? b = some o:= fun b o e=> hH2 ▸ Heap.get?_push_of_some _ e
 have old: ∀ b o,s.heap.get? b = some o -> h₁.get? b = some o:= fun b o e=> old₁ b o (old2 b o e)
 have gD2: H2.get? s.heap.objs.size = some (LObj [] 0):= hH2 ▸ Heap.get?_push_size _ rfl
 have hacc: h₁.get? s.heap.objs.size = some (LObj [] 0):= old₁ _ _ gD2
 have sD: s.heap.get? s.heap.objs.size = none:= get_push_none _
 have sC: s.heap.get? H2.objs.size = none:= by
  cases e: s.heap.get? H2.objs.size with
  | none=> rfl
  | some o=> exact absurd rfl (below _ _ e).1
 have back: ∀ a,s.heap.get? a = none -> hb.get? a = none:= fun a e=> by
  cases q: hb.get? a with
  | none=> rfl
  | some o=> rw [ko a o q] at e;cases e
 have back2: ∀ a,H2.get? a = none -> s.heap.get? a = none:= fun a e=> by
  cases q: s.heap.get? a with
  | none=> rfl
  | some o=> rw [old2 a o q] at e;cases e
 have st0: Step h₀ σ hb σ h₁:= hwb.extend fun b o e=> old b o (ko b o e)
 have bD:= beside_one hwb (back _ sD)
 have own1: OwnCells scope.names H2.objs.size hb h₁ Ac:= ⟨own₁.all,fun x a m=> ⟨(own₁.mem x a m).1,(own₁.mem x a m).2.1,back _ (back2 _ (own₁.mem x a m).2.2.1),(own₁.mem x a m).2.2.2⟩,own₁.apart⟩
 have fr1: FrOk { sc:= scope.names,fns:= c.fns } (compEnvC scope (Ac ++ clGo env scope.names []) H2.objs.size env) (fun a=> a ∈ H2.objs.size :: Ac.map (·.2)) (frOf (fmapOf c scope.names) F) h₀ σ h₁:=
  inner_ok hf ok hk rfl own1 (fun a e=> (beside_one hwb e).2) (fun b o e=> old b o (ko b o e)) (back _ sC) hns₁
 have bCs: Beside (H2.objs.size :: Ac.map (·.2)) h₀ σ hb:= fun a m=> by
  rcases List.mem_cons.mp m with rfl | m
  ·exact beside_one hwb (back _ sC)
  ·obtain ⟨⟨x,a'⟩,m2,rfl⟩:= List.mem_map.mp m
   exact beside_one hwb (own1.mem x a' m2).2.2.1
 have notAs: ∀ a,s.heap.get? a = none -> a ∉ as:= fun a e m=> by obtain ⟨o,q⟩:= hit.there _ m;rw [e] at q;cases q
 have cellNew: ∀ x a,(x,a) ∈ Ac -> s.heap.get? a = none /\ a ≠ s.heap.objs.size:= fun x a m=> ⟨back2 _ (own₁.mem x a m).2.2.1,by rintro rfl;rw [(own₁.mem x _ m).2.2.1] at gD2;cases gD2⟩
 have x0: CSt { sc:= scope.names,fns:= c.fns } (compEnvC scope (Ac ++ clGo env scope.names []) H2.objs.size env) (H2.objs.size :: Ac.map (·.2)) s.heap.objs.size as (ItAt iv as I) (frOf (fmapOf c scope.names) F) h₀ σ hb [] σ h₁:= by
  refine ⟨ItRep.move hit (fun a m o e=> old a o e) (fun a o e _=> old a o e),stand_it,⟨[],0,hacc,.nil⟩,fr1,st0,bD,bCs,bes,⟨fun m=> ?_,notAs _ sD,fun a m=> ?_⟩,fun y a e=> ?_⟩
  ·rcases List.mem_cons.mp m with e | m
   ·exact hDC e
   ·obtain ⟨⟨x,a'⟩,m,e⟩:= List.mem_map.mp m
    exact (cellNew x a' m).2 e
  ·rcases List.mem_cons.mp m with rfl | m
   ·exact notAs _ sC
   ·obtain ⟨⟨x,a'⟩,m2,rfl⟩:= List.mem_map.mp m
    exact notAs _ (cellNew x a' m2).1
  ·have e': (Ac ++ clGo env scope.names []).lookup y = some a:= e
   rw [List.lookup_append] at e'
   cases hA: Ac.lookup y with
   | some a2=>
    rw [hA] at e';simp at e';subst e'
    exact ⟨notAs _ (cellNew y _ (mem_of_lookup hA)).1,(cellNew y _ (mem_of_lookup hA)).2,.inl (.tail _ (List.mem_map.mpr ⟨_,mem_of_lookup hA,rfl⟩))⟩
   | none=>
    rw [hA] at e';simp at e'
    rcases clGo_some _ _ e' with q | ⟨m,q⟩
    ·cases q
    ·have o:= okk.2 _ m
     simp at o
     have hx: y ∈ c.names:= o.1.1
     have e': c.names[c.names.idxOf y]? = some y:= by
      have hlt:= List.idxOf_lt_length_iff.mpr hx
      rw [List.getElem?_eq_getElem hlt,List.getElem_idxOf hlt]
     have nl: env.kindOf y ≠ some .local:= by
      rcases hf.vk _ _ e' with ⟨q,_⟩ | ⟨_,q⟩ | ⟨_,q | q⟩
      ·exact absurd q o.1.2
      all_goals rw [q];simp
     obtain ⟨a',cv,g1,⟨ob,g2,_⟩,_⟩:= hf.cell _ _ e' nl
     rw [g1] at q;simp at q;subst q
     refine ⟨fun m=> ?_,fun e=> ?_,.inr ⟨_,g2⟩⟩
     ·rw [(bes a m).1] at g2;cases g2
     ·subst e;rw [bD.1] at g2;cases g2
 have loop: ∀ s₃: Shared,s₃.heap = h₁ -> Sm s s₃ ->
   codeAny (model prog w) A (.compLoop (.ListComp elt (⟨t,it,ifs,0⟩ :: rest) scope pos) 0 iv (.ref s.heap.objs.size) (compEnvC scope (Ac ++ clGo env scope.names []) H2.objs.size env)) (RR (.ref s.heap.objs.size) H2.objs.size) s₃:=
  fun s₃ e₃ m₃=> turns _ _ _ s₃ m₃ (by rw [e₃];exact x0)
 exact codeAny_compStart_list (loop _ rfl ⟨Eq.refl _,Eq.refl _⟩) (pyIter_self hh x0.it (loop _ rfl ⟨Eq.refl _,Eq.refl _⟩))
noncomputable def CompEnd (h₀: Heap) (σ: Hp) (hb: Heap) (s: Shared) (Q: V -> Hp -> Prop) (RR: Value -> Addr -> Result -> Shared -> Prop): Prop:=
 ∀ D C s' σ' acc vs k m,Sm s s' -> newL acc Q σ' -> s'.heap.get? D = some (LObj vs k) -> Reps s'.heap vs acc -> s'.heap.Ns C m -> Step h₀ σ hb σ' s'.heap -> hb.get? D = none -> hb.get? C = none -> D ≠ C -> σ' D = none -> σ' C = none -> RR (.ref D) C (.ok .next) s'
theorem CSt.over {env': Env} {Cs: List Addr} {D: Addr} {F0: Frm} {acc: List V} {σ': Hp} {s' s'': Shared} {Q: V -> Hp -> Prop} {RR: Value -> Addr -> Result -> Shared -> Prop} {cc: Cfg} {P: Heap -> Prop} (x: CSt cc env' Cs D as P F0 h₀ σ hb acc σ' s'.heap) (mI: Sm s s'') (kk: ∀ b o,b ∉ as -> s'.heap.get? b = some o -> s''.heap.get? b = some o)
  (q: newL acc Q σ') (hRR: CompEnd h₀ σ hb s Q RR): RR (.ref D) env'.locals (.ok .next) s'':= by
 have b: Beside as h₀ σ' hb:= x.bI
 have t2:= (x.st.w.slip (fun a m=> (b a m).2) (x.sd.notImm x.it) kk).2
 have st:= StepX.slip x.st b (x.sd.notImm x.it) kk
 obtain ⟨vs,j,e,r⟩:= x.lst
 obtain ⟨mm,nn,_⟩:= x.fr.ns
 obtain ⟨o,es,ep,ho,qq⟩:= nn
 have hl:= x.fr.loc.1
 exact hRR _ _ s'' σ' acc vs j mm mI q (kk _ _ x.ne.2.1 e) (r.tups t2) ⟨o,es,ep,kk _ _ (x.ne.2.2 _ hl) ho,qq⟩ st x.bD.1 (x.bC _ hl).1 (fun e=> x.ne.1 (e ▸ hl)) x.bD.2.1 (x.bC _ hl).2.1
theorem comp_tail {Φ: Fns} {elt t it: Expr} {ifs: List Expr} {scope: Scope} {pos: Pos} {pelt: PE} {tg: Tgt} {pifs: List PE} {Q: V -> Hp -> Prop} {Inv: Nat -> It -> List V -> Hp -> Prop}
  (hh: A.handled = none) (ok: scOk c scope.names = true) (hk: scope.kind = .function) (hg: CG { sc:= scope.names,fns:= c.fns } t tg)
  (hel: ∀ {s: Shared} {σ: Hp} {env: Env} {own: Addr -> Prop} {F: Frm} {Q: V -> Hp -> Prop},W h₀ σ s.heap -> FrOk { sc:= scope.names,fns:= c.fns } env own F h₀ σ s.heap -> Frs A h₀ σ s.heap -> vE Φ pelt Q F σ -> wpAny (model prog w) A (eval elt env) (PV h₀ σ s Q) E0 s)
  (hif: ∀ {s: Shared} {σ: Hp} {env: Env} {own: Addr -> Prop} {F: Frm} {Q: Bool -> Hp -> Prop},W h₀ σ s.heap -> FrOk { sc:= scope.names,fns:= c.fns } env own F h₀ σ s.heap -> Frs A h₀ σ s.heap -> vTs Φ pifs Q F σ ->
   wpAny (model prog w) A (forIn ifs true fun c r=> if r = true then do let ok <- isTrue c env (eval c env);pure (ForInStep.yield ok) else pure (ForInStep.yield r)) (PB h₀ σ s Q) E0 s)
  (hwb: W h₀ σ hb) (hf: FrOk c env own F h₀ σ hb) (hfs: Frs A h₀ σ hb) (ko: ∀ b o,hb.get? b = some o -> s.heap.get? b = some o) (hit: ItRep s.heap iv as I) (bes: Beside as h₀ σ hb)
  {n: Nat} (hi: Inv n I [] σ) (hinv: CompInv Φ (fmapOf c scope.names) pelt tg pifs Q F Inv) {RR: Value -> Addr -> Result -> Shared -> Prop}
  (hRR: CompEnd h₀ σ hb s Q RR) :
  wpAny (model prog w) A (newList []) (fun acc s₃=> wpAny (model prog w) A (newFunctionEnv scope env.globals (clGo env scope.names []) [] env.qual none .none (some env)) (fun cenv s₄=>
   codeAny (model prog w) A (.compStart (.ListComp elt [⟨t,it,ifs,0⟩] scope pos) 0 iv acc { cenv with scope:= relabel scope env }) (RR acc cenv.locals) s₄) E0 s₃) E0 s:= by
 have fre:= inner_free (F:= F) ok hg
 refine comp_setup hh ok hk hwb hf ko hit bes fun env' Cs D s₃ m₃ x0=> ?_
 refine compLoop_gen (fun n s'=> ∃ I acc σ',Sm s s' /\ Inv n I acc σ' /\
  CSt { sc:= scope.names,fns:= c.fns } env' Cs D as (ItAt iv as I) (frOf (fmapOf c scope.names) F) h₀ σ hb acc σ' s'.heap) (fun n s' hI=> ?_) n ⟨I,[],σ,m₃,hi,x0⟩
 obtain ⟨I,acc,σ',mI,hi,x⟩:= hI
 have q:= hinv n I acc σ' hi
 split at q
 ·exact q.elim
 ·rename_i hn
  refine next_end hh x.st.w x.it hn fun s'' mE kk=> ?_
  exact x.over (mI.trans mE) kk q hRR
 ·rename_i xx I' hn
  have q2:= bind_sub q fre
  have rest: ∀ y s₂,Sm s s₂ -> Rep s₂.heap y xx -> CSt { sc:= scope.names,fns:= c.fns } env' Cs D as (ItAt iv as I') (frOf (fmapOf c scope.names) F) h₀ σ hb acc σ' s₂.heap ->
    wpAny (model prog w) A (assign t env' y) (fun _ s₂=>
    wpAny (model prog w) A (forIn ifs true fun c r=> if r = true then do let ok <- isTrue c env' (eval c env');pure (ForInStep.yield ok) else pure (ForInStep.yield r)) (fun ok s₃=>
     if ok = true then wpAny (model prog w) A (eval elt env') (fun x s₄=>
      wpAny (model prog w) A (call (.builtin "list.append") [.ref D,x]) (fun _ s₅=> ∃ m,m < n /\ ∃ I acc σ',Sm s s₅ /\ Inv m I acc σ' /\
  CSt { sc:= scope.names,fns:= c.fns } env' Cs D as (ItAt iv as I) (frOf (fmapOf c scope.names) F) h₀ σ hb acc σ' s₅.heap) E0 s₄) E0 s₃
     else ∃ m,m < n /\ ∃ I acc σ',Sm s s₃ /\ Inv m I acc σ' /\
  CSt { sc:= scope.names,fns:= c.fns } env' Cs D as (ItAt iv as I) (frOf (fmapOf c scope.names) F) h₀ σ hb acc σ' s₃.heap) E0 s₂) E0 s₂:= by
   intro y s₂ m2 ry x2
   refine assign_ok hg hh x2.st.w x2.fr ry q2 fun s₃ F1 ⟨qF,sub⟩ m3 stx f1=> ?_
   have x3:= x2.bound stx f1
   refine wpAny_mono (hif x3.st.w x3.fr (hfs.step x3.st) qF) (fun ok s₄ ⟨σ4,⟨st4,m4⟩,q4⟩=> ?_) fun _ _ f=> f
   have x4:= x3.step st4
   cases ok with
   | true=>
    simp only [if_true] at q4 ⊢
    refine wpAny_mono (hel x4.st.w x4.fr (hfs.step x4.st) q4) (fun v s₅ ⟨y5,σ5,r5,⟨st5,m5⟩,hl,m,hm,q5⟩=> ?_) fun _ _ f=> f
    exact (x4.step st5).append sub r5 hl fun s₆ m6 x6=> ⟨m,hm,I',_,σ5,((((m2.trans m3).trans m4).trans m5).trans m6),q5,x6⟩
   | false=>
    simp only [Bool.false_eq_true,if_false] at q4 ⊢
    obtain ⟨m,hm,q5⟩:= q4
    exact ⟨m,hm,I',acc,σ4,(m2.trans m3).trans m4,q5,x4.weak sub⟩
  have bb: ∀ a ∈ as,σ' a = none /\ h₀.get? a = none:= fun a m=> (x.bI a m).2
  refine next_item hh x.st.w x.it bb hn fun y s₂ mm ry it' kk=> ?_
  exact letGo_it it' (rest y s₂ (mI.trans mm) ry (x.moved kk it' stand_it))
end
set_option tactic.hygienic false
set_option tactic.hygienic true
set_option linter.unusedSimpArgs false
section
variable {prog: Program} {w: World} {h₀: Heap} {mg mb: Str -> Option Value} {Φ: Fns} {n: Nat} {fns: List Str}
theorem callee_bi {c: Cfg} {es: List Expr} {as: List PE} {env: Env} {pos: Pos} {M: Model} {A: Around} {s: Shared} {E: Value -> Shared -> Prop} (f: BI) {Q: Value -> Shared -> Prop} (h: CEs c es as)
  (q: wpAny M A (spliced (backTo pos (starEach es env))) (fun vs s'=> wpAny M A (call f.val vs) Q E s') E s): wpAny M A (callWith pos f.val [] (backTo pos (starEach es env)) []) Q E s:= by
 rcases f.kind with ⟨n,e⟩ | ⟨n,e⟩
 ·rw [e] at q ⊢;exact PyProof.Rows.callWith_type (star_plain h) (evalArgs_ces h q)
 ·rw [e] at q ⊢;exact Calls.callWith_builtin (star_plain h) (evalArgs_ces h q)
theorem few_ok {c: Cfg} {es: List Expr} {as: List PE} {env: Env} {pos: Pos} (h: CEs c es as) (hl: es.length < 15) :
  ((backTo pos (starEach es env)).all (fun x=> !x.1) && (backToKw pos (keywordEach [] env)).all (fun x=> x.1.isSome) && decide (es.length + ([]: List Keyword).length + (if ([]: List Keyword).isEmpty then 0 else 1) < 30)) = true:= by
 have h1:= star_plain (env:= env) (pos:= pos) h
 rw [List.any_eq_false] at h1
 have h2: (backTo pos (starEach es env)).all (fun x=> !x.1) = true:= by
  rw [List.all_eq_true];intro x hx;have:= h1 x hx;simpa using this
 rw [h2]
 show (true && true && decide (es.length + 0 + 0 < 30)) = true
 simp;lia
theorem isPart_of {h: Heap} {v: Value} {x: V} {P: Option Int -> Prop} (r: Rep h v x) (q: partV x P): ∃ k,IsPart v k /\ P k:= by
 unfold partV at q
 split at q
 ·obtain rfl:= r.inone;exact ⟨none,.none,q⟩
 ·obtain ⟨t,rfl⟩:= r.iint;exact ⟨some _,.int _ _,q⟩
 ·exact q.elim
theorem opSlice_ok {A: Around} {s: Shared} {σ: Hp} {Q: V -> Hp -> Prop} {vo vl vh vs: Value} {o lo hi st: V} {value slice: Expr} (ro: Rep s.heap vo o) (rl: Rep s.heap vl lo) (rh: Rep s.heap vh hi) (rs: Rep s.heap vs st) (hw: W h₀ σ s.heap) (q: opSlice o lo hi st Q σ)
  (hs: ∀ o i,∃ ops,subscripted slice false o i = operate ops (getItem o i)) :
  wpAny (model prog w) A (subscriptTail value slice vo (.ref s.heap.objs.size)) (PV h₀ σ s Q) E0 { s with heap:= s.heap.push { cls:= .type "slice",data:= .fields #[vl,vh,vs] } }:= by
 unfold opSlice at q
 split at q
 ·obtain ⟨xs,e,q⟩:= q
  obtain rfl:= ro.iref
  obtain ⟨l,pl,q⟩:= isPart_of rl q
  obtain ⟨h,ph,q⟩:= isPart_of rh q
  obtain ⟨st',ps,h0,q⟩:= isPart_of rs q
  obtain ⟨ws,hl,r⟩:= hw.list e
  have hb:= hw.len e
  have hlen:= r.length
  obtain ⟨ops,hs⟩:= hs (.ref _) (.ref s.heap.objs.size)
  have k1: ∀ b o,s.heap.get? b = some o -> (s.heap.push { cls:= .type "slice",data:= .fields #[vl,vh,vs] }).get? b = some o:= fun b o e=> Heap.get?_push_of_some _ e
  have hl':= hl.push { cls:= .type "slice",data:= .fields #[vl,vh,vs] }
  refine tail_any (T:= "list") hl'.typeIs slot_list_getitem.lookup (wpAny_getItem_list_slice hl' (Heap.IsSliceOf.new _ _ _ _) pl ph ps h0 ?_ (by simp;exact big_line (by lia))) hs
  have st1: Step h₀ σ s.heap σ _:= hw.extend k1
  refine PV.back (s':= _) (s₁:= { s with heap:= s.heap.push { cls:= .type "slice",data:= .fields #[vl,vh,vs] } }) (PV.push (s:= { s with heap:= s.heap.push { cls:= .type "slice",data:= .fields #[vl,vh,vs] } }) (n:= 0) (vs:= (slicePick ws.toArray l h st').toList) (tk:= s.toks) st1.w ?_ q) st1 ⟨Eq.refl _,Eq.refl _⟩
  unfold slicePick pickL
  simp only [List.size_toArray,hlen,List.getElem?_toArray]
  exact (r.tups fun a o e _=> k1 a o e).filterMap _
 ·exact q.elim
theorem scOk_names {c: Cfg} {scope: Scope} (ok: scOk c scope.names = true): ∀ x ∈ scope.names,x.2 = NameKind.local -> scope.names.lookup x.1 = some NameKind.local:= fun x m e=> by
 simp only [scOk,Bool.and_eq_true,decide_eq_true_eq,List.all_eq_true] at ok
 exact lookup_of_nodup ok.1 (by rw [<- e];exact m)
theorem clos_ok {c: Cfg} {scope: Scope} {env: Env} {own: Addr -> Prop} {F: Frm} {σ: Hp} {h: Heap} (ok: scOk c scope.names = true) (hf: FrOk c env own F h₀ σ h): closureFor scope env = pure (clGo env scope.names []):=
 closureFor_eq (fun x m=> by
  simp only [scOk,Bool.and_eq_true,decide_eq_true_eq,List.all_eq_true] at ok
  have o:= ok.2 _ m
  simp at o
  have e': c.names[c.names.idxOf x]? = some x:= by
   have hlt:= List.idxOf_lt_length_iff.mpr o.1.1
   exact (List.getElem?_eq_getElem hlt).trans (congrArg some (List.getElem_idxOf hlt))
  have nl: env.kindOf x ≠ some .local:= by
   rcases hf.vk _ _ e' with ⟨q,_⟩ | ⟨_,q⟩ | ⟨_,q | q⟩
   ·exact absurd q o.1.2
   all_goals rw [q];simp
  obtain ⟨a',cv,g1,_⟩:= hf.cell _ _ e' nl
  rw [g1];rfl)
noncomputable def PVh (h₀: Heap) (σ: Hp) (h: Heap) (Q: V -> Hp -> Prop) (v: Value) (s': Shared): Prop:= ∃ x σ',Rep s'.heap v x /\ Step h₀ σ h σ' s'.heap /\ Q x σ'
theorem PVh.lift {σ σ': Hp} {s: Shared} {h: Heap} {Q: V -> Hp -> Prop} {v: Value} {s': Shared} (p: PVh h₀ σ' h Q v s') (st: Step h₀ σ s.heap σ' h) (m: Sm s s'): PV h₀ σ s Q v s':= by
 obtain ⟨x,σ'',r,st',q⟩:= p;exact ⟨x,σ'',r,⟨st.trans st',m⟩,q⟩
theorem comp_adopt {σ σ': Hp} {hb: Heap} {s': Shared} {D C: Addr} {acc: List V} {vs: List Value} {k: Nat} {m: Str -> Option Value} {Q: V -> Hp -> Prop} {h'': Heap} {tk: Nat} (hwb: W h₀ σ hb) (hq: newL acc Q σ') (gD: s'.heap.get? D = some (LObj vs k)) (rv: Reps s'.heap vs acc)
  (nC: s'.heap.Ns C m) (st: Step h₀ σ hb σ' s'.heap) (nD: hb.get? D = none) (nC': hb.get? C = none) (hDC: D ≠ C) (sD: σ' D = none) (sC: σ' C = none) (sb: Heap.SameBut C s'.heap h'') :
  PVh h₀ σ hb Q (.ref D) { s' with heap:= h'' }:= by
 have kk: ∀ b o,b ∉ [C] -> s'.heap.get? b = some o -> h''.get? b = some o:= fun b o n e=> sb.extBut b o (by simpa using n) e
 have h0C: h₀.get? C = none:= (beside_one hwb nC').2.2
 have ni: ∀ a ∈ [C],∀ o,s'.heap.get? a = some o -> ¬ Imm o:= fun a m' o e=> by simp at m';subst m';exact ns_not_imm nC o e
 have bC: Beside [C] h₀ σ' hb:= fun a m'=> by simp at m';subst m';exact ⟨nC',sC,h0C⟩
 have t2:= (st.w.slip (fun a m'=> (bC a m').2) ni kk).2
 have st':= StepX.slip st bC ni kk
 have hD: Holds h'' D (.list acc):= ⟨vs,k,kk D _ (by simpa using hDC) gD,rv.tups t2⟩
 have wD:= st'.w.adopt (beside_one hwb nD).2.2 hD hq.1
 refine ⟨_,_,.ref D,⟨wD,st'.keep,st'.dict,fun a=> ?_,st'.tups,st'.alive⟩,hq.2 D sD⟩
 by_cases qa: a = D
 ·subst qa;exact ⟨fun _=> .inr nD,fun _=> .inr nD⟩
 ·have:= st'.grow a
  unfold Mut at this ⊢
  rw [upd_ne _ _ qa];exact this
theorem rr_none {A: Around} {s: Shared} {σ: Hp} {hb: Heap} {Q: V -> Hp -> Prop} (hwb: W h₀ σ hb) {QQ: Value -> Shared -> Prop} (hQQ: ∀ v s',PVh h₀ σ hb Q v s' -> Sm s s' -> QQ v s') :
  CompEnd h₀ σ hb s Q (fun acc C=> compPost (model prog w) A E0 none QQ acc C):= by
 intro D C s' σ' acc vs k m mm hq gD rv nC st nD nC' hDC sD sC
 exact ⟨m,nC,fun h'' sb=> hQQ _ _ (comp_adopt (tk:= 0) hwb hq gD rv nC st nD nC' hDC sD sC sb) (mm.trans ⟨Eq.refl _,Eq.refl _⟩)⟩
theorem sEs {c: Cfg}: ∀ {es: List Expr} {ps: List PE},CEs c es ps -> ∀ {A: Around} {s: Shared} {σ: Hp} {env: Env} {own: Addr -> Prop} {F: Frm} {pos: Pos} {Q: List V -> Hp -> Prop},
  Here prog w h₀ mg mb Φ n c A s σ env own F -> vEs Φ ps Q F σ -> wpAny (model prog w) A (spliced (backTo pos (starEach es env))) (PVs h₀ σ s Q) E0 s
 | _,_,.nil,A,s,σ,env,own,F,pos,Q,X,v=> Calls.spliced_nil ⟨_,σ,.nil,⟨.refl X.w,.rfl⟩,v⟩
 | _,_,.cons he hs hst,A,s,σ,env,own,F,pos,Q,X,v=> by
  rw [hst env]
  refine Calls.spliced_cons (wpAny_mono (he X v) (fun a s₁=> PV.on fun x σ₁ rx st m₁ q=> wpAny_mono (sEs hs (X.step st) q) (fun vs s₂=> PVs.on fun xs σ₂ rs st₂ m₂ q₂=> ?_) fun _ _ f=> f) fun _ _ f=> f)
  exact ⟨_,σ₂,.cons (rx.step st₂) rs,⟨st.trans st₂,m₁.trans m₂⟩,q₂⟩
theorem sO {c: Cfg} {e: Option Expr} {p: Option PE} (h: CO c e p) {A: Around} {s: Shared} {σ: Hp} {env: Env} {own: Addr -> Prop} {F: Frm} {Q: V -> Hp -> Prop}
  (X: Here prog w h₀ mg mb Φ n c A s σ env own F) (v: vO Φ p Q F σ): wpAny (model prog w) A (evalPart e env) (PV h₀ σ s Q) E0 s:= by
 cases h with
 | none=> exact wpAny_pure (PV.same' X.w .none v)
 | some h=> exact h X v
theorem sTs {c: Cfg}: ∀ {es: List Expr} {ps: List PE},CTs c es ps -> ∀ {A: Around} {s: Shared} {σ: Hp} {env: Env} {own: Addr -> Prop} {F: Frm} {Q: Bool -> Hp -> Prop},
  Here prog w h₀ mg mb Φ n c A s σ env own F -> vTs Φ ps Q F σ ->
  wpAny (model prog w) A (forIn es true fun c r=> if r = true then do let ok <- isTrue c env (eval c env);pure (ForInStep.yield ok) else pure (ForInStep.yield r)) (PB h₀ σ s Q) E0 s
 | _,_,.nil,A,s,σ,env,own,F,Q,X,v=> wpAny_pure ⟨σ,⟨.refl X.w,.rfl⟩,v⟩
 | _,_,.cons (es:= es) h hs,A,s,σ,env,own,F,Q,X,v=> by
  rw [List.forIn_cons]
  simp only [if_true]
  refine wpAny_bind (wpAny_bind (wpAny_mono (h X v) (fun b s₁=> PB.on fun σ₁ st m₁ q=> wpAny_pure ?_) fun _ _ f=> f))
  cases b with
  | true=> exact wpAny_mono (sTs hs (X.step st) q) (fun _ _ pb=> pb.back st m₁) fun _ _ f=> f
  | false=>
   have: ∀ es: List Expr,(forIn es false fun c r=> if r = true then do let ok <- isTrue c env (eval c env);pure (ForInStep.yield ok) else pure (ForInStep.yield r)) = (pure false: Sem Bool):= fun es=> by
    induction es with
    | nil=> rfl
    | cons e es ih=> rw [List.forIn_cons];exact ih
   dsimp only
   rw [this]
   exact wpAny_pure ⟨σ₁,⟨st,m₁⟩,q⟩
end
inductive CIr (k: IK) (h₀: Heap) (σ: Hp) (s: Shared) (P: It -> Hp -> Prop) (it: Value) (s₂: Shared): Prop
 | mk (σ₁: Hp) (s₀: Shared) (h1: Step h₀ σ s.heap σ₁ s₀.heap) (h2: Sm s s₀) (h3: Started (k == .enum) h₀ σ₁ s₀ P it s₂): CIr k h₀ σ s P it s₂
noncomputable def CI (c: Cfg) (e: Expr) (k: IK) (a: PE): Prop:= (∀ env x,foldedSetIterable e env x = pure x) /\ ∀ {prog: Program} {w: World} {h₀: Heap} {mg mb: Str -> Option Value} {Φ: Fns} {n: Nat} {A: Around} {s: Shared} {σ: Hp} {env: Env} {own: Addr -> Prop} {F: Frm} {P: It -> Hp -> Prop},
 Here prog w h₀ mg mb Φ n c A s σ env own F -> vE Φ a (fun x σ=> itStart k x P σ) F σ -> wpAny (model prog w) A (eval e env) (fun v s₁=> wpAny (model prog w) A (pyIter v) (fun it s₂=> CIr k h₀ σ s P it s₂) E0 s₁) E0 s
structure CompOk (c: Cfg) (elt t it: Expr) (k: IK) (ifs: List Expr) (scope: Scope) (a b: PE) (tg: Tgt) (as: List PE) (fm: List (Option Nat)): Prop where
 ok: scOk c scope.names = true
 kind: scope.kind = .function
 fm: fm = fmapOf c scope.names
 ci: CI c it k b
 en: k = .enum -> ∃ is,tg = .tup is
 cg: CG { sc:= scope.names,fns:= c.fns } t tg
 ce: CE { sc:= scope.names,fns:= c.fns } elt a
 ct: CTs { sc:= scope.names,fns:= c.fns } ifs as
section
variable {c: Cfg} {p q: Pos}
theorem CE.int {i: Int} {k: Nat}: CE c (.Constant (.int i) k p) (.int i):= fun X v=> wpAny_Constant_int (PV.same X.w (.int _ _) v _)
theorem CE.bool {b: Bool} {k: Nat}: CE c (.Constant (.bool b) k p) (.bool b):= fun X v=> Constant_bool (PV.same' X.w (.bool _) v)
theorem CE.none {k: Nat}: CE c (.Constant .none k p) .none:= fun X v=> Constant_none (PV.same' X.w .none v)
theorem look_some {F: Frm} {i: Nat} {K: V -> Prop} (h: look F i K): ∃ v,F[i]? = some (some v) /\ K v:= by
 unfold look at h
 split at h
 ·rename_i u hu;exact ⟨u,hu,h⟩
 ·exact h.elim
theorem CE.var {x: Str} {i: Nat} (e: c.names[i]? = some x) (hd: (x == ("__debug__": Str)) = false) (hcd: (x == ("__classdict__": Str)) = false): CE c (.Name x p) (.var i):= by
 intro prog w h₀ mg mb Φ n A s σ env own F Q X v
 obtain ⟨u,hu,v⟩:= look_some v
 exact wpAny_Name (X.f.load e hu hcd fun w r=> PV.same' X.w r v) hd
theorem CE.bin {l r: Expr} {op: Operator} {a b: PE} (hl: CE c l a) (hr: CE c r b): CE c (.BinOp l op r p) (.bin op a b):= by
 intro prog w h₀ mg mb Φ n A s σ env own F Q X v
 refine wpAny_BinOp (wpAny_mono (hl X v) (fun a s₁=> PV.on fun x σ₁ rx st m₁ q=> wpAny_mono (hr (X.step st) q) (fun b s₂=> PV.on fun y σ₂ ry st₂ m₂ q₂=> ?_) fun _ _ f=> f) fun _ _ f=> f)
 exact wpAny_mono (opBin_ok X.G X.R st₂.w (rx.step st₂) ry q₂) (fun _ _ pv=> pv.back (st.trans st₂) (m₁.trans m₂)) fun _ _ f=> f
theorem CE.cmp {l r: Expr} {op: CmpOp} {a b: PE} (hl: CE c l a) (hr: CE c r b) (hm: behindInMarks op r = false): CE c (.Compare l [op] [r] p) (.cmp op a b):= by
 intro prog w h₀ mg mb Φ n A s σ env own F Q X v
 refine wpAny_Compare1 (wpAny_mono (hl X v) (fun a s₁=> PV.on fun x σ₁ rx st m₁ q=> wpAny_mono (hr (X.step st) q) (fun b s₂=> PV.on fun y σ₂ ry st₂ m₂ q₂=> ?_) fun _ _ f=> f) fun _ _ f=> f) hm
 exact wpAny_mono (opCmp_ok X.R (rx.step st₂) ry st₂.w q₂) (fun _ _ pv=> pv.back (st.trans st₂) (m₁.trans m₂)) fun _ _ f=> f
theorem CE.ite {t l r: Expr} {a b d: PE} (ht: CT c t a) (hl: CE c l b) (hr: CE c r d): CE c (.IfExp t l r p) (.ite a b d):= by
 intro prog w h₀ mg mb Φ n A s σ env own F Q X v
 refine IfExp_ (wpAny_mono (ht X v) (fun b s₁=> PB.on fun σ₁ st m₁ q=> ?_) fun _ _ f=> f)
 cases b with
 | true=> exact wpAny_mono (hl (X.step st) q) (fun _ _ pv=> pv.back st m₁) fun _ _ f=> f
 | false=> exact wpAny_mono (hr (X.step st) q) (fun _ _ pv=> pv.back st m₁) fun _ _ f=> f
theorem CE.sub {o i: Expr} {a b: PE} (ho: CE c o a) (hi: CE c i b) (hs: ∀ o v,subscripted i false o v = operate [o,v] (getItem o v)): CE c (.Subscript o i p) (.sub a b):= by
 intro prog w h₀ mg mb Φ n A s σ env own F Q X v
 refine Subscript_ (wpAny_mono (ho X v) (fun a s₁=> PV.on fun x σ₁ rx st m₁ q=> wpAny_mono (hi (X.step st) q) (fun b s₂=> PV.on fun y σ₂ ry st₂ m₂ q₂=> ?_) fun _ _ f=> f) fun _ _ f=> f)
 exact wpAny_mono (q₂.go (rx.step st₂) ry st₂.w hs) (fun _ _ pv=> pv.back (st.trans st₂) (m₁.trans m₂)) fun _ _ f=> f
theorem CE.slice {o: Expr} {lo hi ste: Option Expr} {a: PE} {l h st': Option PE} (ho: CE c o a) (hlo: CO c lo l) (hhi: CO c hi h) (hst: CO c ste st'): CE c (.Subscript o (.Slice lo hi ste p) q) (.slice a l h st'):= by
 intro prog w h₀ mg mb Φ n A s σ env own F Q X v
 refine Subscript_ (wpAny_mono (ho X v) (fun a s₁=> PV.on fun x σ₁ rx st m₁ q=> ?_) fun _ _ f=> f)
 have X1:= X.step st
 refine wpAny_Slice (wpAny_mono (sO hlo X1 q) (fun l s₂=> PV.on fun lx σ₂ lr st₂ m₂ q₂=> wpAny_mono (sO hhi (X1.step st₂) q₂) (fun h s₃=> PV.on fun hx σ₃ hr st₃ m₃ q₃=>
  wpAny_mono (sO hst ((X1.step st₂).step st₃) q₃) (fun sv s₄=> PV.on fun sx σ₄ sr st₄ m₄ q₄=> ?_) fun _ _ f=> f) fun _ _ f=> f) fun _ _ f=> f)
 have all:= ((st.trans st₂).trans st₃).trans st₄
 exact wpAny_mono (opSlice_ok (((rx.step st₂).step st₃).step st₄) ((lr.step st₃).step st₄) (hr.step st₄) sr st₄.w q₄ (fun o i=> by cases ste with | none=> exact ⟨_,rfl⟩ | some e=> exact ⟨_,rfl⟩)) (fun _ _ pv=> pv.back all (((m₁.trans m₂).trans m₃).trans m₄)) fun _ _ f=> f
theorem CE.list {es: List Expr} {as: List PE} (hs: CEs c es as): CE c (.List es p) (.list as):= by
 intro prog w h₀ mg mb Φ n A s σ env own F Q X v
 refine wpAny_List_spliced (wpAny_mono (sEs hs X v) (fun vs s₁=> PVs.on fun xs σ₁ rs st m₁ q=> ?_) fun _ _ f=> f)
 have hl:= rs.length
 exact ⟨big_line (by rw [hl];exact q.1),PV.back (PV.push (n:= 0) st.w rs q _) st m₁⟩
theorem CE.tuple {es: List Expr} {k: Nat} {as: List PE} (hs: CEs c es as): CE c (.Tuple es k p) (.tuple as):= by
 intro prog w h₀ mg mb Φ n A s σ env own F Q X v
 refine wpAny_Tuple_spliced (wpAny_mono (sEs hs X v) (fun vs s₁ ⟨xs,σ₁,rs,⟨st,m₁⟩,hb,q⟩=> ?_) fun _ _ f=> f)
 have hl:= rs.length
 have k: ∀ b o,s₁.heap.get? b = some o -> (s₁.heap.push { cls:= .type "tuple",data:= .seq vs.toArray }).get? b = some o:= fun b o e=> Heap.get?_push_of_some _ e
 exact ⟨big_line (by rw [hl];exact hb),_,σ₁,.tup (vs:= vs) ⟨_,Heap.get?_push_size _ rfl,rfl,0,rfl⟩ (rs.tups fun a o e _=> k a o e),⟨st.trans (st.w.extend k),m₁.trans ⟨Eq.refl _,Eq.refl _⟩⟩,q⟩
theorem CE.call {x: Str} {f: BI} {es: List Expr} {as: List PE} (hn: f.name = x) (hk: c.sc.lookup x = some .globalImplicit) (hs: CEs c es as): CE c (.Call (.Name x p) es [] q) (.call f as):= by
 intro prog w h₀ mg mb Φ n A s σ env own F Q X v
 subst hn
 refine Call_Name rfl (load_glob X.G X.w X.f hk f.notName.2 (.inr ⟨X.NM.fr _ f.mem,(X.G.boot _ f.notName.1).trans f.boot⟩) ?_)
 refine callee_bi f hs (wpAny_mono (sEs hs X v) (fun vs s₁=> PVs.on fun xs σ₁ rs st m₁ q=> ?_) fun _ _ f=> f)
 exact wpAny_mono ((opCall_ok q).go X.G X.R rs st.w) (fun _ _ pv=> pv.back st m₁) fun _ _ f=> f
theorem CE.ucall {x: Str} {i: Nat} {es: List Expr} {as: List PE} (hn: c.fns[i]? = some x) (hd: (x == ("__debug__": Str)) = false) (hk: c.sc.lookup x = some .globalImplicit) (hlen: es.length < 15) (hs: CEs c es as): CE c (.Call (.Name x p) es [] q) (.ucall i as):= by
 intro prog w h₀ mg mb Φ n A s σ env own F Q X v
 obtain ⟨fv,e1,fa,o,fd,rfl,e2,e3,call,cr⟩:= X.NM.fn i _ hn
 refine Call_Name rfl (load_glob X.G X.w X.f hk hd (.inl e1) ?_)
 refine callWith_function_kw (o:= o) (fd:= fd) (evalArgs_ces hs (wpAny_mono (sEs hs X v) (fun vs s₁=> PVs.on fun xs σ₁ rs st m₁ q=> ?_) fun _ _ f=> f))
 exact ⟨⟨st.w.stays _ _ e2,e3⟩,wpAny_mono (call A s₁ σ₁ fa o ⟨vs,[]⟩ vs xs Q (st.w.stays _ _ e2) e3 (cr.keeps st.w.stays) (fun _ h=> h) X.R.weak (X.fs.step st) st.w rs q) (fun _ _ pv=> pv.back st m₁) fun _ _ f=> f⟩
theorem CE.meth {o: Expr} {x: Str} {m: Meth} {es: List Expr} {ap: Pos} {a: PE} {as: List PE} (hn: m.name = x) (hl: (ap.endLine == q.line) = true) (hlen: es.length < 15) (ha: ∀ env,attributeBase o x env (eval o env) = eval o env)
  (ho: CE c o a) (hs: CEs c es as): CE c (.Call (.Attribute o x ap) es [] q) (.meth m a as):= by
 intro prog w h₀ mg mb Φ n A s σ env own F Q X v
 subst hn
 refine wpAny_Call_method (T:= "list") (id:= m.id) (ha env) ?_ hl PySem.F.plainAttrs_list (list_slots m).1 (list_slots m).2 (wpAny_mono (ho X v) (fun ov s₁ ⟨x,σ₁,rx,⟨st,m₁⟩,⟨b,xs,eb,eσ⟩,q⟩=> ?_) fun _ _ f=> f)
 ·exact few_ok hs hlen
 ·subst eb
  obtain rfl:= rx.iref
  obtain ⟨vs,k,g,r⟩:= st.w.mlist eσ
  refine ⟨⟨_,g,rfl⟩,fun a e=> ⟨_,by cases e;exact g,rfl⟩,?_⟩
  refine Calls.callWith_builtin (star_plain hs) (evalArgs_ces hs (wpAny_mono (sEs hs (X.step st) q) (fun vs s₂=> PVs.on fun ys σ₂ rs st₂ m₂ q₂=> ?_) fun _ _ f=> f))
  exact wpAny_mono (q₂.go X.G X.R (.ref _) rs st₂.w) (fun _ _ pv=> pv.back (st.trans st₂) (m₁.trans m₂)) fun _ _ f=> f
theorem CE.comp {elt t it: Expr} {k: IK} {ifs: List Expr} {scope: Scope} {a b: PE} {tg: Tgt} {as: List PE} {fm: List (Option Nat)} (C: CompOk c elt t it k ifs scope a b tg as fm): CE c (.ListComp elt [⟨t,it,ifs,0⟩] scope p) (.comp fm a tg k b as):= by
 intro prog w h₀ mg mb Φ n A s σ env own F Q X v
 rw [eval_ListComp]
 refine wpAny_comprehension_free (use:= .none) rfl (C.ci.1 env) (clos_ok C.ok X.f) C.kind (scOk_names C.ok) (wpAny_mono (C.ci.2 X v) (fun x s₁ h=> ?_) fun _ _ f=> f)
 refine wpAny_mono h (fun it s₂ ⟨σ₁,s₀,st,m₁,m₂,I,as,hit,bes,ko,Inv,⟨n0,hi⟩,hinv⟩=> ?_) fun _ _ f=> f
 have hfm:= C.fm
 subst hfm
 exact comp_tail (Inv:= Inv) X.R.handled C.ok C.kind C.cg (fun hw hf fs v=> C.ce ⟨X.G,X.NM,X.R,hw,hf,fs⟩ v) (fun hw hf fs v=> sTs C.ct ⟨X.G,X.NM,X.R,hw,hf,fs⟩ v)
  st.w (X.f.step st) (X.fs.step st) ko hit bes hi hinv (rr_none st.w (fun _ s' pv m₃=> PVh.lift pv st (m₁.trans (m₂.trans m₃))))
theorem CI.plain {e: Expr} {a: PE} (h: CE c e a) (hf: ∀ env x,foldedSetIterable e env x = pure x): CI c e .plain a:= by
 refine ⟨hf,fun {prog w h₀ mg mb Φ n A s σ env own F P} X v=> ?_⟩
 exact wpAny_mono (h X v) (fun v s₁=> PV.on fun x σ₁ rx st m₁ q=> wpAny_mono (start_plain st.w rx q) (fun it s₂ sd=> ⟨σ₁,s₁,st,m₁,sd⟩) fun _ _ f=> f) fun _ _ f=> f
theorem CT.plain {e: Expr} {v: Fns -> (V -> Hp -> Prop) -> Frm -> Hp -> Prop} (h: CE c e (.of v)) (hp: ∀ {prog: Program} {w: World} {A: Around} {s: Shared} {env: Env} {Q: Bool -> Shared -> Prop} {E: Value -> Shared -> Prop},wpAny (model prog w) A (eval e env) (fun v s'=> wpAny (model prog w) A (truthy v) Q E s') E s -> wpAny (model prog w) A (isTrue e env (eval e env)) Q E s): CT c e (.of v):= by
 intro prog w h₀ mg mb Φ n A s σ env own F P X v
 exact hp (wpAny_mono (h X v) (fun v s₃=> PV.on fun z σ₃ rz st₃ m₃ q₃=> wpAny_mono (truth_ok rz st₃.w q₃) (fun _ _ pb=> pb.back st₃ m₃) fun _ _ f=> f) fun _ _ f=> f)
theorem CT.not {e: Expr} {a: PE} (h: CT c e a): CT c (.UnaryOp .Not e p) (.not a):= by
 intro prog w h₀ mg mb Φ n A s σ env own F P X v
 exact isTrue_not (wpAny_mono (h X v) (fun _ _ pb=> by obtain ⟨σ',st,q⟩:= pb;exact ⟨σ',st,q⟩) fun _ _ f=> f)
theorem CT.and {l r: Expr} {a b: PE} (hl: CT c l a) (hr: CT c r b): CT c (.BoolOp .And [l,r] p) (.and a b):= by
 intro prog w h₀ mg mb Φ n A s σ env own F P X v
 refine isTrue_and (wpAny_mono (hl X v) (fun b s₁=> PB.on fun σ₁ st m₁ q=> ?_) fun _ _ f=> f)
 cases b with
 | true=>
  refine isTrue_and (wpAny_mono (hr (X.step st) q) (fun b s₂ q₂=> ?_) fun _ _ f=> f)
  have:= q₂.back st m₁
  cases b with
  | true=> exact isTrue_and_nil this
  | false=> exact this
 | false=> exact ⟨σ₁,⟨st,m₁⟩,q⟩
theorem CT.cmp {l r: Expr} {op: CmpOp} {a b: PE} (hl: CE c l a) (hr: CE c r b) (hm: behindInMarks op r = false): CT c (.Compare l [op] [r] p) (.cmp op a b):= by
 intro prog w h₀ mg mb Φ n A s σ env own F P X v
 refine wpAny_isTrue_Compare1 (wpAny_mono (hl X v) (fun a s₁=> PV.on fun x σ₁ rx st m₁ q=> wpAny_mono (hr (X.step st) q) (fun b s₂=> PV.on fun y σ₂ ry st₂ m₂ q₂=> ?_) fun _ _ f=> f) fun _ _ f=> f) hm
 exact wpAny_mono (opCmp_ok X.R (rx.step st₂) ry st₂.w q₂) (fun v s₃=> PV.on fun z σ₃ rz st₃ m₃ q₃=> wpAny_mono (truth_ok rz st₃.w q₃) (fun _ _ pb=> pb.back ((st.trans st₂).trans st₃) ((m₁.trans m₂).trans m₃)) fun _ _ f=> f) fun _ _ f=> f
theorem CT.var {x: Str} {i: Nat} (h: CE c (.Name x p) (.var i)): CT c (.Name x p) (.var i):= CT.plain h isTrue_plain
end
set_option tactic.hygienic false
set_option tactic.hygienic true
noncomputable def FlRep (h: Heap): Flow -> Fl -> Prop
 | .next,.next=> True
 | .brk,.brk=> True
 | .cont,.cont=> True
 | .ret v,.ret x=> Rep h v x
 | _,_=> False
inductive PSt (c: Cfg) (env: Env) (own: Addr -> Prop) (h₀: Heap) (σ: Hp) (s: Shared) (Q: Fl -> Frm -> Hp -> Prop) (f: Flow) (s': Shared): Prop
 | mk (fl: Fl) (F': Frm) (σ': Hp) (h1: FlRep s'.heap f fl) (h2: (StepX own h₀ σ s.heap σ' s'.heap /\ Sm s s')) (h3: FrOk c env own F' h₀ σ' s'.heap) (h4: Q fl F' σ'): PSt c env own h₀ σ s Q f s'
theorem PSt.back {c: Cfg} {env: Env} {own: Addr -> Prop} {h₀: Heap} {σ σ': Hp} {s s₁: Shared} {Q: Fl -> Frm -> Hp -> Prop} {f: Flow} {s': Shared} (x: PSt c env own h₀ σ' s₁ Q f s') (st: StepX own h₀ σ s.heap σ' s₁.heap) (m: Sm s s₁): PSt c env own h₀ σ s Q f s':= by
 obtain ⟨fl,F',σ'',a,⟨b,m'⟩,d,e⟩:= x;exact ⟨fl,F',σ'',a,⟨st.trans b,m.trans m'⟩,d,e⟩
theorem PSt.next {c: Cfg} {env: Env} {own: Addr -> Prop} {h₀: Heap} {σ σ': Hp} {s: Shared} {F: Frm} {Q: Fl -> Frm -> Hp -> Prop} {s': Shared} (st: StepX own h₀ σ s.heap σ' s'.heap) (m: Sm s s') (f: FrOk c env own F h₀ σ' s'.heap) (q: Q .next F σ'): PSt c env own h₀ σ s Q .next s':=
 ⟨.next,F,σ',trivial,⟨st,m⟩,f,q⟩
structure FSt (c: Cfg) (env: Env) (own: Addr -> Prop) (as: List Addr) (iv: Value) (h₀: Heap) (σb: Hp) (hb: Heap) (I: It) (F: Frm) (σ: Hp) (h: Heap): Prop where
 it: ItRep h iv as I
 fr: FrOk c env own F h₀ σ h
 st: StepX own h₀ σb hb σ h
 bes: Beside as h₀ σ hb
 no: ∀ a ∈ as,¬ own a
 cl: ∀ (i: Nat) y a,c.names[i]? = some y -> env.kindOf y ≠ some .local -> env.cells.lookup y = some a -> ∃ o,hb.get? a = some o
 lc: ∃ o,hb.get? env.locals = some o
section
variable {prog: Program} {w: World} {A: Around} {s: Shared} {c: Cfg} {env: Env} {own: Addr -> Prop} {as: List Addr} {iv: Value} {F F1: Frm} {h₀: Heap} {σb σ σ': Hp} {hb h h': Heap} {I I': It}
theorem FrOk.move' (f: FrOk c env own F h₀ σ h) (kl: ∀ o,h.get? env.locals = some o -> h'.get? env.locals = some o) (kc: ∀ (i: Nat) x a,c.names[i]? = some x -> env.kindOf x ≠ some .local -> env.cells.lookup x = some a -> ∀ o,h.get? a = some o -> h'.get? a = some o)
  (t: Tups h h') (al: ∀ a,own a -> ∃ o,h'.get? a = some o): FrOk c env own F h₀ σ h':= by
 refine ⟨f.kind,f.glob,f.bi,f.gk,f.vk,?_,fun i x e n=> ?_,f.inj,f.loc,f.nd,al,f.code⟩
 ·obtain ⟨m,n,r⟩:= f.ns
  obtain ⟨o,es,ep,ho,q⟩:= n
  exact ⟨m,⟨o,es,ep,kl _ ho,q⟩,fun i x v e1 e2 e3=> by
   obtain ⟨w,e4,e5⟩:= r i x v e1 e2 e3
   exact ⟨w,e4,e5.tups t⟩⟩
 ·obtain ⟨a,cv,e1,⟨o,e2,e2'⟩,e3,e4,e5,e6⟩:= f.cell i x e n
  refine ⟨a,cv,e1,⟨o,kc _ _ _ e n e1 _ e2,e2'⟩,e3,e4,e5,fun v hv=> ?_⟩
  obtain ⟨w,q1,q2⟩:= e6 v hv
  exact ⟨w,q1,q2.tups t⟩
theorem FSt.stepX (x: FSt c env own as iv h₀ σb hb I F σ h) (y: StepX own h₀ σ h σ' h') (f: FrOk c env own F1 h₀ σ' h'): FSt c env own as iv h₀ σb hb I F1 σ' h':= by
 have kp: ∀ a ∈ as,∀ o,h.get? a = some o -> h'.get? a = some o:= fun a m o e=> y.keep a o (none_mut (x.bes a m).2.1) (x.no a m) (x.it.notD a m o e) e
 exact ⟨x.it.move kp y.tups,f,x.st.trans y,x.bes.of_grow y.grow x.it.there,x.no,x.cl,x.lc⟩
theorem FSt.moved (x: FSt c env own as iv h₀ σb hb I F σ h) (k: ∀ b o,b ∉ as -> h.get? b = some o -> h'.get? b = some o) (it': ItRep h' iv as I'): FSt c env own as iv h₀ σb hb I' F σ h':= by
 have t:= (x.st.w.slip (fun a m=> (x.bes a m).2) x.it.notImm k).2
 have nh: ∀ a,(∃ o,hb.get? a = some o) -> a ∉ as:= fun a ⟨o,e⟩ m=> by rw [(x.bes a m).1] at e;cases e
 refine ⟨it',?_,StepX.slip x.st x.bes x.it.notImm k,x.bes,x.no,x.cl,x.lc⟩
 refine x.fr.move' (fun o e=> k _ o (nh _ x.lc) e) (fun i y a e1 e2 e3 o e=> k a o (nh a (x.cl i y a e1 e2 e3)) e) t (fun a m=> ?_)
 obtain ⟨o,e⟩:= x.fr.ex a m
 exact ⟨o,k a o (fun m'=> x.no a m' m) e⟩
theorem FSt.over (x: FSt c env own as iv h₀ σb hb I F σ h) (k: ∀ b o,b ∉ as -> h.get? b = some o -> h'.get? b = some o): StepX own h₀ σb hb σ h' /\ FrOk c env own F h₀ σ h':= by
 have t:= (x.st.w.slip (fun a m=> (x.bes a m).2) x.it.notImm k).2
 have nh: ∀ a,(∃ o,hb.get? a = some o) -> a ∉ as:= fun a ⟨o,e⟩ m=> by rw [(x.bes a m).1] at e;cases e
 refine ⟨StepX.slip x.st x.bes x.it.notImm k,?_⟩
 refine x.fr.move' (fun o e=> k _ o (nh _ x.lc) e) (fun i y a e1 e2 e3 o e=> k a o (nh a (x.cl i y a e1 e2 e3)) e) t (fun a m=> ?_)
 obtain ⟨o,e⟩:= x.fr.ex a m
 exact ⟨o,k a o (fun m'=> x.no a m' m) e⟩
theorem FSt.start (hw: W h₀ σ hb) (hf: FrOk c env own F h₀ σ hb) (it: ItRep h iv as I) (bes: Beside as h₀ σ hb) (ko: ∀ b o,hb.get? b = some o -> h.get? b = some o): FSt c env own as iv h₀ σ hb I F σ h:= by
 have st:= hw.extend ko
 refine ⟨it,hf.step st,Step.any st,bes,fun a m q=> ?_,fun i y a e1 e2 e3=> ?_,?_⟩
 ·obtain ⟨o,e⟩:= hf.ex a q;rw [(bes a m).1] at e;cases e
 ·obtain ⟨a',cv,g1,⟨o,g2,_⟩,_⟩:= hf.cell i y e1 e2
  rw [e3] at g1;cases g1;exact ⟨o,g2⟩
 ·obtain ⟨m,⟨o,_,_,ho,_⟩,_⟩:= hf.ns;exact ⟨o,ho⟩
end
section
variable {prog: Program} {w: World} {h₀: Heap} {mg mb: Str -> Option Value} {Φ: Fns} {n: Nat} {fns: List Str}
noncomputable def ForInv (Φ: Fns) (t: Tgt) (b: List PS) (Q: Fl -> Frm -> Hp -> Prop) (Inv: Nat -> It -> Frm -> Hp -> Prop): Prop:= ∀ n I F σ,Inv n I F σ ->
    match itNext I σ with
    | none=> False
    | some none=> Q .next F σ
    | some (some (x,I'))=> bindT t x (fun F1=> vSs Φ b (fun fl F σ=> match fl with
     | .next=> ∃ m,m < n /\ Inv m I' F σ
     | .cont=> ∃ m,m < n /\ Inv m I' F σ
     | .brk=> Q .next F σ
     | .ret v=> Q (.ret v) F σ) F1 σ) F σ
theorem for_loop {A: Around} {s: Shared} {c: Cfg} {env: Env} {own: Addr -> Prop} {as: List Addr} {iv: Value} {F: Frm} {σ: Hp} {sb: Shared} {I: It} {t: Expr} {tg: Tgt} {l: List Stmt} {b: List PS} {Q: Fl -> Frm -> Hp -> Prop} {Inv: Nat -> It -> Frm -> Hp -> Prop}
  (hh: A.handled = none) (hg: CG c t tg)
  (hbd: ∀ {s: Shared} {σ: Hp} {F: Frm} {Q: Fl -> Frm -> Hp -> Prop},W h₀ σ s.heap -> FrOk c env own F h₀ σ s.heap -> Frs A h₀ σ s.heap -> vSs Φ b Q F σ -> wpAny (model prog w) A (execs l env) (PSt c env own h₀ σ s Q) E0 s)
  (x0: FSt c env own as iv h₀ σ sb.heap I F σ s.heap) (hfs: Frs A h₀ σ sb.heap) (mb: Sm sb s) {n: Nat} (hi: Inv n I F σ) (hinv: ForInv Φ tg b Q Inv) {R: Result -> Shared -> Prop}
  (hR: ∀ f s',PSt c env own h₀ σ sb Q f s' -> R (.ok f) s'): codeAny (model prog w) A (.forLoop t iv l [] env) R s:= by
 have e0: ∀ (E: Value -> Shared -> Prop) e s,E0 e s -> E e s:= fun _ _ _ f=> f.elim
 refine codeAny_forLoop_any (fun n s'=> ∃ I F σ',Sm sb s' /\ Inv n I F σ' /\ FSt c env own as iv h₀ σ sb.heap I F σ' s'.heap) (fun n s' hI=> ?_) n ⟨I,F,σ,mb,hi,x0⟩
 obtain ⟨I,F,σ',mI,hi,x⟩:= hI
 have q:= hinv n I F σ' hi
 split at q
 ·exact q.elim
 ·rename_i hn
  refine next_end hh x.st.w x.it hn fun s'' mE kk=> wpAny_execs_nil ?_
  obtain ⟨st,fr⟩:= x.over kk
  exact hR _ _ ⟨.next,F,σ',trivial,⟨st,mI.trans mE⟩,fr,q⟩
 ·rename_i xx I' hn
  have rest: ∀ y s₂,Sm sb s₂ -> Rep s₂.heap y xx -> FSt c env own as iv h₀ σ sb.heap I' F σ' s₂.heap ->
    wpAny (model prog w) A (assign t env y) (fun _ s₂=> wpAny (model prog w) A (execs l env) (fun f s₃=> match f with
      | .next | .cont=> ∃ m,m < n /\ ∃ I F σ',Sm sb s₃ /\ Inv m I F σ' /\ FSt c env own as iv h₀ σ sb.heap I F σ' s₃.heap
      | .brk=> R (.ok .next) s₃
      | .ret v=> R (.ok (.ret v)) s₃) (notedBy (model prog w) A env fun e s'=> R (.error e) s') s₂) (notedBy (model prog w) A env fun e s'=> R (.error e) s') s₂:= by
   intro y s₂ m2 ry x2
   refine assign_ok hg hh x2.st.w x2.fr ry q fun s₃ F1 qF m3 stx f1=> ?_
   have x3:= x2.stepX stx f1
   refine wpAny_mono (hbd x3.st.w x3.fr (hfs.step x3.st) qF) (fun f s₄ ⟨fl,F4,σ4,rf,⟨st4,m4⟩,fr4,q4⟩=> ?_) (e0 _)
   have x4:= x3.stepX st4 fr4
   have mm:= (m2.trans m3).trans m4
   cases f with
   | next=> cases fl <;> first | exact rf.elim | (obtain ⟨m,hm,q5⟩:= q4;exact ⟨m,hm,I',F4,σ4,mm,q5,x4⟩)
   | cont=> cases fl <;> first | exact rf.elim | (obtain ⟨m,hm,q5⟩:= q4;exact ⟨m,hm,I',F4,σ4,mm,q5,x4⟩)
   | brk=> cases fl <;> first | exact rf.elim | exact hR _ _ ⟨.next,F4,σ4,trivial,⟨x4.st,mm⟩,x4.fr,q4⟩
   | ret v=> cases fl <;> first | exact rf.elim | exact hR _ _ ⟨.ret _,F4,σ4,rf,⟨x4.st,mm⟩,x4.fr,q4⟩
  have bb: ∀ a ∈ as,σ' a = none /\ h₀.get? a = none:= fun a m=> (x.bes a m).2
  refine next_item hh x.st.w x.it bb hn fun y s₂ mm ry it' kk=> ?_
  exact letGo_it it' (rest y s₂ (mI.trans mm) ry (x.moved kk it'))
end
set_option tactic.hygienic false
section
variable {prog: Program} {w: World} {h₀: Heap} {mg mb: Str -> Option Value} {Φ: Fns} {n: Nat} {fns: List Str}
theorem rr_some {A: Around} {s: Shared} {c: Cfg} {env: Env} {own: Addr -> Prop} {F: Frm} {σ: Hp} {sb: Shared} {Q: Fl -> Frm -> Hp -> Prop} {x: Str} {xp: Pos} {i: Nat} (hx: c.names[i]? = some x) (nf: c.sc.lookup x ≠ some .free)
  (hh: A.handled = none) (msb: Sm sb s) (hwb: W h₀ σ sb.heap) (hf: FrOk c env own F h₀ σ sb.heap) {QQ: Value -> Shared -> Prop} (hQQ: ∀ v s',PSt c env own h₀ σ sb Q .next s' -> QQ v s') :
  CompEnd h₀ σ sb.heap s (fun v σ=> bindT (.name i) v (fun F'=> Q .next F' σ) F σ) (fun acc C=> compPost (model prog w) A E0 (some (assign (.Name x xp) env)) QQ acc C):= by
 intro D C s' σ' acc vs k m mm hq gD rv nC st nD nC' hDC sD sC
 have hD: Holds s'.heap D (.list acc):= ⟨vs,k,gD,rv⟩
 have wD:= st.w.adopt (beside_one hwb nD).2.2 hD hq.1
 have st2: Step h₀ σ sb.heap (upd σ' D (.list acc)) s'.heap:= by
  refine ⟨wD,st.keep,st.dict,fun a=> ?_,st.tups,st.alive⟩
  by_cases qa: a = D
  ·subst qa;exact ⟨fun _=> .inr nD,fun _=> .inr nD⟩
  ·have:= st.grow a
   unfold Mut at this ⊢
   rw [upd_ne _ _ qa];exact this
 have fr:= hf.step st2
 have q:= hq.2 D sD
 show wpAny _ A (assign (.Name x xp) env (.ref D)) _ _ s'
 refine assign_ok (CG.name hx nf) hh wD fr (.ref D) q fun s'' F1 q1 m2 stx f1=> ?_
 have sC2: upd σ' D (.list acc) C = none:= by rw [upd_ne _ _ (Ne.symm hDC)];exact sC
 have noC: ¬ own C:= fun h=> by obtain ⟨o,e⟩:= hf.ex C h;rw [nC'] at e;cases e
 have nC2: s''.heap.Ns C m:= stx.ns (none_mut sC2) noC nC
 refine ⟨m,nC2,fun h'' sbt=> hQQ _ _ ?_⟩
 have kk: ∀ b o,b ∉ [C] -> s''.heap.get? b = some o -> h''.get? b = some o:= fun b o n e=> sbt.extBut b o (by simpa using n) e
 have h0C: h₀.get? C = none:= (beside_one hwb nC').2.2
 have ni: ∀ a ∈ [C],∀ o,s''.heap.get? a = some o -> ¬ Imm o:= fun a m' o e=> by simp at m';subst m';exact ns_not_imm nC2 o e
 have bC: Beside [C] h₀ (upd σ' D (.list acc)) sb.heap:= fun a m'=> by simp at m';subst m';exact ⟨nC',sC2,h0C⟩
 have all:= (Step.any (own:= own) st2).trans stx
 have t2:= (all.w.slip (fun a m'=> (bC a m').2) ni kk).2
 have all':= StepX.slip all bC ni kk
 have nh: ∀ a,(∃ o,sb.heap.get? a = some o) -> a ∉ [C]:= fun a ⟨o,e⟩ m=> by simp at m;subst m;rw [nC'] at e;cases e
 refine ⟨.next,F1,_,trivial,⟨all',(msb.trans mm).trans (m2.trans ⟨Eq.refl _,Eq.refl _⟩)⟩,?_,q1⟩
 refine f1.move' (fun o e=> kk _ o (nh _ ?_) e) (fun j y a e1 e2 e3 o e=> kk a o (nh a ?_) e) t2 (fun a m'=> ?_)
 ·obtain ⟨m,⟨o,_,_,ho,_⟩,_⟩:= hf.ns;exact ⟨o,ho⟩
 ·obtain ⟨a',cv,g1,⟨o,g2,_⟩,_⟩:= hf.cell j y e1 e2
  rw [e3] at g1;cases g1;exact ⟨o,g2⟩
 ·obtain ⟨o,e⟩:= f1.ex a m'
  exact ⟨o,kk a o (nh a (hf.ex a m')) e⟩
end
noncomputable def CS (c: Cfg) (e: Stmt) (p: PS): Prop:= ∀ {prog: Program} {w: World} {h₀: Heap} {mg mb: Str -> Option Value} {Φ: Fns} {n: Nat} {A: Around} {s: Shared} {σ: Hp} {env: Env} {own: Addr -> Prop} {F: Frm} {Q: Fl -> Frm -> Hp -> Prop},
 Here prog w h₀ mg mb Φ n c A s σ env own F -> OnTop A env -> vS Φ p Q F σ -> wpAny (model prog w) A (exec e env) (PSt c env own h₀ σ s Q) E0 s
noncomputable def CSs (c: Cfg) (e: List Stmt) (p: List PS): Prop:= ∀ {prog: Program} {w: World} {h₀: Heap} {mg mb: Str -> Option Value} {Φ: Fns} {n: Nat} {A: Around} {s: Shared} {σ: Hp} {env: Env} {own: Addr -> Prop} {F: Frm} {Q: Fl -> Frm -> Hp -> Prop},
 Here prog w h₀ mg mb Φ n c A s σ env own F -> OnTop A env -> vSs Φ p Q F σ -> wpAny (model prog w) A (execs e env) (PSt c env own h₀ σ s Q) E0 s
section
variable {c: Cfg} {p q: Pos}
theorem CSs.nil: CSs c [] []:= fun X T v=> wpAny_execs_nil (.next (.refl X.w) .rfl X.f v)
theorem CSs.cons {s: Stmt} {a: PS} {ss: List Stmt} {as: List PS} (h: CS c s a) (hs: CSs c ss as): CSs c (s :: ss) (a :: as):= by
 intro prog w h₀ mg mb Φ n A s σ env own F Q X T v
 refine wpAny_execs_cons (wpAny_mono (h X T v) (fun f s₁ ⟨fl,F₁,σ₁,rf,⟨st,m₁⟩,fr,q⟩=> ?_) fun _ _ f=> f)
 have q:= q.go
 cases f with
 | next=> cases fl <;> first | exact rf.elim | exact wpAny_mono (hs ⟨X.G,X.NM,X.R,st.w,fr,X.fs.step st⟩ T q) (fun _ _ pv=> pv.back st m₁) fun _ _ f=> f
 | cont=> cases fl <;> first | exact rf.elim | exact ⟨.cont,F₁,σ₁,rf,⟨st,m₁⟩,fr,q⟩
 | brk=> cases fl <;> first | exact rf.elim | exact ⟨.brk,F₁,σ₁,rf,⟨st,m₁⟩,fr,q⟩
 | ret v=> cases fl <;> first | exact rf.elim | exact ⟨.ret _,F₁,σ₁,rf,⟨st,m₁⟩,fr,q⟩
theorem CS.expr {e: Expr} {a: PE} (he: CE c e a) (hs: ∀ env,swapsWith e none p.line env = pure false): CS c (.Expr e p) (.expr a):= by
 intro prog w h₀ mg mb Φ n A s σ env own F Q X T v
 refine wpAny_Expr_any (wpAny_mono (he X v) (fun y s₁=> PV.on fun z σ₁ rz st m₁ q=> .next (Step.any st) m₁ (X.f.step st) q) fun _ _ f=> f) ?_ (hs env)
 unfold interactive;rw [X.f.kind];rfl
theorem CS.assign {x: Str} {i: Nat} {e: Expr} {a: PE} (hx: c.names[i]? = some x) (nf: c.sc.lookup x ≠ some .free) (he: CE c e a) (hs: ∀ env,swapsWith e (some (.Name x q)) p.line env = pure false): CS c (.Assign [.Name x q] e p) (.assign (.name i) a):= by
 intro prog w h₀ mg mb Φ n A s σ env own F Q X T v
 refine wpAny_Assign_Name (wpAny_mono (he X v) (fun y s₁=> PV.on fun z σ₁ rz st m₁ q=> ?_) fun _ _ f=> f) (hs env)
 exact (X.f.step st).store st.w hx nf rz fun s' m' st' hf'=> .next ((Step.any st).trans st') (m₁.trans m') hf' q
theorem CS.assignC {x: Str} {i: Nat} {elt t it: Expr} {k: IK} {ifs: List Expr} {scope: Scope} {cp: Pos} {a b: PE} {tg: Tgt} {as: List PE} {fm: List (Option Nat)} (hx: c.names[i]? = some x) (nf: c.sc.lookup x ≠ some .free) (C: CompOk c elt t it k ifs scope a b tg as fm) :
  CS c (.Assign [.Name x q] (.ListComp elt [⟨t,it,ifs,0⟩] scope cp) p) (.assign (.name i) (.comp fm a tg k b as)):= by
 intro prog w h₀ mg mb Φ n A s σ env own F Q X T v
 obtain ⟨bb,hb⟩: ∃ bb,swapsWith (.ListComp elt [⟨t,it,ifs,0⟩] scope cp) (some (.Name x q)) p.line env = pure bb:= ⟨_,rfl⟩
 cases bb with
 | false=>
  refine wpAny_Assign_Name (wpAny_mono (CE.comp C X v) (fun y s₁=> PV.on fun z σ₁ rz st m₁ q=> ?_) fun _ _ f=> f) hb
  exact (X.f.step st).store st.w hx nf rz fun s' m' st' hf'=> .next ((Step.any st).trans st') (m₁.trans m') hf' q
 | true=>
  rw [exec_Assign_Name_used _ _ _ _ hb]
  refine wpAny_bind (wpAny_standAt (wpAny_bind ?_))
  show wpAny _ A (do let _ <- comprehension (.ListComp elt [⟨t,it,ifs,0⟩] scope cp) scope env _ (newList []) false (eval it env) (some (PySem.assign (.Name x q) env))) _ _ s
  have key: wpAny (model prog w) A (comprehension (.ListComp elt [⟨t,it,ifs,0⟩] scope cp) scope env (firstIterPos [⟨t,it,ifs,0⟩] cp) (newList []) false (eval it env) (some (PySem.assign (.Name x q) env))) (fun _ s'=> PSt c env own h₀ σ s Q .next s') E0 s:= by
   refine wpAny_comprehension_free (use:= some (PySem.assign (.Name x q) env)) rfl (C.ci.1 env) (clos_ok C.ok X.f) C.kind (scOk_names C.ok) (wpAny_mono (C.ci.2 X v) (fun x s₁ h=> ?_) fun _ _ f=> f)
   refine wpAny_mono h (fun it s₂ ⟨σ₁,s₀,st,m₁,m₂,I,as,hit,bes,ko,Inv,⟨n0,hi⟩,hinv⟩=> ?_) fun _ _ f=> f
   have hfm:= C.fm
   subst hfm
   exact comp_tail (Inv:= Inv) X.R.handled C.ok C.kind C.cg (fun hw hf fs v=> C.ce ⟨X.G,X.NM,X.R,hw,hf,fs⟩ v) (fun hw hf fs v=> sTs C.ct ⟨X.G,X.NM,X.R,hw,hf,fs⟩ v) st.w (X.f.step st) (X.fs.step st) ko hit bes hi hinv (rr_some (Q:= Q) hx nf X.R.handled m₂ st.w (X.f.step st) (fun _ _ pv=> pv.back (Step.any st) m₁))
  exact wpAny_bind (wpAny_mono key (fun _ s' hq=> wpAny_pure (wpAny_pure hq)) fun _ _ e=> e)
theorem CS.assignT {es: List Expr} {k: Nat} {is: List Nat} {e: Expr} {a: PE} (hg: CGs c es is) (he: CE c e a) (hs: ∀ env,swapsWithSole [.Tuple es k q] e p.line env = pure false) (hs2: ∀ env,swappedStores [.Tuple es k q] e env = pure none) :
  CS c (.Assign [.Tuple es k q] e p) (.assign (.tup is) a):= by
 intro prog w h₀ mg mb Φ n A s σ env own F Q X T v
 refine PyProof.Rows.Assign_Tuple (wpAny_mono (he X v) (fun y s₁=> PV.on fun z σ₁ rz st m₁ q=> ?_) fun _ _ f=> f) (hs env) (hs2 env)
 exact assign_ok (CG.tup hg) X.R.handled st.w (X.f.step st) rz q fun s' F1 q1 m' st' hf'=> .next ((Step.any st).trans st') (m₁.trans m') hf' q1
theorem CS.setitem {o i e: Expr} {a b d: PE} (ho: CE c o a) (hi: CE c i b) (he: CE c e d) (hs: ∀ env,swapsWith e (some (.Subscript o i q)) p.line env = pure false): CS c (.Assign [.Subscript o i q] e p) (.setitem a b d):= by
 intro prog w h₀ mg mb Φ n A s σ env own F Q X T v
 refine wpAny_Assign_Subscript (wpAny_mono (he X v) (fun y s₁=> PV.on fun z σ₁ rz st m₁ q=> wpAny_mono (ho (X.step st) q) (fun ov s₂=> PV.on fun oz σ₂ roz st₂ m₂ q₂=>
  wpAny_mono (hi ((X.step st).step st₂) q₂) (fun iv s₃=> PV.on fun iz σ₃ riz st₃ m₃ q₃=> ?_) fun _ _ f=> f) fun _ _ f=> f) fun _ _ f=> f) (hs env)
 refine wpAny_mono (q₃.go (roz.step st₃) riz ((rz.step st₂).step st₃) st₃.w) (fun _ s₄ ⟨σ₄,⟨st₄,m₄⟩,q₄⟩=> ?_) fun _ _ f=> f
 exact .next (Step.any (((st.trans st₂).trans st₃).trans st₄)) (((m₁.trans m₂).trans m₃).trans m₄) ((((X.f.step st).step st₂).step st₃).step st₄) q₄
theorem CS.aug {x: Str} {i: Nat} {op: Operator} {e: Expr} {a: PE} (hx: c.names[i]? = some x) (nf: c.sc.lookup x ≠ some .free) (hcd: (x == ("__classdict__": Str)) = false) (hop: op = .Add \/ op = .Mult) (he: CE c e a): CS c (.AugAssign (.Name x q) op e p) (.aug i op a):= by
 intro prog w h₀ mg mb Φ n A s σ env own F Q X T v
 obtain ⟨x,hu,v⟩:= look_some v
 refine wpAny_AugAssign_Name (X.f.load hx hu hcd fun old r=> wpAny_mono (he X v) (fun y s₁=> PV.on fun z σ₁ rz st m₁ q=> ?_) fun _ _ f=> f)
 unfold opAug at q
 split at q
 ·obtain ⟨t,rfl⟩:= r.iint;obtain ⟨t',rfl⟩:= rz.iint
  rcases hop with rfl | rfl
  ·refine iadd_int ?_
   exact (X.f.step st).store (s:= { s₁ with toks:= s₁.toks + 1 }) st.w hx nf (.int _ _) fun s' m' st' hf'=> .next ((Step.any st).trans st') (m₁.trans (Sm.trans ⟨Eq.refl _,Eq.refl _⟩ m')) hf' q
  ·refine imul_int ?_ q.1
   exact (X.f.step st).store (s:= { s₁ with toks:= s₁.toks + 1 }) st.w hx nf (.int _ _) fun s' m' st' hf'=> .next ((Step.any st).trans st') (m₁.trans (Sm.trans ⟨Eq.refl _,Eq.refl _⟩ m')) hf' q.2
 ·exact q.elim
theorem CS.ifs {t: Expr} {l r: List Stmt} {a: PE} {b d: List PS} (ht: CT c t a) (hl: CSs c l b) (hr: CSs c r d): CS c (.If t l r p) (.ifs a b d):= by
 intro prog w h₀ mg mb Φ n A s σ env own F Q X T v
 refine wpAny_If (wpAny_mono (ht X v) (fun b s₁=> PB.on fun σ₁ st m₁ q=> ?_) fun _ _ f=> f)
 cases b with
 | true=> exact wpAny_mono (hl (X.step st) T q) (fun _ _ pv=> pv.back (Step.any st) m₁) fun _ _ f=> f
 | false=> exact wpAny_mono (hr (X.step st) T q) (fun _ _ pv=> pv.back (Step.any st) m₁) fun _ _ f=> f
theorem CS.whil {t: Expr} {l: List Stmt} {a: PE} {b: List PS} (ht: CT c t a) (hl: CSs c l b): CS c (.While t l [] p) (.whil a b):= by
 intro prog w h₀ mg mb Φ n A s σ env own F Q X T v
 obtain ⟨Inv,⟨n0,hi⟩,hinv⟩:= v
 have e0: ∀ (E: Value -> Shared -> Prop) e s,E0 e s -> E e s:= fun _ _ _ f=> f.elim
 refine wpAny_While (codeAny_whileLoop (fun n s'=> ∃ F σ',Inv n F σ' /\ FrOk c env own F h₀ σ' s'.heap /\ StepX own h₀ σ s.heap σ' s'.heap /\ Sm s s') (fun n s' hI=> ?_) n0 ⟨F,σ,hi,X.f,.refl X.w,.rfl⟩)
 obtain ⟨F,σ',hi,hf',st',mI⟩:= hI
 refine wpAny_mono (ht ⟨X.G,X.NM,X.R,st'.w,hf',X.fs.step st'⟩ (hinv n F σ' hi)) (fun b s₂=> PB.on fun σ₂ st₂ m₂ q=> ?_) (e0 _)
 have all:= st'.trans (Step.any st₂)
 cases b with
 | false=> exact wpAny_execs_nil (PSt.next all (mI.trans m₂) (hf'.step st₂) q)
 | true=>
  simp only [if_true] at q ⊢
  refine wpAny_mono (hl ⟨X.G,X.NM,X.R,st₂.w,hf'.step st₂,(X.fs.step st').step st₂⟩ T q) (fun f s₃ ⟨fl,F₃,σ₃,rf,⟨st₃,m₃⟩,fr₃,q₃⟩=> ?_) (e0 _)
  have all3:= all.trans st₃
  have mm:= (mI.trans m₂).trans m₃
  cases f with
  | next=> cases fl <;> first | exact rf.elim | (obtain ⟨m,hm,q5⟩:= q₃;exact ⟨m,hm,F₃,σ₃,q5,fr₃,all3,mm⟩)
  | cont=> cases fl <;> first | exact rf.elim | (obtain ⟨m,hm,q5⟩:= q₃;exact ⟨m,hm,F₃,σ₃,q5,fr₃,all3,mm⟩)
  | brk=> cases fl <;> first | exact rf.elim | exact ⟨.next,F₃,σ₃,trivial,⟨all3,mm⟩,fr₃,q₃⟩
  | ret v=> cases fl <;> first | exact rf.elim | exact ⟨.ret _,F₃,σ₃,rf,⟨all3,mm⟩,fr₃,q₃⟩
theorem CS.for {t it: Expr} {l: List Stmt} {tg: Tgt} {k: IK} {a: PE} {b: List PS} (hg: CG c t tg) (hci: CI c it k a) (hen: k = .enum -> ∃ is,tg = .tup is) (hl: CSs c l b): CS c (.For t it l [] p) (.for tg k a b):= by
 intro prog w h₀ mg mb Φ n A s σ env own F Q X T v
 refine wpAny_For (wpAny_mono (hci.2 X v) (fun x s₁ h=> wpAny_mono h (fun it s₂ ⟨σ₁,s₀,st,m₁,m₂,I,as,hit,bes,ko,Inv,⟨n0,hi⟩,hinv⟩=> ?_) fun _ _ f=> f) fun _ _ f=> f) (hci.1 env)
 exact for_loop (Inv:= Inv) X.R.handled hg (fun hw hf fs v=> hl ⟨X.G,X.NM,X.R,hw,hf,fs⟩ T v) (.start st.w (X.f.step st) hit bes ko) (X.fs.step st) m₂ hi hinv (fun f s' pv=> pv.back (Step.any st) m₁)
theorem CS.ret {e: Expr} {a: PE} (he: CE c e a): CS c (.Return (some e) p) (.ret a):= by
 intro prog w h₀ mg mb Φ n A s σ env own F Q X T v
 exact wpAny_Return_some (wpAny_mono (he X v) (fun y s₁=> PV.on fun z σ₁ rz st m₁ q=> ⟨.ret z,F,σ₁,rz,⟨Step.any st,m₁⟩,X.f.step st,q⟩) fun _ _ f=> f)
theorem CS.brk: CS c (.Break p) .brk:= by
 intro prog w h₀ mg mb Φ n A s σ env own F Q X T v
 exact wpAny_Break ⟨.brk,F,σ,trivial,⟨.refl X.w,.rfl⟩,X.f,v⟩
theorem CS.cont: CS c (.Continue p) .cont:= by
 intro prog w h₀ mg mb Φ n A s σ env own F Q X T v
 exact wpAny_Continue ⟨.cont,F,σ,trivial,⟨.refl X.w,.rfl⟩,X.f,v⟩
end
set_option tactic.hygienic true
theorem bindL_eq {kindOf: Str -> Option NameKind} {x: Str} (hk: kindOf x = some .local): ∀ (ps: List Str) (vs: List Value) (m: Str -> Option Value),ps.Nodup -> bindL kindOf (ps.zip vs) m x = ((ps.zip vs).lookup x).or (m x)
 | [],_,m,_=> rfl
 | p :: ps,[],m,_=> rfl
 | p :: ps,v :: vs,m,nd=> by
  simp only [List.nodup_cons] at nd
  show bindL kindOf (ps.zip vs) (if kindOf p = some .local then fun y=> if y = p then some v else m y else m) x = _
  rw [bindL_eq hk ps vs _ nd.2,List.zip_cons_cons,List.lookup_cons]
  by_cases e: x = p
  ·subst e
   have: (ps.zip vs).lookup x = none:= by
    rw [List.lookup_eq_none_iff]
    intro q hq
    have:= List.of_mem_zip hq
    simp;rintro rfl;exact nd.1 this.1
   rw [this];simp [hk]
  ·have: (x == p) = false:= by simpa using e
   rw [this]
   by_cases hp: kindOf p = some .local
   ·simp [hp,e]
   ·simp [hp]
theorem bindC_eq {kindOf: Str -> Option NameKind} {x: Str} (hk: kindOf x ≠ some .local): ∀ (ps: List Str) (vs: List Value) (m: Str -> Option Value),ps.Nodup -> bindC kindOf (ps.zip vs) m x = ((ps.zip vs).lookup x).or (m x)
 | [],_,m,_=> rfl
 | p :: ps,[],m,_=> rfl
 | p :: ps,v :: vs,m,nd=> by
  simp only [List.nodup_cons] at nd
  show bindC kindOf (ps.zip vs) (if kindOf p = some .local then m else fun y=> if y = p then some v else m y) x = _
  rw [bindC_eq hk ps vs _ nd.2,List.zip_cons_cons,List.lookup_cons]
  by_cases e: x = p
  ·subst e
   have: (ps.zip vs).lookup x = none:= by
    rw [List.lookup_eq_none_iff]
    intro q hq
    have:= List.of_mem_zip hq
    simp;rintro rfl;exact nd.1 this.1
   rw [this];simp [hk]
  ·have: (x == p) = false:= by simpa using e
   rw [this]
   by_cases hp: kindOf p = some .local
   ·simp [hp]
   ·simp [hp,e]
theorem zip_rep {h: Heap} {x: Str} {u: V}: ∀ {ps: List Str} {vs: List Value} {xs: List V},Reps h vs xs -> (ps.zip xs).lookup x = some u -> ∃ w,(ps.zip vs).lookup x = some w /\ Rep h w u
 | [],_,_,_,e=> by simp at e
 | p :: ps,_,_,.nil,e=> by simp at e
 | p :: ps,_,_,.cons r rs,e=> by
  simp only [List.zip_cons_cons,List.lookup_cons] at e ⊢
  split at e
  ·cases e;exact ⟨_,rfl,r⟩
  ·exact zip_rep rs e
noncomputable def codeOf (fd: FuncData): Option (Addr × Str):= match fd.code with | .ref a=> some (a,fd.qualname ++ ".<locals>.") | _=> none
theorem codeOf_eq {fd: FuncData} {a: Addr} {q: Str} (e: codeOf fd = some (a,q)): fd.code = .ref a /\ fd.qualname ++ ".<locals>." = q:= by
 unfold codeOf at e
 split at e
 ·rename_i b q;cases e;exact ⟨q,rfl⟩
 ·cases e
noncomputable def initF (c: Cfg) (params: List Str) (args: List V): Frm:= c.names.map fun x=> (params.zip args).lookup x
noncomputable def retV (Q: V -> Hp -> Prop) (fl: Fl) (F: Frm) (σ: Hp): Prop:= match fl with | .ret v=> Q v σ | .next=> Q .none σ | _=> False
noncomputable def bodyV (Φ: Fns) (c: Cfg) (params: List Str) (ps: List PS) (args: List V) (Q: V -> Hp -> Prop) (σ: Hp): Prop:=
 args.length = params.length /\ vSs Φ ps (retV Q) (initF c params args) σ
structure StepB (own: Addr -> Prop) (h₀: Heap) (σ: Hp) (h: Heap) (σ': Hp) (h': Heap): Prop where
 w: W h₀ σ' h'
 keep: ∀ a o,¬ Mut σ a -> ¬ own a -> ¬ IsD o -> h.get? a = some o -> h'.get? a = some o
 dict: ∀ a o,¬ Mut σ a -> ¬ own a -> IsD o -> h.get? a = some o -> ∃ sl,h'.get? a = some { o with slots:= sl }
 grow: ∀ a,¬ own a -> (Mut σ' a -> Mut σ a \/ h.get? a = none) /\ (σ' a ≠ none -> σ a ≠ none \/ h.get? a = none)
 tups: Tups h h'
 alive: ∀ a o,h.get? a = some o -> ∃ o',h'.get? a = some o' /\ (IsD o -> IsD o')
theorem StepX.b {own: Addr -> Prop} {h₀: Heap} {σ σ': Hp} {h h': Heap} (x: StepX own h₀ σ h σ' h'): StepB own h₀ σ h σ' h':= ⟨x.w,x.keep,x.dict,fun a _=> x.grow a,x.tups,x.alive⟩
theorem StepB.trans {own: Addr -> Prop} {h₀: Heap} {σ σ' σ'': Hp} {h h' h'': Heap} (x: StepB own h₀ σ h σ' h') (y: StepB own h₀ σ' h' σ'' h''): StepB own h₀ σ h σ'' h'':= by
 have key: ∀ a,h'.get? a = none -> h.get? a = none:= fun a q=> by
  cases e: h.get? a with
  | none=> rfl
  | some o=> obtain ⟨o',e',_⟩:= x.alive a o e;rw [e'] at q;cases q
 have nm: ∀ a o,¬ Mut σ a -> ¬ own a -> h.get? a = some o -> ¬ Mut σ' a:= fun a o n m e q=> ((x.grow a m).1 q).elim n fun q=> by rw [e] at q;cases q
 refine ⟨y.w,fun a o n m d e=> y.keep a o (nm a o n m e) m d (x.keep a o n m d e),fun a o n m d e=> ?_,fun a m=> ⟨fun q=> ?_,fun q=> ?_⟩,fun a o e i=> y.tups a o (x.tups a o e i) i,fun a o e=> ?_⟩
 ·obtain ⟨sl,e1⟩:= x.dict a o n m d e
  exact y.dict a { o with slots:= sl } (nm a o n m e) m (by obtain ⟨es,k,q⟩:= d;exact ⟨es,k,q⟩) e1
 ·rcases (y.grow a m).1 q with q | q
  ·exact (x.grow a m).1 q
  ·exact .inr (key a q)
 ·rcases (y.grow a m).2 q with q | q
  ·exact (x.grow a m).2 q
  ·exact .inr (key a q)
 ·obtain ⟨o1,e1,d1⟩:= x.alive a o e
  obtain ⟨o2,e2,d2⟩:= y.alive a o1 e1
  exact ⟨o2,e2,fun d=> d2 (d1 d)⟩
theorem StepB.drop {own: Addr -> Prop} {h₀: Heap} {σ σ': Hp} {h h': Heap} (x: StepB own h₀ σ h σ' h') (n: ∀ a,own a -> h.get? a = none): Step h₀ σ h σ' h':= by
 have no: ∀ {a o},h.get? a = some o -> ¬ own a:= fun e q=> by rw [n _ q] at e;cases e
 refine ⟨x.w,fun a o m _ d e=> x.keep a o m (no e) d e,fun a o m _ d e=> x.dict a o m (no e) d e,fun a=> ?_,x.tups,x.alive⟩
 by_cases q: own a
 ·exact ⟨fun _=> .inr (n a q),fun _=> .inr (n a q)⟩
 ·exact x.grow a q
inductive PSb (own: Addr -> Prop) (h₀: Heap) (σ: Hp) (s: Shared) (Q: Fl -> Frm -> Hp -> Prop) (f: Flow) (s': Shared): Prop
 | mk (fl: Fl) (F': Frm) (σ': Hp) (h1: FlRep s'.heap f fl) (h2: StepB own h₀ σ s.heap σ' s'.heap) (h3: Sm s s') (h4: Q fl F' σ'): PSb own h₀ σ s Q f s'
noncomputable def CB (c: Cfg) (e: List Stmt) (p: List PS): Prop:= ∀ {prog: Program} {w: World} {h₀: Heap} {mg mb: Str -> Option Value} {Φ: Fns} {n: Nat} {A: Around} {s: Shared} {σ: Hp} {env: Env} {own: Addr -> Prop} {F: Frm} {Q: Fl -> Frm -> Hp -> Prop},
 Here prog w h₀ mg mb Φ n c A s σ env own F -> OnTop A env -> vSs Φ p Q F σ -> wpAny (model prog w) A (execs e env) (PSb own h₀ σ s Q) E0 s
theorem CSs.body {c: Cfg} {e: List Stmt} {p: List PS} (h: CSs c e p): CB c e p:= fun X T v=> wpAny_mono (h X T v) (fun _ _ ⟨fl,F',σ',a,⟨b,m⟩,_,q⟩=> ⟨fl,F',σ',a,b.b,m,q⟩) fun _ _ f=> f
structure DefOk (h₀: Heap) (fd: FuncData) (fns: List Str) (params: List Str) (body: List Stmt) (ps: List PS): Prop where
 bdy: fd.body = .stmts body
 bind: ∀ s: Shared,(∀ b o,h₀.get? b = some o -> s.heap.get? b = some o) -> ∀ vals: List Value,vals.length = params.length -> BindsTo s fd ⟨vals,[]⟩ (params.zip vals)
 clo: fd.closure = []
 glob: fd.globals = mainGlobals
 bi: fd.builtins = builtinsNs
 co: fd.scope.isCoroutine = false
 gen: fd.scope.isGenerator = false
 kind: fd.scope.kind = .function
 nd: (fd.scope.names.map (·.1)).Nodup
 noFree: ∀ x ∈ fd.scope.names,x.2 ≠ .free
 pk: ∀ x ∈ params,fd.scope.names.lookup x = some .local \/ fd.scope.names.lookup x = some .cell
 pnd: params.Nodup
 cs: CB { sc:= fd.scope.names,fns:= fns,code:= codeOf fd } body ps
theorem cellsFrom_look {x: Str}: ∀ (names: List (Str × NameKind)) (n: Nat) (acc: List (Str × Addr)),names.lookup x = some .cell \/ (acc.lookup x).isSome = true -> ((cellsFrom n names acc).lookup x).isSome = true:= fun names n acc h=> cellsFrom_some names n acc h
section
variable {prog: Program} {w: World} {h₀: Heap} {mg mb: Str -> Option Value} {Φ: Fns} {n: Nat} {fns: List Str}
theorem call_frame {fd: FuncData} {params: List Str} {body: List Stmt} {ps: List PS} (D: DefOk h₀ fd fns params body ps) {fa: Addr} {s s₁: Shared} {σ: Hp} (hw: W h₀ σ s.heap) {vargs: List Value} {args: List V} (ra: Reps s.heap vargs args) (hl: args.length = params.length)
  (x: InCallC s (callEnvC fd s.heap.objs.size fa).locals (bindL (callEnvC fd s.heap.objs.size fa).kindOf (params.zip vargs) fun _=> none) (callEnvC fd s.heap.objs.size fa).cells (bindC (callEnvC fd s.heap.objs.size fa).kindOf (params.zip vargs) fun _=> none) s₁) :
  FrOk { sc:= fd.scope.names,fns:= fns,code:= codeOf fd } (callEnvC fd s.heap.objs.size fa) (fun a=> s.heap.get? a = none /\ ∃ o,s₁.heap.get? a = some o) (initF { sc:= fd.scope.names,fns:= fns,code:= codeOf fd } params args) h₀ σ s₁.heap:= by
 have ko: ∀ b o,s.heap.get? b = some o -> s₁.heap.get? b = some o:= x.toInCall.keep
 have t: Tups s.heap s₁.heap:= fun a o e _=> ko a o e
 have kindOf: ∀ y,(callEnvC fd s.heap.objs.size fa).kindOf y = fd.scope.names.lookup y:= fun _=> rfl
 have hL: s.heap.get? s.heap.objs.size = none:= get_push_none _
 have vark: ∀ (i: Nat) y,(Cfg.mk fd.scope.names fns (codeOf fd)).names[i]? = some y -> ∃ kk,fd.scope.names.lookup y = some kk /\ (kk = .local \/ kk = .cell):= fun i y e=> by
  obtain ⟨kk,e1,e2,e3⟩:= names_mem e
  refine ⟨kk,lookup_of_nodup D.nd e2,?_⟩
  have:= D.noFree _ e2
  cases kk <;> simp_all [isVar]
 have initAt: ∀ (i: Nat) y (v: V),(Cfg.mk fd.scope.names fns (codeOf fd)).names[i]? = some y -> (initF { sc:= fd.scope.names,fns:= fns,code:= codeOf fd } params args)[i]? = some (some v) -> ∃ w,(params.zip vargs).lookup y = some w /\ Rep s₁.heap w v:= fun i y v e1 e2=> by
  unfold initF at e2
  rw [List.getElem?_map,e1] at e2
  simp at e2
  obtain ⟨w,q1,q2⟩:= zip_rep ra e2
  exact ⟨w,q1,q2.tups t⟩
 refine ⟨D.kind,D.glob,D.bi,fun y e=> e,fun i y e=> ?_,⟨_,x.toInCall.ns,fun i y v e1 e2 e3=> ?_⟩,fun i y e1 e2=> ?_,fun y z a e1 e2=> ?_,⟨⟨hL,?_⟩,hw.fresh hL,(beside_one hw hL).2.2⟩,fun i j y e1 e2=> getElem_inj (nodup_names D.nd) e1 e2,fun a e=> e.2,fun a q e=> codeOf_eq e⟩
 ·obtain ⟨kk,l,q⟩:= vark i y e
  rcases q with rfl | rfl
  ·exact .inl ⟨l,l⟩
  ·exact .inr (.inl ⟨l,l⟩)
 ·obtain ⟨w,q1,q2⟩:= initAt i y v e1 e3
  refine ⟨w,?_,q2⟩
  rw [bindL_eq e2 _ _ _ D.pnd,q1];rfl
 ·obtain ⟨kk,l,q⟩:= vark i y e1
  rcases q with rfl | rfl
  ·exact absurd l e2
  ·have hs:= cellsFrom_look (x:= y) fd.scope.names (s.heap.objs.size + 1) [] (.inl l)
   obtain ⟨a,ha⟩:= Option.isSome_iff_exists.mp hs
   have ic:= x.cell y a ha
   have above:= x.above y a (mem_of_lookup ha)
   have na: s.heap.get? a = none:= by
    cases q: s.heap.get? a with
    | none=> rfl
    | some o=>
     have h1:= Heap.lt_size q
     have h2: s.heap.objs.size < a:= above
     exact absurd (Nat.lt_trans h1 h2) (Nat.lt_irrefl _)
   refine ⟨a,_,ha,ic,none_mut (hw.fresh na),fun e=> absurd (e ▸ above) (Nat.lt_irrefl _),fun _=> ⟨⟨na,?_⟩,hw.fresh na,(beside_one hw na).2.2⟩,fun v hv=> ?_⟩
   ·obtain ⟨o,ho,_⟩:= ic;exact ⟨o,ho⟩
   ·obtain ⟨w,q1,q2⟩:= initAt i y v e1 hv
    refine ⟨w,?_,q2⟩
    rw [bindC_eq e2 _ _ _ D.pnd,q1];rfl
 ·exact name_of_addr x.apart (mem_of_lookup e1) (mem_of_lookup e2)
 ·obtain ⟨o,_,_,ho,_⟩:= x.toInCall.ns;exact ⟨o,ho⟩
theorem frs_call {fd: FuncData} {params: List Str} {body: List Stmt} {ps: List PS} (D: DefOk h₀ fd fns params body ps) {A: Around} {fa: Addr} {σ: Hp} {h h': Heap} {L: Addr} {m: Str -> Option Value} (fs: Frs A h₀ σ h) (st: Step h₀ σ h σ h') (hσ: σ L = none) (h0: h₀.get? L = none) (hn: h'.Ns L m) :
  Frs (A.deeper (callEnvC fd L fa)) h₀ σ h':= by
 obtain ⟨l,e,q⟩:= (fs.step st).go
 refine ⟨⟨callEnvC fd L fa :: l,by show A.frames.map _ = _;rw [e];rfl,fun env me=> ?_⟩⟩
 rcases List.mem_cons.mp me with rfl | me
 ·obtain ⟨o,es,ep,ho,hd,_⟩:= hn
  exact ⟨by rw [show (callEnvC fd L fa).scope.kind = .function from D.kind];decide,L,rfl,h0,hσ,o,ho,_,_,hd⟩
 ·exact q env me
theorem frs_top {A: Around} {σ: Hp} {h: Heap} {env: Env} (fs: Frs A h₀ σ h): OnTop (A.deeper env) env:= by
 obtain ⟨l,e,q⟩:= fs.go
 exact ⟨l,by show A.frames.map _ = _;rw [e];rfl⟩
theorem call_cells {A: Around} {s: Shared} {R: Result -> Shared -> Prop} {a: Addr} {o: Obj} {fd: FuncData} {body: List Stmt} {ar: Args} {binds: List (Str × Value)}
  (hroom: A.depth < recursionLimit) (ho: s.heap.get? a = some o) (hdata: o.data = .func fd) (hlim: s.heap.NoLimit) (hcd: s.heap.CodeRec fd.code fd.qualname)
  (hbody: fd.body = .stmts body) (hbind: BindsTo s fd ar binds) (hclo: fd.closure = [])
  (hkind: ∀ x ∈ binds,fd.scope.names.lookup x.1 = some .local \/ (fd.scope.names.lookup x.1 = some .cell /\ ((cellsFrom (s.heap.objs.size + 1) fd.scope.names []).lookup x.1).isSome = true))
  (h: ∀ s₁,InCallC s (callEnvC fd s.heap.objs.size a).locals (bindL (callEnvC fd s.heap.objs.size a).kindOf binds fun _=> none) (callEnvC fd s.heap.objs.size a).cells
    (bindC (callEnvC fd s.heap.objs.size a).kindOf binds fun _=> none) s₁ ->
   wpAny (model prog w) (A.deeper (callEnvC fd s.heap.objs.size a)) (execs body (callEnvC fd s.heap.objs.size a)) (fun f s'=> R (.ok (.ret (match f with | .ret v=> v | _=> .none))) s') E0 s₁)
  (hco: fd.scope.isCoroutine = false) (hgen: fd.scope.isGenerator = false) (hk: fd.scope.kind = .function) :
  codeAny (model prog w) A (.call (.ref a) ar) R s:= by
 refine codeAny_call_function hroom ho hdata hco hgen hbody hcd ?_
 rw [hclo]
 refine hbind _ _ _ _ (wpAny_newFunctionEnv_cells hk hkind fun env he s' x=> ?_)
 subst he
 exact ⟨hlim.keeps x.toInCall.keep,codeAny_func (wpAny_mono (h s' x) (fun _ _ q=> q) fun _ _ f=> f.elim)⟩
theorem fd_ok (G: Gnd prog h₀ mg mb) (NM: NamesOk prog w h₀ mg n fns Φ) {fd: FuncData} {params: List Str} {body: List Stmt} {ps: List PS} (D: DefOk h₀ fd fns params body ps): FdOk prog w h₀ (n + 1) fd (bodyV Φ { sc:= fd.scope.names,fns:= fns,code:= codeOf fd } params ps):= by
 intro A s σ fa o ar vargs args Q ho hd hcd hbi R fs hw ra ⟨hl,v⟩
 have hlv: vargs.length = params.length:= by rw [ra.length,hl]
 refine wpAny_call (call_cells (by have:= R.depth;show A.depth < 1000;(exact ar_u11 this)) ho hd (G.nolimit.keeps hw.stays) hcd D.bdy (hbi _ (D.bind s hw.stays vargs hlv)) D.clo (fun x hx=> ?_) (fun s₁ ic=> ?_) D.co D.gen D.kind)
 ·have hm:= (List.of_mem_zip hx).1
  rcases D.pk _ hm with q | q
  ·exact .inl q
  ·exact .inr ⟨q,cellsFrom_look _ _ _ (.inl q)⟩
 ·have ko: ∀ b o,s.heap.get? b = some o -> s₁.heap.get? b = some o:= ic.toInCall.keep
  have fr:= call_frame D (fa:= fa) hw ra hl ic
  have st0:= hw.extend ko
  have m₁: Sm s s₁:= by obtain ⟨h1,tk,e⟩:= ic.toInCall.same;rw [e];exact ⟨rfl,rfl⟩
  have R': Room (A.deeper (callEnvC fd s.heap.objs.size fa)) n:= by
   obtain ⟨env,l,e,_⟩:= R.env
   refine ⟨R.handled,by have:= R.depth;show A.depth + 1 + n <= 800;lia,by have:= R.units;show A.units + 3 + 8 * n + 5 <= 9000;(exact ar_u9 this),⟨callEnvC fd s.heap.objs.size fa,env :: l,?_,D.gen,D.co,D.bi,D.glob⟩⟩
   show A.frames.map _ = _
   rw [e];rfl
  refine wpAny_mono (D.cs ⟨G,NM,R',st0.w,fr,frs_call D fs st0 (hw.fresh (get_push_none _)) (beside_one hw (get_push_none _)).2.2 ic.toInCall.ns⟩ (frs_top fs) v) (fun f s' ⟨fl,F',σ',rf,st,m₂,q⟩=> ?_) fun _ _ f=> f
  have all: Step h₀ σ s.heap σ' s'.heap:= StepB.drop (StepB.trans (StepX.b (Step.any st0)) st) fun a q=> q.1
  cases f with
  | next=>
   cases fl with
   | next=> exact ⟨.none,σ',.none,⟨all,m₁.trans m₂⟩,q⟩
   | _=> exact rf.elim
  | brk=>
   cases fl with
   | brk=> exact q.elim
   | _=> exact rf.elim
  | cont=>
   cases fl with
   | cont=> exact q.elim
   | _=> exact rf.elim
  | ret v=>
   cases fl with
   | ret x=> exact ⟨x,σ',rf,⟨all,m₁.trans m₂⟩,q⟩
   | _=> exact rf.elim
theorem fn_ok (G: Gnd prog h₀ mg mb) (NM: NamesOk prog w h₀ mg n fns Φ) {fd: FuncData} {params: List Str} {body: List Stmt} {ps: List PS} (D: DefOk h₀ fd fns params body ps) {fa: Addr} {o: Obj} (ho: h₀.get? fa = some o) (hd: o.data = .func fd)
  (hcd: h₀.CodeRec fd.code fd.qualname): FnOk prog w h₀ (n + 1) (.ref fa) (bodyV Φ { sc:= fd.scope.names,fns:= fns,code:= codeOf fd } params ps):= ⟨fa,o,fd,rfl,ho,hd,fd_ok G NM D,hcd⟩
theorem FdOk.mono {fd: FuncData} {Φ₁ Φ₂: List V -> (V -> Hp -> Prop) -> Hp -> Prop} {n m: Nat} (h: FdOk prog w h₀ n fd Φ₁) (hm: n <= m) (i: ∀ args Q σ,Φ₂ args Q σ -> Φ₁ args Q σ): FdOk prog w h₀ m fd Φ₂:=
 fun A s σ fa o ar vals args Q ho hd hc hb R fs hw ra v=> h A s σ fa o ar vals args Q ho hd hc hb (R.le hm) fs hw ra (i _ _ _ v)
theorem FnOk.mono {fv: Value} {Φ₁ Φ₂: List V -> (V -> Hp -> Prop) -> Hp -> Prop} {n m: Nat} (h: FnOk prog w h₀ n fv Φ₁) (hm: n <= m) (i: ∀ args Q σ,Φ₂ args Q σ -> Φ₁ args Q σ): FnOk prog w h₀ m fv Φ₂:= by
 obtain ⟨fa,o,fd,e,a,b,call,cr⟩:= h
 exact ⟨fa,o,fd,e,a,b,call.mono hm i,cr⟩
end
set_option tactic.hygienic false
section
variable {prog: Program} {w: World} {h₀: Heap} {mg mb: Str -> Option Value} {Φ: Fns} {n: Nat} {fns: List Str}
theorem law_code (G: Gnd prog h₀ mg mb) (NM: NamesOk prog w h₀ mg n fns Φ) (hn: n <= 400) {fd: FuncData} {params: List Str} {body: List Stmt} {ps: List PS} (D: DefOk h₀ fd fns params body ps) {fa: Addr} {o: Obj} (ho: h₀.get? fa = some o) (hd: o.data = .func fd)
  (hcd: h₀.CodeRec fd.code fd.qualname) {s: Shared} {σ: Hp} {vargs: List Value} {args: List V} {Q: V -> Hp -> Prop} (hw: W h₀ σ s.heap) (ra: Reps s.heap vargs args) (v: bodyV Φ { sc:= fd.scope.names,fns:= fns,code:= codeOf fd } params ps args Q σ)
  {R: Result -> Shared -> Prop} (hR: ∀ x s',PV h₀ σ s Q x s' -> R (.ok (.ret x)) s'): codeAny (model prog w) callerA (.call (.ref fa) ⟨vargs,[]⟩) R s:= by
 obtain ⟨hl,v⟩:= v
 have hlv: vargs.length = params.length:= by rw [ra.length,hl]
 refine call_cells (by decide) (hw.stays _ _ ho) hd (G.nolimit.keeps hw.stays) (hcd.keeps hw.stays) D.bdy (D.bind s hw.stays vargs hlv) D.clo (fun x hx=> ?_) (fun s₁ ic=> ?_) D.co D.gen D.kind
 ·have hm:= (List.of_mem_zip hx).1
  rcases D.pk _ hm with q | q
  ·exact .inl q
  ·exact .inr ⟨q,cellsFrom_look _ _ _ (.inl q)⟩
 ·have ko: ∀ b o,s.heap.get? b = some o -> s₁.heap.get? b = some o:= ic.toInCall.keep
  have fr:= call_frame D (fa:= fa) hw ra hl ic
  have st0:= hw.extend ko
  have m₁: Sm s s₁:= by obtain ⟨h1,tk,e⟩:= ic.toInCall.same;rw [e];exact ⟨rfl,rfl⟩
  have R': Room (callerA.deeper (callEnvC fd s.heap.objs.size fa)) n:= by
   refine ⟨rfl,?_,?_,⟨callEnvC fd s.heap.objs.size fa,[],rfl,D.gen,D.co,D.bi,D.glob⟩⟩
   ·show 1 + 300 + 1 + n <= 800;lia
   ·show 4 + 3 + 8 * n + 5 <= 9000;(exact ar_u10 hn)
  refine wpAny_mono (D.cs ⟨G,NM,R',st0.w,fr,⟨[callEnvC fd s.heap.objs.size fa],rfl,fun env me=> by
   obtain rfl:= List.mem_singleton.mp me
   obtain ⟨o,es,ep,ho,hd,_⟩:= ic.toInCall.ns
   exact ⟨by rw [show (callEnvC fd s.heap.objs.size fa).scope.kind = .function from D.kind];decide,_,rfl,(beside_one hw (get_push_none _)).2.2,hw.fresh (get_push_none _),o,ho,_,_,hd⟩⟩⟩ ⟨[],rfl⟩ v) (fun f s' ⟨fl,F',σ',rf,st,m₂,q⟩=> ?_) fun _ _ f=> f
  have all: Step h₀ σ s.heap σ' s'.heap:= StepB.drop (StepB.trans (StepX.b (Step.any st0)) st) fun a q=> q.1
  cases f with
  | next=>
   cases fl with
   | next=> exact hR _ _ ⟨.none,σ',.none,⟨all,m₁.trans m₂⟩,q⟩
   | _=> exact rf.elim
  | brk=>
   cases fl with
   | brk=> exact q.elim
   | _=> exact rf.elim
  | cont=>
   cases fl with
   | cont=> exact q.elim
   | _=> exact rf.elim
  | ret v=>
   cases fl with
   | ret x=> exact hR _ _ ⟨x,σ',rf,⟨all,m₁.trans m₂⟩,q⟩
   | _=> exact rf.elim
noncomputable def scriptHp (l: Addr) (ns: List Int): Hp:= fun a=> if a = l then some (.flist (ns.map .int)) else none
theorem script_w {l: Addr} {vs: List Value} {ns: List Int} (hl: h₀.IsList l vs.toArray) (hi: IntsAre vs ns) (hb: ns.length <= 63): W h₀ (scriptHp l ns) h₀:= by
 refine ⟨fun _ _ e=> e,fun a o e=> ?_,fun a ⟨o,e,m⟩=> ?_,fun a o e=> ?_⟩
 ·unfold scriptHp at e;split at e
  ·rename_i q;subst q;cases e
   refine ⟨vs,hl,?_⟩
   clear hl hb
   induction hi with
   | nil=> exact .nil
   | cons n t _ ih=> exact .cons (.int _ _) ih
  ·cases e
 ·unfold scriptHp at e;split at e
  ·cases e;cases m
  ·cases e
 ·unfold scriptHp at e;split at e
  ·cases e;show (ns.map V.int).length <= BIG;simp;unfold BIG;lia
  ·cases e
theorem ground_of {p: Program} {loose: List Str} {mean: ExcName -> Option Value} {h: Heap} (T: Top p loose mean mg mb h) (hi: importsNone p = true) (ht: prog.given.tree = none): Gnd prog h mg mb:=
 ⟨T.g,T.b,T.nolimit,T.seer hi,ht,T.builtins⟩
end
section
open PySem PySem.W PyProof.Rows PySem.SeqAt PySem.MeetsSeq PySem.MeetsSeq2 PySem.MeetsSeq3 PySem.SeqRoads2
open PySem.AutoSeq1 (wpAny_loadPart')
noncomputable def LtAt (A: Around) (s: Shared) (y x: Value) (b: Bool): Prop:=
 ∀ (prog: Program) (w: World) (E: Value -> Shared -> Prop) (Q: Value -> Shared -> Prop),Q (.bool b) s -> wpAny (model prog w) A (richCompare .Lt y x) Q E s
inductive LexAt (A: Around) (s: Shared): List Value -> List Value -> Bool -> Prop
 | nil (ys: List Value): LexAt A s [] ys (decide (0 < ys.length))
 | short (x: Value) (xs: List Value): LexAt A s (x :: xs) [] false
 | eq {x y: Value} {xs ys: List Value} {r: Bool}: EqAt A s x y true -> LexAt A s xs ys r -> LexAt A s (x :: xs) (y :: ys) r
 | lt {x y: Value} {xs ys: List Value} {r: Bool}: EqAt A s x y false -> LtAt A s x y r -> LexAt A s (x :: xs) (y :: ys) r
theorem tuple_ltAt (l b: Addr) (items items2: Array Value) (n n2: Nat) (dd dd2: Option Addr) (sl sl2: Array (Option Value)) (r: Bool) :
  Meets (Builtin.«tuple.__lt__» ⟨[.ref l,.ref b],[]⟩)
   (fun A R s=> s.heap.get? l = some { cls:= .type "tuple",dict:= dd,data:= .seq items n,slots:= sl } /\ s.heap.get? b = some { cls:= .type "tuple",dict:= dd2,data:= .seq items2 n2,slots:= sl2 } /\
    LexAt A.in1 s items.toList items2.toList r /\ R (.ok (.ret (.bool r))) s):=
 .of_wp fun prog w A R s h=> by
  obtain ⟨hp,g,d,tk,os⟩:= s;obtain ⟨hl,hb,hx,h⟩:= h
  have f2:= AutoSeq1.sub_tuple_tuple
  wp_walk using wpAny_loadPart' hl,wpAny_loadPart' hb,wpAny_forIn_list _ (fun rest b s'=> b.1 = none /\ s' = ⟨hp,g,d,tk,os⟩ /\ ∃ xs ys,rest = xs.zip ys /\ items.size + ys.length = items2.size + xs.length /\ LexAt A.in1 ⟨hp,g,d,tk,os⟩ xs ys r) _
  case turn=>
   rintro ⟨y,x⟩ rest b s' ⟨hb',rfl,xs,ys,hz,hsz,lx⟩
   cases lx with
   | nil=> simp at hz
   | short=> simp at hz
   | eq he lx=>
    simp only [List.zip_cons_cons,List.cons.injEq,Prod.mk.injEq] at hz
    obtain ⟨⟨rfl,rfl⟩,rfl⟩:= hz
    refine wpAny_bind (he prog w _ _ ?_)
    wp_walk
    exact ⟨rfl,rfl,_,_,rfl,by simp at hsz;(exact Nat.succ_inj.mp hsz),lx⟩
   | lt he lt=>
    simp only [List.zip_cons_cons,List.cons.injEq,Prod.mk.injEq] at hz
    obtain ⟨⟨rfl,rfl⟩,rfl⟩:= hz
    refine wpAny_bind (he prog w _ _ ?_)
    have lt': ∀ {E: Value -> Shared -> Prop} {Q: Value -> Shared -> Prop},Q (.bool r) ⟨hp,g,d,tk,os⟩ -> wpAny (model prog w) A.in1 (richCompare .Lt y x) Q E ⟨hp,g,d,tk,os⟩:= fun h=> lt prog w _ _ h
    wp_walk using lt'
    exact ⟨_,rfl,h⟩
  case fin=>
   rintro ⟨b1,b2⟩ s' ⟨hb',rfl,xs,ys,hz,hsz,lx⟩
   simp only at hb'
   subst hb'
   have e: decide (items.size < items2.size) = r:= by
    cases lx with
    | nil=> simp at hsz ⊢;(exact ar_k27 hsz)
    | short=> simp at hsz ⊢;(exact Nat.le.intro (id (Eq.symm hsz)))
    | eq=> simp at hz
    | lt=> simp at hz
   wp_walk
   refine ⟨_,rfl,?_⟩
   show R (.ok (.ret (.bool (decide (items.size < items2.size))))) _
   rw [e];exact h
  case h=>
   exact ⟨rfl,rfl,items.toList,items2.toList,rfl,by simp;(exact Nat.add_comm items.size items2.size),hx⟩
theorem LtAt.tuples {A: Around} {s: Shared} {l b: Addr} {items items2: Array Value} {r: Bool} (hl: s.heap.IsTuple l items) (hb: s.heap.IsTuple b items2) (hu: A.units < cLine)
  (he: LexAt A.in1 s items.toList items2.toList r): LtAt A s (.ref l) (.ref b) r:= fun prog w E Q h=> by
 obtain ⟨⟨cls,dd,data,sl⟩,ho,hc,n,hd⟩:= id hl
 obtain ⟨⟨cls2,dd2,data2,sl2⟩,ho2,hc2,n2,hd2⟩:= id hb
 simp only at hc hd hc2 hd2
 subst hc hd hc2 hd2
 exact richCompare_meets_room (op:= .Lt) ⟨_,ho,rfl⟩ ⟨_,ho2,rfl⟩ F.slot_tuple_lt F.entry_tuple_lt (F.args_tuple_lt_2 _ _) (tuple_ltAt l b items items2 n n2 dd dd2 sl sl2 r)
  ⟨ho,ho2,he,show Value.bool r ≠ Value.notImplemented /\ Q (.bool r) s from ⟨(fun x=> nomatch x),h⟩⟩ hu
theorem lt_loopAt (l b: Addr) (items items2: Array Value) (n n2: Nat) (dd dd2: Option Addr) (sl sl2: Array (Option Value)) (r: Bool) (k: Nat) :
  ∀ i: Nat,items.size - i = k -> Meets (Builtin.«list.__eq__.loop» ⟨[.ref l,.ref b,rawInt i,rawInt 0],[]⟩)
   (fun A R s=> s.heap.get? l = some { cls:= .type "list",dict:= dd,data:= .seq items n,slots:= sl } /\ s.heap.get? b = some { cls:= .type "list",dict:= dd2,data:= .seq items2 n2,slots:= sl2 } /\
    LexAt A.in1 s (items.toList.drop i) (items2.toList.drop i) r /\ i <= items.size /\ i <= items2.size /\
    R (.ok (.ret (.bool r))) s):= by
 induction k with
 | zero=>
  intro i hk prog w A R s h
  obtain ⟨hp,g,d,tk,os⟩:= s;obtain ⟨hl,hb,lx,hi,hj,h⟩:= h
  wp_walk using wpAny_loadPart' hl,wpAny_loadPart' hb
  have hi1: items[((i: Nat): Int).toNat]? = none:= by simp;(exact Nat.le_of_sub_eq_zero hk)
  have ei: items.toList.drop i = []:= by simp;lia
  rw [ei] at lx
  cases lx with
  | nil=>
   rw [hi1]
   wp_walk using wpAny_loadPart' hl,wpAny_loadPart' hb
   show R (.ok (.ret (.bool (decide (items.size < items2.size))))) _
   have e: decide (items.size < items2.size) = decide (0 < (items2.toList.drop i).length):= by
    congr 1;simp;(exact ar_k26 hk hi hj)
   rw [e];exact h
 | succ k ih=>
  intro i hk prog w A R s h
  obtain ⟨hp,g,d,tk,os⟩:= s;obtain ⟨hl,hb,lx,hi,hj,h⟩:= h
  wp_walk using wpAny_loadPart' hl,wpAny_loadPart' hb
  have hlt: i < items.size:= by exact Nat.lt_of_sub_eq_succ hk
  have hi1: items[((i: Nat): Int).toNat]? = some items[i]:= by simp [hlt]
  have hd1: items.toList.drop i = items[i] :: items.toList.drop (i + 1):= by simp [List.drop_eq_getElem_cons,hlt]
  have hc: ((i: Int) + 1) = ((i + 1: Nat): Int):= by push_cast;rfl
  rw [hd1] at lx
  rcases Nat.lt_or_ge i items2.size with hlt2 | hge
  ·have hi2: items2[((i: Nat): Int).toNat]? = some items2[i]:= by simp [hlt2]
   have hd2: items2.toList.drop i = items2[i] :: items2.toList.drop (i + 1):= by simp [List.drop_eq_getElem_cons,hlt2]
   rw [hd2] at lx
   rw [hi1,hi2]
   cases lx with
   | eq he lx=>
    refine wpAny_bind (he prog w _ _ ?_)
    wp_walk
    rw [hc]
    exact ⟨plainId_quiet plain_eq_loop _,codeAny_builtin entry_eq_loop (by
     rw [Around.under_plainId plain_eq_loop _]
     exact ih (i + 1) (by exact ar_step hk) prog w A R _ ⟨hl,hb,lx,by exact Nat.succ_le_of_lt hlt,by exact Nat.succ_le_of_lt hlt2,h⟩)⟩
   | lt he lt=>
    refine wpAny_bind (he prog w _ _ ?_)
    have lt': ∀ {E: Value -> Shared -> Prop} {Q: Value -> Shared -> Prop},Q (.bool r) ⟨hp,g,d,tk,os⟩ -> wpAny (model prog w) A.in1 (richCompare .Lt items[i] items2[i]) Q E ⟨hp,g,d,tk,os⟩:= fun h=> lt prog w _ _ h
    wp_walk using wpAny_loadPart' hl,wpAny_loadPart' hb
    rw [hi1,hi2]
    wp_walk using lt'
    exact h
  ·have hi2: items2[((i: Nat): Int).toNat]? = none:= by simp;(exact String.Pos.Raw.mk_le_mk.mp hge)
   have ej: items2.toList.drop i = []:= by simp;lia
   rw [ej] at lx
   cases lx with
   | short=>
    rw [hi1,hi2]
    wp_walk using wpAny_loadPart' hl,wpAny_loadPart' hb
    show R (.ok (.ret (.bool (decide (items.size < items2.size))))) _
    have e: decide (items.size < items2.size) = false:= by simp;(exact Nat.le_trans hge hi)
    rw [e];exact h
theorem list_ltAt (l b: Addr) (items items2: Array Value) (n n2: Nat) (dd dd2: Option Addr) (sl sl2: Array (Option Value)) (r: Bool) :
  Meets (Builtin.«list.__lt__» ⟨[.ref l,.ref b],[]⟩)
   (fun A R s=> s.heap.get? l = some { cls:= .type "list",dict:= dd,data:= .seq items n,slots:= sl } /\ s.heap.get? b = some { cls:= .type "list",dict:= dd2,data:= .seq items2 n2,slots:= sl2 } /\
    LexAt A.in1 s items.toList items2.toList r /\ R (.ok (.ret (.bool r))) s):= by
 intro prog w A R s h
 obtain ⟨hp,g,d,tk,os⟩:= s;obtain ⟨hl,hb,lx,h⟩:= h
 have f3:= AutoSeq1.sub_list_list
 wp_walk using wpAny_loadPart' hl,wpAny_loadPart' hb
 exact ⟨plainId_quiet plain_eq_loop _,codeAny_builtin entry_eq_loop (by
  rw [Around.under_plainId plain_eq_loop _]
  exact lt_loopAt l b items items2 n n2 dd dd2 sl sl2 r _ 0 rfl prog w A R _ ⟨hl,hb,by simpa using lx,by exact Nat.zero_le items.size,by exact Nat.zero_le items2.size,h⟩)⟩
theorem LtAt.lists {A: Around} {s: Shared} {l b: Addr} {items items2: Array Value} {r: Bool} (hl: s.heap.IsList l items) (hb: s.heap.IsList b items2) (hu: A.units < cLine)
  (he: LexAt A.in1 s items.toList items2.toList r): LtAt A s (.ref l) (.ref b) r:= fun prog w E Q h=> by
 obtain ⟨⟨cls,dd,data,sl⟩,ho,hc,n,hd⟩:= id hl
 obtain ⟨⟨cls2,dd2,data2,sl2⟩,ho2,hc2,n2,hd2⟩:= id hb
 simp only at hc hd hc2 hd2
 subst hc hd hc2 hd2
 exact richCompare_meets_room (op:= .Lt) ⟨_,ho,rfl⟩ ⟨_,ho2,rfl⟩ F.slot_list_lt F.entry_list_lt (F.args_list_lt_2 _ _) (list_ltAt l b items items2 n n2 dd dd2 sl sl2 r)
  ⟨ho,ho2,he,show Value.bool r ≠ Value.notImplemented /\ Q (.bool r) s from ⟨(fun x=> nomatch x),h⟩⟩ hu
end
section
open PySem PySem.W PyProof.Rows PySem.SeqAt
noncomputable def lexD (f: PyData -> PyData -> Option Bool): List PyData -> List PyData -> Option Bool
 | [],ys=> some (decide (0 < ys.length))
 | _ :: _,[]=> some false
 | x :: xs,y :: ys=> if PyData.eqv x y then lexD f xs ys else f x y
noncomputable def ltv: Nat -> PyData -> PyData -> Option Bool
 | 0,_,_=> none
 | n + 1,.int i,.int j=> some (decide (i < j))
 | n + 1,.tuple xs,.tuple ys=> lexD (ltv n) xs ys
 | n + 1,.list xs,.list ys=> lexD (ltv n) xs ys
 | n + 1,_,_=> none
theorem LtAt.int {A: Around} {s: Shared} (i j: Int) (t u: Tok): LtAt A s (.int i t) (.int j u) (decide (i < j)):= fun prog w E Q h=> lt_int h
theorem depth_head {x: PyData} {xs: List PyData} {k: Nat} (h: PyData.depthAll (x :: xs) <= k): x.depth <= k /\ PyData.depthAll xs <= k:= by
 simp only [PyData.depthAll] at h;(exact Nat.max_le.mp h)
theorem lexAt_reads {A: Around} {s: Shared} {f: PyData -> PyData -> Option Bool} (hu: A.units + 64 < cLine)
  (hf: ∀ (x y: PyData) (v w: Value) (as bs: List Addr) (r: Bool),Reads s.heap v x as -> Reads s.heap w y bs -> x.canLay0 = true -> y.canLay0 = true -> x.depth <= 60 -> f x y = some r -> LtAt A s v w r) :
  ∀ (xs ys: List PyData) (vs ws: List Value) (as bs: List Addr) (r: Bool),ReadsAll s.heap vs xs as -> ReadsAll s.heap ws ys bs -> PyData.canLayAll0 xs = true -> PyData.canLayAll0 ys = true -> PyData.depthAll xs <= 60 -> lexD f xs ys = some r -> LexAt A s vs ws r
 | [],ys,_,ws,_,_,r,ra,rb,_,_,_,h=> by
  cases ra
  have h: decide (0 < ys.length) = r:= Option.some.inj h
  have hl:= ReadsAll.length _ _ _ rb
  rw [<- h,<- hl];exact .nil _
 | x :: xs,[],_,_,_,_,r,ra,rb,_,_,_,h=> by
  cases rb
  cases ra
  rw [<- Option.some.inj (h: some false = some r)];exact .short _ _
 | x :: xs,y :: ys,_,_,_,_,r,ra,rb,ha,hb,hd,h=> by
  have ha': x.canLay0 = true /\ PyData.canLayAll0 xs = true:= by simpa [PyData.canLayAll0] using ha
  have hb': y.canLay0 = true /\ PyData.canLayAll0 ys = true:= by simpa [PyData.canLayAll0] using hb
  obtain ⟨d1,d2⟩:= depth_head hd
  cases ra with
  | cons r1 rs1=>
   cases rb with
   | cons r2 rs2=>
    have eq:= eqAt_reads x y A s _ _ _ _ r1 r2 ha'.1 hb'.1 (by have:= Nat.min_le_left x.depth y.depth;lia)
    have h: (if PyData.eqv x y then lexD f xs ys else f x y) = some r:= h
    cases e: PyData.eqv x y with
    | true=>
     rw [e] at h eq
     exact .eq eq (lexAt_reads hu hf xs ys _ _ _ _ r rs1 rs2 ha'.2 hb'.2 d2 h)
    | false=>
     rw [e] at h eq
     exact .lt eq (hf x y _ _ _ _ r r1 r2 ha'.1 hb'.1 d1 (by simpa using h))
theorem no_some {P: Prop} {r: Bool} (h: (none: Option Bool) = some r): P:= nomatch h
theorem ltAt_reads: ∀ (n: Nat) (A: Around) (s: Shared),A.units + n + 64 < cLine -> ∀ (x y: PyData) (v w: Value) (as bs: List Addr) (r: Bool),Reads s.heap v x as -> Reads s.heap w y bs -> x.canLay0 = true -> y.canLay0 = true -> x.depth <= 60 -> ltv n x y = some r -> LtAt A s v w r:= by
 intro n
 induction n with
 | zero=> intro A s hu x y v w as bs r _ _ _ _ _ h;cases h
 | succ n ih=>
  intro A s hu x y v w as bs r ra rb ha hb hd h
  have hu1: A.in1.units + n + 64 < cLine:= by show A.units + 1 + n + 64 < cLine;(exact ar_u13 hu)
  have hu2: A.in1.units + 64 < cLine:= by lia
  have hu0: A.units < cLine:= by exact ar_u13' hu
  cases ra with
  | int i t=>
   cases rb with
   | int j u=> rw [<- Option.some.inj (h: some (decide (i < j)) = some r)];exact .int i j t u
   | _=> exact no_some h
  | tuple h1 h2 h3 h4=>
   cases rb with
   | tuple k1 k2 k3 k4=>
    exact .tuples ⟨_,h1,h2,_,h3⟩ ⟨_,k1,k2,_,k3⟩ hu0 (lexAt_reads hu2 (fun x y v w as bs r r1 r2 c1 c2 d q=> ih A.in1 s hu1 x y v w as bs r r1 r2 c1 c2 d q) _ _ _ _ _ _ r h4 k4 ha hb (by simp only [PyData.depth] at hd;(exact Nat.le_of_succ_le hd)) h)
   | _=> exact no_some h
  | list h1 h2 h3 h4=>
   cases rb with
   | list k1 k2 k3 k4=>
    exact .lists ⟨_,h1,h2,_,h3⟩ ⟨_,k1,k2,_,k3⟩ hu0 (lexAt_reads hu2 (fun x y v w as bs r r1 r2 c1 c2 d q=> ih A.in1 s hu1 x y v w as bs r r1 r2 c1 c2 d q) _ _ _ _ _ _ r h4 k4 ha hb (by simp only [PyData.depth] at hd;(exact Nat.le_of_succ_le hd)) h)
   | _=> exact no_some h
  | _=> exact no_some h
end
section
variable {σ: Hp} {Q: V -> Hp -> Prop}
theorem lt_dat {a b: V} {d e: PyData} {r: Bool} (h1: Dat σ a d) (h2: Dat σ b e) (hd: d.depth <= 60) (hr: ltv 60 d e = some r) (q: Q (.bool r) σ): CmpS .Lt a b Q σ:= by
 refine CmpS.mk ?_
 intro prog w A s h₀ n va vb R ra rb hw
 obtain ⟨as,r1⟩:= h1.reads hw ra
 obtain ⟨bs,r2⟩:= h2.reads hw rb
 have hu: A.units <= 9000:= by have:= R.units;(exact ar_u2 this)
 exact ltAt_reads 60 A s (by show _ < 9900;lia) d e va vb as bs r r1 r2 h1.lay h2.lay hd hr prog w E0 (PV h₀ σ s Q) (PV.same' hw (.bool _) q)
noncomputable def ltI: List Int -> List Int -> Bool
 | [],ys=> decide (0 < ys.length)
 | _ :: _,[]=> false
 | x :: xs,y :: ys=> if x = y then ltI xs ys else decide (x < y)
theorem eqv_int (x y: Int): PyData.eqv (.int x) (.int y) = decide (x = y):= by simp [PyData.eqv];rfl
theorem lexD_ints (n: Nat): ∀ xs ys: List Int,lexD (ltv (n + 1)) (xs.map .int) (ys.map .int) = some (ltI xs ys)
 | [],ys=> by simp [lexD,ltI]
 | x :: xs,[]=> rfl
 | x :: xs,y :: ys=> by
  simp only [List.map_cons,lexD,ltI,eqv_int]
  by_cases h: x = y
  ·simp [h,lexD_ints n xs ys]
  ·rw [if_neg (by simpa using h),if_neg h];rfl
theorem dats_intsV (σ: Hp): ∀ xs: List Int,Dats σ (xs.map .int) (xs.map PyData.int)
 | []=> .nil
 | x :: xs=> .cons (.int x) (dats_intsV σ xs)
theorem depthAll_ints: ∀ xs: List Int,PyData.depthAll (xs.map PyData.int) <= 1
 | []=> by simp [PyData.depthAll]
 | x :: xs=> by have:= depthAll_ints xs;simp [PyData.depthAll,PyData.depth];(exact W.depthAll_ints xs)
theorem lt_tups {xs ys: List Int} (q: Q (.bool (ltI xs ys)) σ): opCmp .Lt (.tup (xs.map .int)) (.tup (ys.map .int)) Q σ:=
 lt_dat (d:= .tuple (xs.map .int)) (e:= .tuple (ys.map .int)) (.tup (dats_intsV σ xs)) (.tup (dats_intsV σ ys)) (by have:= depthAll_ints xs;simp only [PyData.depth];lia) (lexD_ints 58 xs ys) q
end
theorem sub_ri_reversed: isSubtype (.type "range_iterator") (.type "reversed") = pure false:= by rw [isSubtype_type];kernel_rfl
section
variable {prog: Program} {w: World} {A: Around} {E: Value -> Shared -> Prop} {s: Shared}
noncomputable def rriObj (n: Int): Obj:= { cls:= .type "range_iterator",data:= .fields #[rawInt (0 + (n - 1) * 1),rawInt n,rawInt (-1)] }
theorem call_range_reversed {r: Addr} {b: Int} {t u v: Tok} {Q: Value -> Shared -> Prop} (hr: IsRange s.heap r 0 b 1 t u v) (h0: 0 <= b) (h1: b <= 1000000)
  (h: Q (.ref s.heap.objs.size) { s with heap:= s.heap.push (rriObj b) }): wpAny (model prog w) A (call (.builtin "range.__reversed__") [.ref r]) Q E s:= by
 have hT: s.TypeIs (.ref r) "range":= ⟨_,hr,rfl⟩
 refine wpAny_call_entry F.slot_range_reversed hT F.entry_range_reversed ?_ (F.args_range_reversed_1 _)
 have hn: Builtin.Range.rangeSize 0 b 1 = b:= by
  unfold Builtin.Range.rangeSize;simp;(exact fun a=> Int.le_antisymm h0 a)
 have hsm: (Builtin.Range.rangeFitsLong 0 && Builtin.Range.rangeFitsLong b && Builtin.Range.rangeFitsLong 1 && Builtin.Range.rangeFitsLong (-1) && Builtin.Range.rangeFitsLong (0 - 1) && Builtin.Range.rangeFitsLong b) = true:= by
  unfold Builtin.Range.rangeFitsLong;simp;lia
 unfold Builtin.«range.__reversed__»
 refine wpAny_bind (wpAny_of_eq (a:= Value.ref r) rfl ?_)
 unfold Builtin.Range.rangeFields
 wp_walk
 rw [hn,hsm]
 exact wpAny_bind (wpAny_newObj_type (wpAny_pure ⟨_,rfl,h⟩))
theorem code_reversed_range {r: Addr} {b: Int} {t u v: Tok} {Q₁: Value -> Shared -> Prop} (hr: IsRange s.heap r 0 b 1 t u v) (h0: 0 <= b) (h1: b <= 1000000)
  (h: Q₁ (.ref s.heap.objs.size) { s with heap:= s.heap.push (rriObj b) }) :
  codeAny (model prog w) A (.call (.builtin "reversed.__new__") ⟨[.type "reversed",.ref r],[]⟩) (wants Q₁ E) s:= by
 have hT: s.TypeIs (.ref r) "range":= ⟨_,hr,rfl⟩
 refine codeAny_of_tree ?_
 show wpAny _ A.in1 (do checkBuiltinCall "reversed.__new__" ⟨[.type "reversed",.ref r],[]⟩;again (.builtin "reversed.__new__" ⟨[.type "reversed",.ref r],[]⟩)) _ _ s
 refine wpAny_bind (wpAny_of_eq (F.newCall_reversed_1 _) (wpAny_pure ⟨plainId_quiet F.plain_reversed_new _,codeAny_builtin F.entry_reversed_new ?_⟩))
 rw [Around.under_plainId F.plain_reversed_new _]
 unfold Builtin.«reversed.__new__»
 refine wpAny_bind (wpAny_of_eq (newClass_reversed _) ?_)
 refine wpAny_bind (wpAny_of_eq (a:= ()) (by first | rfl | kernel_rfl) ?_)
 refine wpAny_bind (wpAny_of_eq (a:= ()) (by first | rfl | kernel_rfl) ?_)
 refine wpAny_bind (wpAny_specialOf hT F.slot_range_reversed.lookup ?_)
 refine wpAny_bind (wpAny_of_eq (F.slot_range_reversed.bind _) ?_)
 show wpAny _ _ (if (Value.builtin "range.__reversed__" == Value.none) = true then _ else _) _ _ _
 rw [if_neg (show ¬ ((Value.builtin "range.__reversed__" == Value.none) = true) from Bool.false_ne_true)]
 refine wpAny_bind (wpAny_rule ?_)
 refine wpAny_bind (m:= runValue (.call (.builtin "range.__reversed__") ⟨[.ref r],[]⟩)) (show wpAny _ _ (call (.builtin "range.__reversed__") [.ref r]) _ _ _ from call_range_reversed hr h0 h1 ?_)
 first
 | exact wpAny_pure h
 | exact wpAny_bind (wpAny_pure (wpAny_pure h))
theorem call_reversed_range {r: Addr} {b: Int} {t u v: Tok} {Q: Value -> Shared -> Prop} (hr: IsRange s.heap r 0 b 1 t u v) (h0: 0 <= b) (h1: b <= 1000000)
  (h: Q (.ref s.heap.objs.size) { s with heap:= s.heap.push (rriObj b) }): wpAny (model prog w) A (call (.type "reversed") [.ref r]) Q E s:= by
 refine callType_other (U:= "range_iterator") (Q₁:= fun obj s₁=> obj = .ref s.heap.objs.size /\ s₁ = { s with heap:= s.heap.push (rriObj b) }) (by decide +kernel) F.create_reversed ⟨_,_,F.mro_reversed⟩ F.made_reversed sub_ri_reversed (F.typeCall_reversed_1 _) (code_reversed_range hr h0 h1 ⟨rfl,rfl⟩) ?_
 rintro obj s₁ ⟨rfl,rfl⟩
 exact ⟨⟨_,Heap.get?_push_size _ rfl,rfl⟩,h⟩
end
theorem CI.rev {c: Cfg} {p q: Pos} {x: Str} {e: Expr} {a: PE} (hn: x = "reversed") (hk: c.sc.lookup x = some .globalImplicit) (h: CE c e a) (hst: ∀ env,starEach [e] env = [(false,eval e env)]): CI c (.Call (.Name x p) [e] [] q) .rev a:= by
 subst hn
 refine ⟨fun _ _=> rfl,fun {prog w h₀ mg mb Φ n A s σ env own F P} X v=> ?_⟩
 have hces: CEs c [e] [a]:= .cons h .nil hst
 refine Call_Name rfl (load_glob X.G X.w X.f hk (by decide) (.inr ⟨X.NM.fr _ (by decide +kernel),(X.G.boot _ (by decide)).trans (BI.boot .reversed)⟩) ?_)
 refine PyProof.Rows.callWith_type (star_plain hces) (evalArgs_ces hces ?_)
 rw [hst env]
 refine Calls.spliced_cons (wpAny_mono (h X v) (fun v s₁=> PV.on fun x σ₁ rx st m₁ q=> Calls.spliced_nil ?_) fun _ _ f=> f)
 cases x with
 | rng r0 b0 c0=>
  obtain ⟨rfl,rfl,h0,h1,q⟩:= q
  obtain ⟨lr,t1,t2,t3,rfl,hr⟩:= rx.irng
  refine call_reversed_range hr h0 h1 ?_
  have it: ItRep (s₁.heap.push (rriObj b0)) (.ref s₁.heap.objs.size) [s₁.heap.objs.size] (.rng (b0 - 1) b0.toNat (-1)):= by
   refine ⟨_,rfl,rfl,?_⟩
   have e: (rriObj b0) = { cls:= .type "range_iterator",data:= .fields #[rawInt (b0 - 1),rawInt (b0.toNat: Nat),rawInt (-1)] }:= by
    unfold rriObj
    have e1: 0 + (b0 - 1) * 1 = b0 - 1:= by lia
    have e2: ((b0.toNat: Nat): Int) = b0:= by exact Int.toNat_of_nonneg h0
    rw [e1,e2]
   rw [e];exact Heap.get?_push_size _ rfl
  refine pyIter_self X.R.handled it ⟨σ₁,s₁,st,m₁,⟨Eq.refl _,Eq.refl _⟩,_,_,it,?_,fun b o e=> Heap.get?_push_of_some _ e,q⟩
  intro a m;simp at m;subst m;exact beside_one st.w (get_push_none _)
 | _=> exact q.elim
set_option tactic.hygienic true
section
variable {σ: Hp} {Q: V -> Hp -> Prop}
end
section
variable {c: Cfg} {p q: Pos}
end
set_option tactic.hygienic false
section
open PySem PySem.W PyProof.Rows PySem.SeqAt PySem.MeetsSeq PySem.MeetsSeq2 PySem.MeetsSeq3 PySem.SeqRoads2
open PySem.AutoSeq1 (wpAny_loadPart')
section
variable {prog: Program} {w: World} {A: Around} {R: Result -> Shared -> Prop}
noncomputable def bestObj (vs: List Value) (c: Nat): Obj:= { cls:= .type "list",dict:= none,data:= .seq vs.toArray c,slots:= #[] }
end
theorem argBest_le (gt: Nat -> Nat -> Bool): ∀ k,argBest gt k <= k
 | 0=> Nat.le_refl _
 | k + 1=> by unfold argBest;have:= argBest_le gt k;split <;> lia
end
noncomputable def Run (lt: Nat -> Nat -> Bool) (N: Nat) {α: Type}: KasT α -> (α -> Prop) -> Prop
 | .ret a,Q=> Q a
 | .ask i j k,Q=> i < N /\ j < N /\ Run lt N (k (lt i j)) Q
section
variable {lt: Nat -> Nat -> Bool} {N: Nat}
theorem Run.bind {α β: Type} {f: α -> KasT β} {Q: β -> Prop}: ∀ (t: KasT α),Run lt N t (fun a=> Run lt N (f a) Q) -> Run lt N (t.bind f) Q
 | .ret _,h=> h
 | .ask i j k,h=> ⟨h.1,h.2.1,Run.bind (k _) h.2.2⟩
noncomputable def R (lt: Nat -> Nat -> Bool) (a b: Nat): Prop:= lt b a = false /\ (lt a b = false -> a < b)
structure Weak (lt: Nat -> Nat -> Bool): Prop where
 asym: ∀ a b,lt a b = true -> lt b a = false
 neg: ∀ a b c,lt a c = true -> lt a b = true \/ lt b c = true
theorem Weak.irr (h: Weak lt) (a: Nat): lt a a = false:= by
 cases q: lt a a with
 | false=> rfl
 | true=> have:= h.asym _ _ q;rw [q] at this;cases this
theorem Weak.le (h: Weak lt) {a b c: Nat} (x: lt b a = false) (y: lt c b = false): lt c a = false:= by
 cases q: lt c a with
 | false=> rfl
 | true=>
  rcases h.neg c b a q with e | e
  ·rw [y] at e;cases e
  ·rw [x] at e;cases e
theorem Weak.rtrans (h: Weak lt) {a b c: Nat} (x: R lt a b) (y: R lt b c): R lt a c:= by
 refine ⟨h.le x.1 y.1,fun q=> ?_⟩
 have e1: lt a b = false:= h.le (a:= b) (b:= c) (c:= a) y.1 q
 have e2: lt b c = false:= h.le (a:= c) (b:= a) (c:= b) q x.1
 exact Nat.lt_trans (x.2 e1) (y.2 e2)
noncomputable def G (p: Array Nat) (i: Nat): Nat:= p.getD i 0
theorem G_some {p: Array Nat} {i: Nat} (h: i < p.size): p[i]? = some (G p i):= by
 unfold G;simp [h]
theorem G_rev {p: Array Nat} {i j: Nat} (hj: j <= p.size) {k: Nat} (hk: k < p.size): G (kas_rev p i j) k = if i <= k /\ k < j then G p (i + j - 1 - k) else G p k:= by
 have e:= getElem?_mirror_all (i:= i) hj k
 have s: (kas_rev p i j).size = p.size:= mirror_size ..
 have e2: (kas_rev p i j)[k]? = some (G (kas_rev p i j) k):= G_some (by exact Nat.lt_of_lt_of_eq hk (id (Eq.symm s)))
 unfold kas_rev at e2 ⊢
 rw [e2] at e
 split at e
 ·rename_i h;rw [if_pos h];rw [G_some (by exact ar_rv4 hj h)] at e;exact Option.some.inj e
 ·rename_i h;rw [if_neg h];rw [G_some hk] at e;exact Option.some.inj e
theorem G_bub {p: Array Nat} {src d: Nat} (hs: src < p.size) (hd: d <= src) {k: Nat} (hk: k < p.size): G (bubble p src d) k = if k = src - d then G p src else if src - d < k /\ k <= src then G p (k - 1) else G p k:= by
 have e:= getElem?_bubble hs d hd k
 have s: (bubble p src d).size = p.size:= bubble_size ..
 rw [G_some (p:= bubble p src d) (by exact Nat.lt_of_lt_of_eq hk (id (Eq.symm s)))] at e
 split at e
 ·rename_i h;rw [if_pos h];rw [G_some hs] at e;exact Option.some.inj e
 ·rename_i h;rw [if_neg h]
  split at e
  ·rename_i h2;rw [if_pos h2];rw [G_some (by exact Nat.sub_lt_of_lt hk)] at e;exact Option.some.inj e
  ·rename_i h2;rw [if_neg h2];rw [G_some hk] at e;exact Option.some.inj e
structure Pre (N: Nat) (p: Array Nat) (n: Nat): Prop where
 size: p.size = N
 perm: p.toList.Perm (List.range N)
 low: ∀ i,i < n -> G p i < n
 high: ∀ i,n <= i -> i < N -> G p i = i
 le: n <= N
theorem Pre.ltN {p: Array Nat} {n i: Nat} (h: Pre N p n) (hi: i < N): G p i < N:= by
 rcases Nat.lt_or_ge i n with q | q
 ·exact Nat.lt_of_lt_of_le (h.low i q) h.le
 ·rw [h.high i q hi];exact hi
theorem Pre.succ {p: Array Nat} {n: Nat} (h: Pre N p n) (hn: n < N): Pre N p (n + 1):= by
 refine ⟨h.size,h.perm,fun i hi=> ?_,fun i hi hN=> h.high i (by exact Nat.le_of_succ_le hi) hN,hn⟩
 rcases Nat.lt_or_ge i n with q | q
 ·exact Nat.lt_succ_of_lt (h.low i q)
 ·have: i = n:= by exact Nat.eq_of_le_of_lt_succ q hi
  subst this;rw [h.high i (Nat.le_refl _) hn];(exact Nat.lt_add_one i)
theorem Pre.rev {p: Array Nat} {n i: Nat} (h: Pre N p n): Pre N (kas_rev p i n) n:= by
 have hz:= h.size
 have hle:= h.le
 have s: (kas_rev p i n).size = p.size:= mirror_size ..
 refine ⟨by lia,(Array.perm_iff_toList_perm.mp (mirror_perm ..)).trans h.perm,fun k hk=> ?_,fun k hk hN=> ?_,h.le⟩
 ·rw [G_rev (by exact le_of_le_of_eq hle (id (Eq.symm hz))) (by exact ar_k11 hz hle hk)];split
  ·exact h.low _ (by (expose_names;exact ar_rv2 h_1))
  ·exact h.low _ hk
 ·rw [G_rev (by exact le_of_le_of_eq hle (id (Eq.symm hz))) (by exact Nat.lt_of_lt_of_eq hN (id (Eq.symm hz))),if_neg (by lia)];exact h.high k hk hN
noncomputable def Up (lt: Nat -> Nat -> Bool) (p: Array Nat) (n: Nat): Prop:= ∀ i j,i < j -> j < n -> R lt (G p i) (G p j)
noncomputable def Dn (lt: Nat -> Nat -> Bool) (p: Array Nat) (n q: Nat): Prop:= ∀ i j,i < j -> j < n -> if n <= i + (q + 1) then lt (G p i) (G p j) = false /\ R lt (G p i) (G p j) else R lt (G p j) (G p i) /\ (n <= j + (q + 1) -> lt (G p j) (G p i) = true)
noncomputable def Dw (lt: Nat -> Nat -> Bool) (p: Array Nat) (n: Nat): Prop:= ∀ i j,i < j -> j < n -> R lt (G p j) (G p i)
theorem Dn.w {p: Array Nat} {n: Nat} (d: Dn lt p n 0): Dw lt p n:= fun i j hij hj=> by
 have:= d i j hij hj;rw [if_neg (by lia)] at this;exact this.1
theorem up_rev {p: Array Nat} {n: Nat} (h: n <= p.size) (d: Dw lt p n): Up lt (kas_rev p 0 n) n:= by
 intro i j hij hj
 rw [G_rev h (by exact ar_k10 h hij hj),G_rev h (by exact Nat.lt_of_lt_of_le hj h),if_pos (by exact ar_k9 hij hj),if_pos (by exact if_false_right.mp hj)]
 exact d (0 + n - 1 - j) (0 + n - 1 - i) (by exact ar_rv hij hj) (by exact ar_rv5 hij hj)
theorem dw_rev {p: Array Nat} {n: Nat} (h: n <= p.size) (u: Up lt p n) (e: ∀ i j,i < j -> j < n -> lt (G p i) (G p j) = false): Dw lt (kas_rev p 0 n) n:= by
 intro i j hij hj
 rw [G_rev h (by exact Nat.lt_of_lt_of_le hj h),G_rev h (by exact ar_k10 h hij hj),if_pos (by exact if_false_right.mp hj),if_pos (by exact ar_k9 hij hj)]
 exact u (0 + n - 1 - j) (0 + n - 1 - i) (by exact ar_rv hij hj) (by exact ar_rv5 hij hj)
theorem asc_ok (W: Weak lt) {p: Array Nat}: ∀ (f n: Nat) {Q: Nat -> Prop},1 <= n -> n + f = N -> Pre N p n -> Up lt p n -> (∀ m,n <= m -> m <= N -> Pre N p m -> Up lt p m -> (m = N \/ lt (G p m) (G p (m - 1)) = true) -> Q m) -> Run lt N (kas_asc p f n) Q
 | 0,n,Q,h1,hf,hp,hu,q=> q n (Nat.le_refl _) (by exact hp.le) hp hu (.inl (by exact Nat.add_right_cancel hf))
 | f + 1,n,Q,h1,hf,hp,hu,q=> by
  refine ⟨hp.ltN (by exact ar_f3 hf rfl),hp.ltN (by exact ar_f1 hf),?_⟩
  show Run lt N (if lt (G p n) (G p (n - 1)) = true then _ else _) Q
  split
  ·rename_i c;exact q n (Nat.le_refl _) (by exact hp.le) hp hu (.inr c)
  ·rename_i c
   have c: lt (G p n) (G p (n - 1)) = false:= by simpa using c
   have hp':= hp.succ (by exact ar_f3 hf rfl)
   refine asc_ok W f (n + 1) (by exact Nat.le_add_right_of_le h1) (by lia) hp' (fun i j hij hj=> ?_) fun m a b d e g=> q m (by exact Nat.le_of_succ_le a) b d e g
   have last: R lt (G p (n - 1)) (G p n):= ⟨c,fun _=> by rw [hp.high n (Nat.le_refl _) (by exact ar_f3 hf rfl)];exact hp.low _ (by exact Nat.sub_one_lt_of_lt h1)⟩
   rcases Nat.lt_or_ge j n with hjn | hjn
   ·exact hu i j hij hjn
   ·have: j = n:= by exact Nat.eq_of_le_of_lt_succ hjn hj
    subst this
    rcases Nat.lt_or_ge i (j - 1) with hi | hi
    ·exact W.rtrans (hu i (j - 1) hi (by exact Nat.sub_one_lt_of_lt hij)) last
    ·have: i = j - 1:= by exact ar_pl7 hij hi
     subst this;exact last
theorem dn_rev {p: Array Nat} {n q: Nat} (h: n <= p.size) (hq: q + 1 <= n) (d: Dn lt p n q): Dw lt (kas_rev p (n - (q + 1)) n) n:= by
 intro i j hij hj
 rw [G_rev h (by exact Nat.lt_of_lt_of_le hj h),G_rev h (by exact ar_k10 h hij hj)]
 by_cases hi: n - (q + 1) <= i
 ·rw [if_pos ⟨by lia,by exact Nat.lt_of_succ_le hj⟩,if_pos ⟨by exact String.Pos.Raw.mk_le_mk.mp hi,by exact Nat.lt_trans hij hj⟩]
  have:= d (n - (q + 1) + n - 1 - j) (n - (q + 1) + n - 1 - i) (by exact ar_rv hij hj) (by exact ar_rv3 hq hi)
  rw [if_pos (by exact ar_rv6 hq hj)] at this
  exact this.2
 ·rw [if_neg (by (exact not_and.mpr fun a a_1=> hi a): ¬ (n - (q + 1) <= i /\ i < n))]
  split
  ·have:= d i (n - (q + 1) + n - 1 - j) (by exact ar_rv7 hj hi) (by (expose_names;exact ar_rv2 h_1))
   rw [if_neg (by exact ar_rv8 hi)] at this;exact this.1
  ·have:= d i j hij hj
   rw [if_neg (by exact ar_rv8 hi)] at this;exact this.1
theorem R.of_lt (W: Weak lt) {a b: Nat} (h: lt a b = true): R lt a b:= ⟨W.asym _ _ h,fun e=> by rw [h] at e;cases e⟩
theorem Weak.lt_le (W: Weak lt) {a b c: Nat} (x: lt a b = true) (y: lt c b = false): lt a c = true:= by
 rcases W.neg a c b x with e | e
 ·exact e
 ·rw [y] at e;cases e
theorem dn_more (W: Weak lt) {p: Array Nat} {n: Nat} (h1: 1 <= n) (d: Dw lt p n) (c: lt (G p n) (G p (n - 1)) = true): Dn lt p (n + 1) 0:= by
 intro i j hij hj
 rw [if_neg (by lia)]
 rcases Nat.lt_or_ge j n with hjn | hjn
 ·exact ⟨d i j hij hjn,fun h=> by lia⟩
 ·have: j = n:= by exact Nat.eq_of_le_of_lt_succ hjn hj
  subst this
  have s: lt (G p j) (G p i) = true:= by
   rcases Nat.lt_or_ge i (j - 1) with hi | hi
   ·exact W.lt_le c (d i (j - 1) hi (by exact Nat.sub_one_lt_of_lt hij)).1
   ·have: i = j - 1:= by exact ar_pl7 hij hi
    subst this;exact c
  exact ⟨R.of_lt W s,fun _=> s⟩
theorem desc_ok (W: Weak lt): ∀ (f: Nat) (p: Array Nat) (n q: Nat) {Q: Array Nat × Nat × Nat -> Prop},q + 1 <= n -> n + f = N -> Pre N p n -> Dn lt p n q ->
  (∀ p' n' q',q' + 1 <= n' -> n' <= N -> Pre N p' n' -> Dn lt p' n' q' -> Q (p',n',q')) -> Run lt N (kas_desc f p n q) Q
 | 0,p,n,q,Q,h1,hf,hp,hd,k=> k p n q h1 (by exact hp.le) hp hd
 | f + 1,p,n,q,Q,h1,hf,hp,hd,k=> by
  have hz:= hp.size
  refine ⟨hp.ltN (by exact ar_f3 hf rfl),hp.ltN (by exact ar_f1 hf),?_⟩
  show Run lt N (if lt (G p n) (G p (n - 1)) = true then _ else _) Q
  split
  ·rename_i c
   split
   ·have hp1:= hp.rev (i:= n - (q + 1))
    have hd1:= dn_rev (by exact ar_k16 hf hz) h1 hd
    have e1: G (kas_rev p (n - (q + 1)) n) n = G p n:= by rw [G_rev (by exact ar_k16 hf hz) (by exact ar_f3 hf hz),if_neg (by lia)]
    have e2: G (kas_rev p (n - (q + 1)) n) (n - 1) = G p (n - (q + 1)):= by
     rw [G_rev (by exact ar_k16 hf hz) (by exact ar_f2 hf hz),if_pos (by exact ar_ps14 h1)];congr 1;(exact ar_ps15 h1)
    have c1: lt (G p n) (G p (n - (q + 1))) = true:= by
     rcases Nat.lt_or_ge (n - (q + 1)) (n - 1) with hh | hh
     ·have:= hd (n - (q + 1)) (n - 1) hh (by exact Nat.sub_one_lt_of_lt h1)
      rw [if_pos (by exact ar_ps12)] at this
      rcases W.neg _ (G p (n - (q + 1))) _ c with e | e
      ·exact e
      ·rw [this.1] at e;cases e
     ·have: n - (q + 1) = n - 1:= by exact ar_ps13 hh
      rw [this];exact c
    exact desc_ok W f _ (n + 1) 0 (by exact Nat.le_add_left (0 + 1) n) (by lia) (hp1.succ (by exact ar_f3 hf rfl)) (dn_more W (by exact Nat.one_le_of_lt h1) hd1 (by rw [e1,e2];exact c1)) k
   ·have: q = 0:= by (expose_names;exact Nat.eq_zero_of_not_pos h)
    subst this
    exact desc_ok W f _ (n + 1) 0 (by exact Nat.le_add_right_of_le h1) (by lia) (hp.succ (by exact ar_f3 hf rfl)) (dn_more W (by exact Nat.one_le_of_lt h1) hd.w c) k
  ·rename_i c
   have c: lt (G p n) (G p (n - 1)) = false:= by simpa using c
   refine ⟨hp.ltN (by exact ar_f1 hf),hp.ltN (by exact ar_f3 hf rfl),?_⟩
   show Run lt N (if lt (G p (n - 1)) (G p n) = true then _ else _) Q
   split
   ·exact k p n q h1 (by exact hp.le) hp hd
   ·rename_i c2
    have c2: lt (G p (n - 1)) (G p n) = false:= by simpa using c2
    refine desc_ok W f _ (n + 1) (q + 1) (by exact Nat.add_le_add_right h1 1) (by lia) (hp.succ (by exact ar_f3 hf rfl)) (fun i j hij hj=> ?_) k
    have new: ∀ i,i < n -> lt (G p (n - 1)) (G p i) = false -> lt (G p i) (G p (n - 1)) = false -> lt (G p i) (G p n) = false /\ R lt (G p i) (G p n):= fun i hi a b=>
     ⟨W.le (a:= G p n) (b:= G p (n - 1)) (c:= G p i) c2 b,W.le (a:= G p i) (b:= G p (n - 1)) (c:= G p n) a c,fun _=> by rw [hp.high n (Nat.le_refl _) (by exact ar_f3 hf rfl)];exact hp.low i hi⟩
    rcases Nat.lt_or_ge j n with hjn | hjn
    ·have:= hd i j hij hjn
     by_cases hi: n <= i + (q + 1)
     ·rw [if_pos hi] at this;rw [if_pos (by exact Nat.add_le_add_right hi 1)];exact this
     ·rw [if_neg hi] at this;rw [if_neg (by exact ar_k15 hi)];exact ⟨this.1,fun h=> this.2 (by exact Nat.le_of_lt_succ h)⟩
    ·have: j = n:= by exact Nat.eq_of_le_of_lt_succ hjn hj
     subst this
     by_cases hi: j <= i + (q + 1)
     ·rw [if_pos (by exact Nat.add_le_add_right hi 1)]
      rcases Nat.lt_or_ge i (j - 1) with h | h
      ·have:= hd i (j - 1) h (by exact Nat.sub_one_lt_of_lt hij)
       rw [if_pos hi] at this
       exact new i hij this.2.1 this.1
      ·have: i = j - 1:= by exact ar_pl7 hij h
       subst this
       exact new _ hij (W.irr _) (W.irr _)
     ·rw [if_neg (by exact ar_k15 hi)]
      have:= hd i (j - 1) (by exact ar_ps9 hi) (by exact Nat.sub_one_lt_of_lt hij)
      rw [if_neg hi] at this
      have s: lt (G p j) (G p i) = true:= by
       rcases W.neg _ (G p j) _ (this.2 (by exact ar_ps10)) with e | e
       ·rw [c2] at e;cases e
       ·exact e
      exact ⟨R.of_lt W s,fun _=> s⟩
theorem tail3_ok (W: Weak lt) {p: Array Nat} {n: Nat} {Q: Nat × Array Nat -> Prop} (h1: 1 <= n) (hp: Pre N p n) (d: Dw lt p n) (q: ∀ m p',1 <= m -> m <= N -> Pre N p' m -> Up lt p' m -> Q (m,p')): Run lt N (kas_tail3 n N p) Q:= by
 have hz:= hp.size
 have hl:= hp.le
 exact Run.bind _ (asc_ok W (N - n) n h1 (by exact Nat.add_sub_of_le hl) hp.rev (up_rev (by exact le_of_le_of_eq hl (id (Eq.symm hz))) d) fun m a b c e _=> q m _ (by exact Nat.le_trans h1 a) b c e)
theorem descPart_ok (W: Weak lt) {p: Array Nat} {n: Nat} {Q: Nat × Array Nat -> Prop} (h1: 1 <= n) (hn: n < N) (hp: Pre N p n) (d: Dw lt p n) (c: lt (G p n) (G p (n - 1)) = true) (q: ∀ m p',1 <= m -> m <= N -> Pre N p' m -> Up lt p' m -> Q (m,p')): Run lt N (kas_descPart n N p) Q:= by
 refine Run.bind _ (desc_ok W (N - (n + 1)) p (n + 1) 0 (by exact Nat.le_add_right_of_le h1) (by exact Nat.add_sub_of_le hn) (hp.succ hn) (dn_more W h1 d c) fun p' n' q' a b e g=> ?_)
 have hz:= e.size
 dsimp only
 split
 ·exact tail3_ok W (by exact Nat.one_le_of_lt a) e.rev (dn_rev (by exact le_of_le_of_eq b (id (Eq.symm hz))) a g) q
 ·have: q' = 0:= by (expose_names;exact Nat.eq_zero_of_not_pos h)
  subst this
  exact tail3_ok W (by exact Nat.one_le_of_lt a) e g.w q
theorem count_ok (W: Weak lt) {p: Array Nat} {Q: Nat × Array Nat -> Prop} (h1: 1 <= N) (hp: Pre N p 1) (q: ∀ m p',1 <= m -> m <= N -> Pre N p' m -> Up lt p' m -> Q (m,p')): Run lt N (kas_count N p) Q:= by
 refine Run.bind _ (asc_ok W (N - 1) 1 (Nat.le_refl _) (by exact Nat.add_sub_of_le h1) hp (fun i j hij hj=> by lia) fun m a b c e g=> ?_)
 have hz:= hp.size
 split
 ·exact q m p a b c e
 ·rename_i hm
  have hm: m ≠ N:= by simpa using hm
  rcases g with g | g
  ·exact absurd g hm
  split
  ·refine ⟨c.ltN (by exact Nat.zero_lt_of_lt h1),c.ltN (by exact Nat.sub_one_lt_of_le a b),?_⟩
   show Run lt N (if lt (G p 0) (G p (m - 1)) = true then _ else _) Q
   split
   ·exact q m p a b c e
   ·rename_i c0
    have c0: lt (G p 0) (G p (m - 1)) = false:= by simpa using c0
    have le0: ∀ i,i < m -> lt (G p i) (G p 0) = false:= fun i hi=> by
     rcases Nat.eq_zero_or_pos i with h | h
     ·subst h;exact W.irr _
     ·exact (e 0 i h hi).1
    have le1: ∀ i,i < m -> lt (G p (m - 1)) (G p i) = false:= fun i hi=> by
     rcases Nat.lt_or_ge i (m - 1) with h | h
     ·exact (e i (m - 1) h (by exact Nat.sub_one_lt_of_lt a)).1
     ·have: i = m - 1:= by exact ar_pl7 hi h
      subst this;exact W.irr _
    have all: ∀ i j,i < j -> j < m -> lt (G p i) (G p j) = false:= fun i j hij hj=> by
     have x: lt (G p 0) (G p j) = false:= W.le (a:= G p j) (b:= G p (m - 1)) (c:= G p 0) (le1 j hj) c0
     exact W.le (a:= G p j) (b:= G p 0) (c:= G p i) x (le0 i (by exact Nat.lt_trans hij hj))
    refine descPart_ok W (by exact Nat.one_le_of_lt a) (by exact Nat.lt_of_le_of_ne b hm) c.rev (dw_rev (by exact le_of_le_of_eq b (id (Eq.symm hz))) e all) ?_ q
    rw [G_rev (by exact le_of_le_of_eq b (id (Eq.symm hz))) (by (expose_names;exact ar_k17 b hz hm_1)),if_neg (by lia),G_rev (by exact le_of_le_of_eq b (id (Eq.symm hz))) (by exact ar_x2 hz a b),if_pos (by exact ar_x3 a)]
    have e2: 0 + m - 1 - (m - 1) = 0:= by lia
    rw [e2]
    exact W.lt_le g c0
  ·have: m = 1:= by (expose_names;exact Eq.symm (ar_k24 a h))
   subst this
   exact descPart_ok W (by exact Nat.one_le_of_lt a) (by exact Nat.lt_of_le_of_ne h1 hm) c (fun i j hij hj=> by lia) g q
theorem place_ok (W: Weak lt) {p: Array Nat} {k: Nat} (hp: Pre N p k) (hk: k < N) (u: Up lt p k): ∀ (f l r: Nat) {Q: Nat -> Prop},l <= r -> r <= k -> r <= l + f -> (∀ i,i < l -> lt (G p k) (G p i) = false) -> (∀ i,r <= i -> i < k -> lt (G p k) (G p i) = true) ->
  (∀ m,m <= k -> (∀ i,i < m -> lt (G p k) (G p i) = false) -> (∀ i,m <= i -> i < k -> lt (G p k) (G p i) = true) -> Q m) -> Run lt N (kas_place p k f l r) Q
 | 0,l,r,Q,h1,h2,h3,a,b,q=> q l (by exact Nat.le_trans h1 h2) a fun i hi=> b i (by exact Nat.le_trans h3 hi)
 | f + 1,l,r,Q,h1,h2,h3,a,b,q=> by
  show Run lt N (if l >= r then _ else _) Q
  split
  ·exact q l (by exact Nat.le_trans h1 h2) a fun i hi=> b i (by (expose_names;exact Nat.le_trans h hi))
  ·refine ⟨hp.ltN (by exact Nat.lt_of_succ_le hk),hp.ltN (by (expose_names;exact ar_p3 hk h2 h)),?_⟩
   show Run lt N (if lt (G p k) (G p ((l + r) / 2)) = true then _ else _) Q
   split
   ·rename_i c
    refine place_ok W hp hk u f l ((l + r) / 2) (by (expose_names;exact ar_p2 h)) (by lia) (by (expose_names;exact ar_p5 h3 h)) a (fun i hi hik=> ?_) q
    rcases Nat.lt_or_ge ((l + r) / 2) i with h | h
    ·exact W.lt_le c (u ((l + r) / 2) i h hik).1
    ·have: i = (l + r) / 2:= by exact Nat.le_antisymm h hi
     subst this;exact c
   ·rename_i c
    have c: lt (G p k) (G p ((l + r) / 2)) = false:= by simpa using c
    refine place_ok W hp hk u f ((l + r) / 2 + 1) r (by lia) (by exact String.Pos.Raw.mk_le_mk.mp h2) (by (expose_names;exact ar_p6 h h3)) (fun i hi=> ?_) b q
    rcases Nat.lt_or_ge i ((l + r) / 2) with h | h
    ·exact W.le (a:= G p i) (b:= G p ((l + r) / 2)) (c:= G p k) (u i _ h (by (expose_names;exact ar_p4 h2 h_1))).1 c
    ·have: i = (l + r) / 2:= by exact Nat.eq_of_le_of_lt_succ h hi
     subst this;exact c
theorem bin_ok (W: Weak lt) {M: Nat} (hM: M <= N): ∀ (f: Nat) (p: Array Nat) (k: Nat) {Q: Array Nat -> Prop},k + f = M -> Pre N p k -> Up lt p k -> (∀ p',Pre N p' M -> Up lt p' M -> Q p') -> Run lt N (kas_bin f p k) Q
 | 0,p,k,Q,hf,hp,u,q=> by
  have: k = M:= by exact Nat.add_right_cancel hf
  subst this;exact q p hp u
 | f + 1,p,k,Q,hf,hp,u,q=> by
  have hz:= hp.size
  have hk: k < N:= by exact ar_k7 hM hf
  refine Run.bind _ (place_ok W hp hk u k 0 k (Nat.zero_le _) (Nat.le_refl _) (by exact Nat.le_add_left k 0) (fun i hi=> by lia) (fun i hi hik=> by lia) fun m hm a b=> ?_)
  have gb: ∀ x,x < N -> G (bubble p k (k - m)) x = if x = m then G p k else if m < x /\ x <= k then G p (x - 1) else G p x:= fun x hx=> by
   rw [G_bub (by exact Nat.lt_of_lt_of_eq hk (id (Eq.symm hz))) (by exact Nat.sub_le k m) (by exact Nat.lt_of_lt_of_eq hx (id (Eq.symm hz)))]
   have: k - (k - m) = m:= by exact Nat.sub_sub_self hm
   rw [this]
  have gk: G p k = k:= hp.high k (Nat.le_refl _) hk
  refine bin_ok W hM f _ (k + 1) (by lia) ⟨by rw [bubble_size];exact hz,(Array.perm_iff_toList_perm.mp (bubble_perm ..)).trans hp.perm,fun i hi=> ?_,fun i hi hN=> ?_,by exact Nat.succ_le_of_lt hk⟩ (fun i j hij hj=> ?_) q
  ·rw [gb i (by exact Nat.lt_of_lt_of_le hi hk)];split
   ·(exact ar_f3 (congrFun rfl (0 + 1)) (congrFun (congrArg HAdd.hAdd (id (Eq.symm gk))) 1))
   ·split
    ·exact Nat.lt_succ_of_lt (hp.low _ (by (expose_names;exact ar_ps4 h_1)))
    ·exact Nat.lt_succ_of_lt (hp.low _ (by (expose_names;exact ar_ps5 hm hi h h_1)))
  ·rw [gb i hN,if_neg (by exact ar_k6 hm hi),if_neg (by exact ar_k5 hi)];exact hp.high i (by exact Nat.le_of_succ_le hi) hN
  ·rw [gb i (by exact ar_k4 hM hf hij hj),gb j (by exact Nat.lt_of_lt_of_le hj hk)]
   by_cases hjm: j = m
   ·rw [if_neg (by lia: ¬ i = m),if_neg (by (exact ar_k8 hij hjm): ¬ (m < i /\ i <= k)),if_pos hjm]
    exact ⟨a i (by exact Nat.lt_of_lt_of_eq hij hjm),fun _=> by rw [gk];exact hp.low i (by lia)⟩
   ·rw [if_neg hjm]
    by_cases him: i = m
    ·rw [if_pos him,if_pos (by exact ar_k1 hij hj him)]
     exact R.of_lt W (b (j - 1) (by exact ar_ps8 hij him) (by exact ar_ps3 hij hj))
    ·rw [if_neg him]
     by_cases h1: m < i
     ·rw [if_pos (by exact ar_ps6 hij hj h1),if_pos (by exact ar_ps7 hij hj h1)];exact u _ _ (by exact ar_ps h1 hij) (by exact ar_ps3 hij hj)
     ·rw [if_neg (by exact not_and.mpr fun a a_1=> h1 a)]
      by_cases h2: m < j
      ·rw [if_pos (by exact ar_k2 hj h2)];exact u _ _ (by exact ar_ps2 him h1 h2) (by exact ar_ps3 hij hj)
      ·rw [if_neg (by exact not_and.mpr fun a a_1=> h2 a)];exact u _ _ hij (by exact ar_k3 hm hjm h2)
end
section
variable {prog: Program} {w: World} {A: Around} {E: Value -> Shared -> Prop} {s: Shared} {κ: SortKind} {it: Array Keyed} {X: Array Keyed} {pend: Array (Nat × Nat × Nat)} {g: Nat} {lt: Nat -> Nat -> Bool} {N: Nat}
noncomputable def ost (κ: SortKind) (X: Array Keyed) (it: Array Keyed) (pend: Array (Nat × Nat × Nat)) (g: Nat) (q: Array Nat): SortSt:= SortSt.mk' κ (X ++ q.map (kas_item it)) pend g none
noncomputable def Asks (prog: Program) (w: World) (A: Around) (s: Shared) (κ: SortKind) (it: Array Keyed) (lt: Nat -> Nat -> Bool) (N: Nat): Prop:= ∀ (i j: Nat) (C: Bool -> Shared -> Prop),i < N -> j < N -> C (lt i j) s -> kas_cmp prog w A κ it i j C s
theorem wpS_cmp (hA: Asks prog w A s κ it lt N) {i j: Nat} (hi: i < N) (hj: j < N) {st: SortSt} (hk: kindOf st = κ) {Q: Option Bool -> SortSt -> Prop} (h: Q (some (lt i j)) st): wpS (model prog w) A E s (lt' (kas_item it i) (kas_item it j)) Q st:= by
 rw [lt'_eq]
 refine wpS_bind (wpS_get ?_)
 rw [hk]
 refine wpS_bind (wpS_lift (wpAny_attempt ?_))
 have:= hA i j (fun b s'=> s' = s /\ b = lt i j) hi hj ⟨rfl,rfl⟩
 exact wpAny_mono this (fun b s' hb=> ⟨hb.1,by obtain ⟨_,rfl⟩:= hb;exact wpS_pure h⟩) fun _ _ f=> f.elim
theorem ost_get {q: Array Nat} {i lo: Nat} (hlo: X.size = lo) (hi: i < q.size): (X ++ q.map (kas_item it))[lo + i]? = some (kas_item it (G q i)):= by
 subst hlo
 rw [Array.getElem?_append_right (by exact Nat.le_add_right X.size i),Nat.add_sub_cancel_left,Array.getElem?_map,G_some hi];rfl
theorem wpS_at (hA: Asks prog w A s κ it lt N) {q: Array Nat} {i j a b lo: Nat} (hlo: X.size = lo) (ea: a = lo + i) (eb: b = lo + j) (hi: i < q.size) (hj: j < q.size) (hi': G q i < N) (hj': G q j < N) {Q: Option Bool -> SortSt -> Prop}
  (h: Q (some (lt (G q i) (G q j))) (ost κ X it pend g q)): wpS (model prog w) A E s (ltAt' a b) Q (ost κ X it pend g q):= by
 subst ea eb
 rw [ltAt'_eq]
 refine wpS_bind (wpS_get ?_)
 show wpS _ _ _ _ (do let x <- elem' (X ++ q.map (kas_item it)) (lo + i);let y <- elem' (X ++ q.map (kas_item it)) (lo + j);lt' x y) Q _
 rw [elem'_eq,elem'_eq,ost_get hlo hi,ost_get hlo hj]
 exact wpS_bind (wpS_pure (wpS_bind (wpS_pure (wpS_cmp hA hi' hj' rfl h))))
theorem mirror_mid (X q: Array Keyed) {i j lo: Nat} (hlo: X.size = lo) (hj: j <= q.size): mirror (X ++ q) (lo + i) (lo + j) ((j - i) / 2) = X ++ mirror q i j ((j - i) / 2):= by
 subst hlo
 apply Array.ext_getElem?
 intro k
 have e1: (j - i) / 2 = (X.size + j - (X.size + i)) / 2:= by congr 1;(exact Eq.symm (Nat.add_sub_add_left X.size j i))
 rw [e1,getElem?_mirror_all (by simp;(exact String.Pos.Raw.mk_le_mk.mp hj)),<- e1,Array.getElem?_append,Array.getElem?_append,Array.getElem?_append,getElem?_mirror_all hj]
 rcases Nat.lt_or_ge k X.size with h1 | h1
 ·rw [if_neg (by lia),if_pos h1,if_pos h1]
 ·by_cases h3: X.size + i <= k /\ k < X.size + j
  ·rw [if_pos h3,if_neg (by exact ar_mid4 h3),if_neg (by exact Nat.not_lt.mpr h1),if_pos (by exact ar_mid1 h1 h3)]
   congr 1;(exact ar_mid5 h1 h3)
  ·rw [if_neg h3,if_neg (by exact Nat.not_lt.mpr h1),if_neg (by exact Nat.not_lt.mpr h1),if_neg (by exact ar_mid2 h1 h3)]
theorem kas_rev_map (it: Array Keyed) (q: Array Nat) (i j: Nat): (kas_rev q i j).map (kas_item it) = mirror (q.map (kas_item it)) i j ((j - i) / 2):= by
 unfold kas_rev mirror
 exact (kas_swaps_map (kas_item it) _ _ _ _).symm
theorem wpS_rev {q: Array Nat} {i j a b lo: Nat} (hlo: X.size = lo) (ea: a = lo + i) (eb: b = lo + j) (hj: j <= q.size) {Q: Unit -> SortSt -> Prop} (h: Q () (ost κ X it pend g (kas_rev q i j))): wpS (model prog w) A E s (reverseSlice' a b) Q (ost κ X it pend g q):= by
 subst ea eb
 rw [reverseSlice'_eq]
 refine wpS_modify ?_
 have e1: (lo + j - (lo + i)) / 2 = (j - i) / 2:= by congr 1;(exact Nat.add_sub_add_left lo j i)
 have e: setArr (ost κ X it pend g q) (mirror (arrOf (ost κ X it pend g q)) (lo + i) (lo + j) ((lo + j - (lo + i)) / 2)) = ost κ X it pend g (kas_rev q i j):= by
  show SortSt.mk' κ (mirror (X ++ q.map (kas_item it)) (lo + i) (lo + j) ((lo + j - (lo + i)) / 2)) pend g none = SortSt.mk' κ _ pend g none
  rw [e1,mirror_mid X _ hlo (by simpa using hj),<- kas_rev_map]
 rw [e];exact h
end
section
variable {prog: Program} {w: World} {A: Around} {E: Value -> Shared -> Prop} {s: Shared} {κ: SortKind} {it: Array Keyed} {X: Array Keyed} {pend: Array (Nat × Nat × Nat)} {g: Nat} {lt: Nat -> Nat -> Bool} {N lo: Nat}
theorem Run.unbind {α β: Type} {f: α -> KasT β} {Q: β -> Prop}: ∀ (t: KasT α),Run lt N (t.bind f) Q -> Run lt N t (fun a=> Run lt N (f a) Q)
 | .ret _,h=> h
 | .ask i j k,h=> ⟨h.1,h.2.1,Run.unbind (k _) h.2.2⟩
theorem wpS_ascO (hA: Asks prog w A s κ it lt N) (hlo: X.size = lo) {q: Array Nat} (hq: q.size = N) {a nrem: Nat} (h1: 1 <= a) (hn: nrem <= N) {Q: Nat -> Prop} {R: AscSt -> SortSt -> Prop} (h: Run lt N (kas_asc q (nrem - a) a) Q)
  (k: ∀ m,a <= m -> m <= max a nrem -> Q m -> R (none,m) (ost κ X it pend g q)) {f: Nat -> AscSt -> StateT SortSt Sem (ForInStep AscSt)}
  (hf: ∀ x c,f x c = (do
   let x <- ltAt' (lo + c.snd) (lo + c.snd - 1)
   match x with
   | some smaller=> if smaller = true then pure (ForInStep.done (none,c.snd)) else pure (ForInStep.yield (none,c.snd + 1))
   | _=> pure (ForInStep.done (some none,c.snd)))): wpS (model prog w) A E s (forIn [a:nrem] ((none,a): AscSt) f) R (ost κ X it pend g q):= by
 refine wpS_forRange (I:= fun x c st=> c = (none,x) /\ st = ost κ X it pend g q /\ x <= max a nrem /\ Run lt N (kas_asc q (nrem - x) x) Q) ?_ ?_ ⟨rfl,rfl,by exact Nat.le_max_left a nrem,h⟩
 ·rintro x c st hx hx2 ⟨rfl,rfl,_,h⟩
  rw [hf]
  obtain ⟨r,hr⟩: ∃ r,nrem - x = r + 1:= ⟨nrem - x - 1,by exact ar_pred hx2⟩
  rw [hr] at h
  obtain ⟨b1,b2,h⟩:= h
  refine wpS_bind (wpS_at (i:= x) (j:= x - 1) hA hlo rfl (by show lo + x - 1 = _;(exact ar_assoc h1 hx)) (by exact ar_k11 hq hn hx2) (by exact ar_x1 hq h1 hn hx hx2) b1 b2 ?_)
  dsimp only
  have h: Run lt N (if lt (G q x) (G q (x - 1)) = true then KasT.ret x else kas_asc q r (x + 1)) Q:= h
  split
  ·rename_i c;rw [if_pos c] at h
   exact wpS_pure (k x hx (by (expose_names;exact String.Pos.Raw.mk_le_mk.mp left)) h)
  ·rename_i c;rw [if_neg c] at h
   refine wpS_pure ⟨rfl,rfl,by lia,?_⟩
   rw [show nrem - (x + 1) = r by exact ar_step hr];exact h
 ·rintro c st ⟨rfl,rfl,_,h⟩
  rw [show nrem - max a nrem = 0 by exact ar_max] at h
  exact k _ (by exact Nat.le_max_left a nrem) (by exact Nat.le_refl (max a nrem)) h
theorem wpS_descO (hA: Asks prog w A s κ it lt N) (hlo: X.size = lo) {q: Array Nat} (hq: q.size = N) {a nrem: Nat} (h1: 1 <= a) (hn: nrem <= N) {Q: Array Nat × Nat × Nat -> Prop} {R: DescSt -> SortSt -> Prop} (h: Run lt N (kas_desc (nrem - a) q a 0) Q)
  (k: ∀ q' m e,q'.size = N -> e + 1 <= m -> a <= m -> m <= max a nrem -> Q (q',m,e) -> R (none,m,e) (ost κ X it pend g q')) {f: Nat -> DescSt -> StateT SortSt Sem (ForInStep DescSt)}
  (hf: ∀ x c,f x c = (do
   let x <- ltAt' (lo + c.snd.fst) (lo + c.snd.fst - 1)
   match x with
   | some smaller=>
    if smaller = true then
     if c.snd.snd > 0 then do
      reverseSlice' (lo + c.snd.fst - (c.snd.snd + 1)) (lo + c.snd.fst)
      pure (ForInStep.yield (none,c.snd.fst + 1,0))
     else pure (ForInStep.yield (none,c.snd.fst + 1,0))
    else do
     let y <- ltAt' (lo + c.snd.fst - 1) (lo + c.snd.fst)
     match y with
     | some larger=>
      if larger = true then pure (ForInStep.done (none,c.snd.fst,c.snd.snd))
      else pure (ForInStep.yield (none,c.snd.fst + 1,c.snd.snd + 1))
     | _=> pure (ForInStep.done (some none,c.snd.fst,c.snd.snd))
   | _=> pure (ForInStep.done (some none,c.snd.fst,c.snd.snd)))): wpS (model prog w) A E s (forIn [a:nrem] ((none,a,0): DescSt) f) R (ost κ X it pend g q):= by
 refine wpS_forRange (I:= fun x c st=> ∃ q' e,c = (none,x,e) /\ st = ost κ X it pend g q' /\ q'.size = N /\ e + 1 <= x /\ x <= max a nrem /\ Run lt N (kas_desc (nrem - x) q' x e) Q) ?_ ?_ ⟨q,0,rfl,rfl,hq,by exact Nat.succ_le_of_lt h1,by exact Nat.le_max_left a nrem,h⟩
 ·rintro x c st hx hx2 ⟨q',e,rfl,rfl,hq',he,_,h⟩
  rw [hf]
  obtain ⟨r,hr⟩: ∃ r,nrem - x = r + 1:= ⟨nrem - x - 1,by exact ar_pred hx2⟩
  have hr': nrem - (x + 1) = r:= by exact ar_step hr
  rw [hr] at h
  obtain ⟨b1,b2,h⟩:= h
  have h: Run lt N (if lt (G q' x) (G q' (x - 1)) = true then (if e > 0 then kas_desc r (kas_rev q' (x - (e + 1)) x) (x + 1) 0 else kas_desc r q' (x + 1) 0)
   else .ask (G q' (x - 1)) (G q' x) fun d=> if d = true then .ret (q',x,e) else kas_desc r q' (x + 1) (e + 1)) Q:= h
  refine wpS_bind (wpS_at (i:= x) (j:= x - 1) hA hlo rfl (by show lo + x - 1 = _;(exact ar_assoc h1 hx)) (by exact ar_k11 hq' hn hx2) (by exact ar_x1 hq' h1 hn hx hx2) b1 b2 ?_)
  dsimp only
  split
  ·rename_i c;rw [if_pos c] at h
   split
   ·rename_i he';rw [if_pos he'] at h
    refine wpS_bind (wpS_rev (i:= x - (e + 1)) (j:= x) hlo (by show lo + x - (e + 1) = _;(exact Nat.add_sub_assoc he lo)) rfl (by exact ar_k12 hq' hn hx2) ?_)
    refine wpS_pure ⟨_,0,rfl,rfl,by rw [show (kas_rev q' (x - (e + 1)) x).size = q'.size from mirror_size ..];exact hq',by exact Nat.le_add_left (0 + 1) x,by lia,?_⟩
    rw [hr'];exact h
   ·rename_i he';rw [if_neg he'] at h
    refine wpS_pure ⟨_,0,rfl,rfl,hq',by exact Nat.le_add_left (0 + 1) x,by lia,?_⟩
    rw [hr'];exact h
  ·rename_i c;rw [if_neg c] at h
   obtain ⟨b3,b4,h⟩:= h
   have h: Run lt N (if lt (G q' (x - 1)) (G q' x) = true then .ret (q',x,e) else kas_desc r q' (x + 1) (e + 1)) Q:= h
   refine wpS_bind (wpS_at (i:= x - 1) (j:= x) hA hlo (by show lo + x - 1 = _;(exact ar_assoc h1 hx)) rfl (by exact ar_x1 hq' h1 hn hx hx2) (by exact ar_k11 hq' hn hx2) b3 b4 ?_)
   dsimp only
   split
   ·rename_i c;rw [if_pos c] at h
    exact wpS_pure (k q' x e hq' he hx (by (expose_names;exact String.Pos.Raw.mk_le_mk.mp left)) h)
   ·rename_i c;rw [if_neg c] at h
    refine wpS_pure ⟨_,e + 1,rfl,rfl,hq',by exact Nat.add_le_add_right he 1,by lia,?_⟩
    rw [hr'];exact h
 ·rintro c st ⟨q',e,rfl,rfl,hq',he,_,h⟩
  rw [show nrem - max a nrem = 0 by exact ar_max] at h
  exact k _ _ _ hq' he (by exact Nat.le_max_left a nrem) (by exact Nat.le_refl (max a nrem)) h
theorem wpS_countO (hA: Asks prog w A s κ it lt N) (hlo: X.size = lo) {q: Array Nat} (hq: q.size = N) (h1: 1 <= N) {Q: Nat × Array Nat -> Prop} {R: Option Nat -> SortSt -> Prop} (h: Run lt N (kas_count N q) Q)
  (k: ∀ m q',q'.size = N -> Q (m,q') -> R (some m) (ost κ X it pend g q')): wpS (model prog w) A E s (countRun' lo N) R (ost κ X it pend g q):= by
 have hsz: ∀ (p: Array Nat) i j,(kas_rev p i j).size = p.size:= fun p i j=> mirror_size ..
 rw [countRun'_eq]
 unfold kas_count at h
 refine wpS_bind (wpS_ascO hA hlo hq (Nat.le_refl 1) (Nat.le_refl N) (Run.unbind _ h) (fun m a b hm=> ?_) fun _ _=> rfl)
 have hm1: m <= N:= by lia
 dsimp only
 split
 ·rename_i c;rw [if_pos c] at hm
  exact wpS_pure (k m q hq hm)
 ·rename_i c;rw [if_neg c] at hm
  have hmN: m ≠ N:= by simpa using c
  split
  ·rename_i c2;rw [if_pos c2] at hm
   obtain ⟨b1,b2,hm⟩:= hm
   have hm: Run lt N (if lt (G q 0) (G q (m - 1)) = true then KasT.ret (m,q) else kas_descPart m N (kas_rev q 0 m)) Q:= hm
   refine wpS_bind (wpS_at (i:= 0) (j:= m - 1) hA hlo rfl (by show lo + m - 1 = _;(exact Nat.add_sub_assoc a lo)) (by exact Nat.lt_of_lt_of_eq h1 (id (Eq.symm hq))) (by exact ar_x2 hq a hm1) b1 b2 ?_)
   dsimp only
   split
   ·rename_i c3;rw [if_pos c3] at hm
    exact wpS_pure (k m q hq hm)
   ·rename_i c3;rw [if_neg c3] at hm
    refine wpS_bind (wpS_rev (i:= 0) (j:= m) hlo rfl rfl (by exact le_of_le_of_eq hm1 (id (Eq.symm hq))) ?_)
    refine wpS_bind (wpS_lift (wpAny_rule ⟨rfl,?_⟩))
    unfold kas_descPart at hm
    refine wpS_bind (wpS_descO hA hlo (by rw [hsz];exact hq) (by exact Nat.le_add_right_of_le a) (Nat.le_refl N) (Run.unbind _ hm) (fun q' m' e hq' he a' b' hm'=> ?_) fun _ _=> rfl)
    dsimp only at hm' ⊢
    split
    ·rename_i c4;rw [if_pos c4] at hm'
     unfold kas_tail3 at hm'
     refine wpS_bind (wpS_rev (i:= m' - (e + 1)) (j:= m') hlo (by show lo + m' - (e + 1) = _;(exact Nat.add_sub_assoc he lo)) rfl (by exact ar_k18 hm1 c hq' b') ?_)
     refine wpS_bind (wpS_rev (i:= 0) (j:= m') hlo rfl rfl (by rw [hsz];(exact ar_k18 hm1 c hq' b')) ?_)
     refine wpS_bind (wpS_ascO hA hlo (by rw [hsz,hsz];exact hq') (by exact Nat.one_le_of_lt he) (Nat.le_refl N) (Run.unbind _ hm') (fun m2 a2 b2 h2=> ?_) fun _ _=> rfl)
     exact wpS_pure (k m2 _ (by rw [hsz,hsz];exact hq') h2)
    ·rename_i c4;rw [if_neg c4] at hm'
     unfold kas_tail3 at hm'
     refine wpS_bind (wpS_rev (i:= 0) (j:= m') hlo rfl rfl (by exact ar_k18 hm1 c hq' b') ?_)
     refine wpS_bind (wpS_ascO hA hlo (by rw [hsz];exact hq') (by exact Nat.one_le_of_lt he) (Nat.le_refl N) (Run.unbind _ hm') (fun m2 a2 b2 h2=> ?_) fun _ _=> rfl)
     exact wpS_pure (k m2 _ (by rw [hsz];exact hq') h2)
  ·rename_i c2;rw [if_neg c2] at hm
   refine wpS_bind (wpS_lift (wpAny_rule ⟨rfl,?_⟩))
   unfold kas_descPart at hm
   refine wpS_bind (wpS_descO hA hlo hq (by exact Nat.le_add_right_of_le a) (Nat.le_refl N) (Run.unbind _ hm) (fun q' m' e hq' he a' b' hm'=> ?_) fun _ _=> rfl)
   dsimp only at hm' ⊢
   split
   ·rename_i c4;rw [if_pos c4] at hm'
    unfold kas_tail3 at hm'
    refine wpS_bind (wpS_rev (i:= m' - (e + 1)) (j:= m') hlo (by show lo + m' - (e + 1) = _;(exact Nat.add_sub_assoc he lo)) rfl (by exact ar_k18 hm1 c hq' b') ?_)
    refine wpS_bind (wpS_rev (i:= 0) (j:= m') hlo rfl rfl (by rw [hsz];(exact ar_k18 hm1 c hq' b')) ?_)
    refine wpS_bind (wpS_ascO hA hlo (by rw [hsz,hsz];exact hq') (by exact Nat.one_le_of_lt he) (Nat.le_refl N) (Run.unbind _ hm') (fun m2 a2 b2 h2=> ?_) fun _ _=> rfl)
    exact wpS_pure (k m2 _ (by rw [hsz,hsz];exact hq') h2)
   ·rename_i c4;rw [if_neg c4] at hm'
    unfold kas_tail3 at hm'
    refine wpS_bind (wpS_rev (i:= 0) (j:= m') hlo rfl rfl (by exact ar_k18 hm1 c hq' b') ?_)
    refine wpS_bind (wpS_ascO hA hlo (by rw [hsz];exact hq') (by exact Nat.one_le_of_lt he) (Nat.le_refl N) (Run.unbind _ hm') (fun m2 a2 b2 h2=> ?_) fun _ _=> rfl)
    exact wpS_pure (k m2 _ (by rw [hsz];exact hq') h2)
end
section
variable {prog: Program} {w: World} {A: Around} {E: Value -> Shared -> Prop} {s: Shared} {κ: SortKind} {it: Array Keyed} {X: Array Keyed} {pend: Array (Nat × Nat × Nat)} {g: Nat} {lt: Nat -> Nat -> Bool} {N lo: Nat}
theorem bubble_mid (X q: Array Keyed) {src d lo: Nat} (hlo: X.size = lo) (hs: src < q.size) (hd: d <= src): bubble (X ++ q) (lo + src) d = X ++ bubble q src d:= by
 subst hlo
 apply Array.ext_getElem?
 intro k
 rw [getElem?_bubble (by simp;lia) _ (by exact Nat.le_add_left_of_le hd),Array.getElem?_append,Array.getElem?_append,Array.getElem?_append,Array.getElem?_append,getElem?_bubble hs d hd]
 rcases Nat.lt_or_ge k X.size with h1 | h1
 ·rw [if_neg (show ¬ k = X.size + src - d by exact ar_bub6 hd h1),if_neg (show ¬ (X.size + src - d < k /\ k <= X.size + src) by exact ar_bub7 hd h1),if_pos h1,if_pos h1]
 ·rw [if_neg (show ¬ k < X.size by exact Nat.not_lt.mpr h1),if_neg (show ¬ k < X.size by exact Nat.not_lt.mpr h1)]
  by_cases h2: k = X.size + src - d
  ·rw [if_pos h2,if_pos (show k - X.size = src - d by exact ar_bub1 hd h2),if_neg (by lia)]
   congr 1;(exact Nat.add_sub_self_left X.size src)
  ·rw [if_neg h2,if_neg (show ¬ k - X.size = src - d by exact ar_bub2 hd h1 h2)]
   by_cases h3: X.size + src - d < k /\ k <= X.size + src
   ·rw [if_pos h3,if_pos (show src - d < k - X.size /\ k - X.size <= src by exact ar_bub3 hd h1 h3),if_neg (by exact ar_bub5 hd h3)]
    congr 1;(exact Nat.sub_right_comm k 1 X.size)
   ·rw [if_neg h3,if_neg (show ¬ (src - d < k - X.size /\ k - X.size <= src) by exact ar_bub4 hd h3)]
theorem wpS_moveO (hlo: X.size = lo) {q: Array Nat} {k l: Nat} (hk: k < q.size) {Q: Unit -> SortSt -> Prop} (h: Q () (ost κ X it pend g (bubble q k (k - l)))): wpS (model prog w) A E s (moveDown' (lo + k) (lo + l)) Q (ost κ X it pend g q):= by
 rw [moveDown'_eq]
 refine wpS_modify ?_
 have e1: lo + k - (lo + l) = k - l:= by exact Nat.add_sub_add_left lo k l
 have e: setArr (ost κ X it pend g q) (bubble (arrOf (ost κ X it pend g q)) (lo + k) (lo + k - (lo + l))) = ost κ X it pend g (bubble q k (k - l)):= by
  show SortSt.mk' κ (bubble (X ++ q.map (kas_item it)) (lo + k) (lo + k - (lo + l))) pend g none = SortSt.mk' κ _ pend g none
  rw [e1,bubble_mid X _ hlo (by simpa using hk) (by exact Nat.sub_le k l)]
  congr 2
  exact kas_swaps_map (kas_item it) (fun i=> k - i) (fun i=> k - i - 1) _ q
 rw [e];exact h
theorem wpS_binO (hA: Asks prog w A s κ it lt N) (hlo: X.size = lo) {q: Array Nat} (hq: q.size = N) {n ok: Nat} (hn: n <= N) {Q: Array Nat -> Prop} {R: Bool -> SortSt -> Prop} (h: Run lt N (kas_bin (n - max ok 1) q (max ok 1)) Q)
  (k: ∀ q',q'.size = N -> Q q' -> R true (ost κ X it pend g q')): wpS (model prog w) A E s (binarySort' lo n ok) R (ost κ X it pend g q):= by
 rw [binarySort'_eq]
 refine wpS_bind (wpS_mono (wpS_forRange (I:= fun x c st=> ∃ q',c = (none,()) /\ st = ost κ X it pend g q' /\ q'.size = N /\ Run lt N (kas_bin (n - x) q' x) Q) (Q:= fun c st=> ∃ q',c = (none,()) /\ st = ost κ X it pend g q' /\ q'.size = N /\ Q q') ?_ ?_ ⟨q,rfl,rfl,hq,h⟩) ?_)
 ·rintro x c st hx hx2 ⟨q',rfl,rfl,hq',h⟩
  obtain ⟨r,hr⟩: ∃ r,n - x = r + 1:= ⟨n - x - 1,by exact ar_pred hx2⟩
  rw [hr] at h
  have h:= Run.unbind _ h
  refine wpS_bind (wpS_mono (wpS_forRange (I:= fun y c st=> ∃ l t,c = (none,l,t) /\ st = ost κ X it pend g q' /\ l <= x /\ t <= x /\ Run lt N (kas_place q' x (x - y) l t) (fun l=> Run lt N (kas_bin r (bubble q' x (x - l)) (x + 1)) Q))
   (Q:= fun c st=> ∃ l t,c = (none,l,t) /\ st = ost κ X it pend g q' /\ l <= x /\ Run lt N (kas_bin r (bubble q' x (x - l)) (x + 1)) Q) ?_ ?_ ⟨0,x,rfl,rfl,by exact Nat.zero_le x,by exact Nat.le_refl x,h⟩) ?_)
  ·rintro y c st hy hy2 ⟨l,t,rfl,rfl,hl,ht,h⟩
   obtain ⟨f,hf⟩: ∃ f,x - y = f + 1:= ⟨x - y - 1,by exact ar_pred hy2⟩
   rw [hf] at h
   unfold kas_place at h
   dsimp only
   split
   ·rename_i c;rw [if_pos c] at h
    exact wpS_pure ⟨l,t,rfl,rfl,hl,h⟩
   ·rename_i c;rw [if_neg c] at h
    obtain ⟨b1,b2,h⟩:= h
    refine wpS_bind (wpS_at (i:= x) (j:= (l + t) / 2) hA hlo rfl rfl (by exact ar_k11 hq' hn hx2) (by exact ar_x4 hn hx2 hq' hl ht) b1 b2 ?_)
    have h: Run lt N (if lt (G q' x) (G q' ((l + t) / 2)) = true then kas_place q' x f l ((l + t) / 2) else kas_place q' x f ((l + t) / 2 + 1) t) _:= h
    dsimp only
    split
    ·rename_i c2;rw [if_pos c2] at h
     exact wpS_pure ⟨_,_,rfl,rfl,hl,by lia,by rw [show x - (y + 1) = f by exact ar_step hf];exact h⟩
    ·rename_i c2;rw [if_neg c2] at h
     exact wpS_pure ⟨_,_,rfl,rfl,by exact ar_p7 ht c,ht,by rw [show x - (y + 1) = f by exact ar_step hf];exact h⟩
  ·rintro c st ⟨l,t,rfl,rfl,hl,ht,h⟩
   rw [show x - max 0 x = 0 by exact Nat.sub_self x] at h
   exact ⟨l,t,rfl,rfl,hl,h⟩
  ·rintro c st ⟨l,t,rfl,rfl,hl,h⟩
   dsimp only
   refine wpS_bind (wpS_moveO hlo (by exact ar_k11 hq' hn hx2) (wpS_pure ?_))
   refine ⟨_,rfl,rfl,by rw [bubble_size];exact hq',?_⟩
   rw [show n - (x + 1) = r by exact ar_step hr];exact h
 ·rintro c st ⟨q',rfl,rfl,hq',h⟩
  rw [show n - max (max ok 1) n = 0 by exact ar_max] at h
  exact ⟨q',rfl,rfl,hq',h⟩
 ·rintro c st ⟨q',rfl,rfl,hq',h⟩
  exact wpS_pure (k q' hq' h)
end
section
variable {prog: Program} {w: World} {A: Around} {E: Value -> Shared -> Prop} {s: Shared} {κ: SortKind} {it: Array Keyed} {lt: Nat -> Nat -> Bool} {N: Nat}
noncomputable def gallop': Bool -> Keyed -> Array Keyed -> Nat -> Nat -> Nat -> StateT SortSt Sem (Option Nat):= sortPriv% PySem.Builtin.gallop
noncomputable def gBey (left: Bool) (key: Keyed) (arr: Array Keyed) (base i: Nat): StateT SortSt Sem (Option Bool):= do
 let y <- elem' arr (base + i)
 if left = true then lt' y key else do
  let r <- lt' key y
  pure (Option.map (fun x=> !x) r)
abbrev G3:= Option (Option Nat) × Nat × Nat
noncomputable def leapB (f: Nat -> StateT SortSt Sem (Option Bool)) (t: Bool -> Bool) (mx: Nat) (r: G3): StateT SortSt Sem (ForInStep G3):=
 if r.2.2 >= mx then pure (.done (none,r.2.1,r.2.2)) else f r.2.2 >>= fun y=> match y with
  | some y=> if t y = true then pure (.done (none,r.2.1,r.2.2)) else pure (.yield (none,r.2.2,2 * r.2.2 + 1))
  | _=> pure (.done (some none,r.2.1,r.2.2))
noncomputable def halfB (f: Nat -> StateT SortSt Sem (Option Bool)) (r: G3): StateT SortSt Sem (ForInStep G3):=
 if r.2.1 >= r.2.2 then pure (.done (none,r.2.1,r.2.2)) else f (r.2.1 + (r.2.2 - r.2.1) / 2) >>= fun y=> match y with
  | some y=> if y = true then pure (.yield (none,r.2.1 + (r.2.2 - r.2.1) / 2 + 1,r.2.2)) else pure (.yield (none,r.2.1,r.2.1 + (r.2.2 - r.2.1) / 2))
  | _=> pure (.done (some none,r.2.1,r.2.2))
inductive LeapI (Z t: Nat -> Bool) (mx: Nat) (st: SortSt) (i: Nat): G3 -> SortSt -> Prop
 | mk (lo ofs: Nat) (h1: i + 1 <= ofs) (h2: lo < ofs) (h3: lo < mx) (h4: Z lo = false): LeapI Z t mx st i (none,lo,ofs) st
inductive LeapQ (Z: Nat -> Bool) (mx: Nat) (st: SortSt): G3 -> SortSt -> Prop
 | mk (lo ofs: Nat) (h2: lo < ofs) (h3: lo < mx) (h4: Z lo = false) (h5: mx <= ofs \/ (ofs < mx /\ Z ofs = true)): LeapQ Z mx st (none,lo,ofs) st
inductive HalfI (b: Nat -> Bool) (n: Nat) (st: SortSt) (i: Nat): G3 -> SortSt -> Prop
 | mk (l h: Nat) (h1: l <= h) (h2: h <= n) (h3: ∀ i,i < l -> b i = true) (h4: ∀ i,h <= i -> i < n -> b i = false) (h5: h - l <= n - i): HalfI b n st i (none,l,h) st
inductive HalfQ (b: Nat -> Bool) (n: Nat) (st: SortSt): G3 -> SortSt -> Prop
 | mk (h: Nat) (h2: h <= n) (h3: ∀ i,i < h -> b i = true) (h4: ∀ i,h <= i -> i < n -> b i = false): HalfQ b n st (none,h,h) st
theorem wpS_ite {α: Type} {c: Prop} [Decidable c] {m n: StateT SortSt Sem α} {Q: α -> SortSt -> Prop} {st: SortSt} (h1: c -> wpS (model prog w) A E s m Q st) (h2: ¬ c -> wpS (model prog w) A E s n Q st): wpS (model prog w) A E s (if c then m else n) Q st:= by
 split
 ·rename_i c;exact h1 c
 ·rename_i c;exact h2 c
theorem wpS_leap {f: Nat -> StateT SortSt Sem (Option Bool)} {t: Bool -> Bool} {Z: Nat -> Bool} {mx n: Nat} {st: SortSt} (hf: ∀ i,i < mx -> ∀ (R: Option Bool -> SortSt -> Prop),(∀ y,t y = Z i -> R (some y) st) -> wpS (model prog w) A E s (f i) R st)
  (hm: mx <= n + 1) (h0: 0 < mx) (hz: Z 0 = false): wpS (model prog w) A E s (forIn [0:n] ((none,0,1): G3) fun _ r=> leapB f t mx r) (LeapQ Z mx st) st:= by
 refine wpS_forRange (I:= LeapI Z Z mx st) ?_ ?_ (.mk 0 1 (Nat.le_refl _) Nat.zero_lt_one h0 hz)
 ·intro i c st' _ _ q
  cases q with
  | mk lo ofs h1 h2 h3 h4=>
   refine wpS_ite (fun c=> wpS_pure (.mk lo ofs h2 h3 h4 (.inl c))) fun c=> ?_
   refine wpS_bind (hf ofs (Nat.lt_of_not_le c) _ fun y e=> ?_)
   refine wpS_ite (fun q=> wpS_pure (.mk lo ofs h2 h3 h4 (.inr ⟨Nat.lt_of_not_le c,e ▸ q⟩))) fun q=> ?_
   have h6: ofs + ofs = 2 * ofs:= (Nat.two_mul ofs).symm
   exact wpS_pure (.mk ofs (2 * ofs + 1) (by rw [<- h6];exact Nat.succ_le_succ (Nat.le_trans h1 (Nat.le_add_right _ _))) (by rw [<- h6];exact Nat.lt_succ_of_le (Nat.le_add_right _ _)) (Nat.lt_of_not_le c) (by rw [<- e];simpa using q))
 ·intro c st' q
  cases q with
  | mk lo ofs h1 h2 h3 h4=> exact .mk lo ofs h2 h3 h4 (.inl (Nat.le_trans hm (Nat.le_trans (Nat.succ_le_succ (Nat.le_max_right 0 n)) h1)))
theorem half_d {l h: Nat} (c: l < h): (h - l) / 2 < h - l:= Nat.div_lt_self (Nat.sub_pos_of_lt c) (by decide)
theorem half_a {l h: Nat} (c: l < h): l + (h - l) / 2 < h:= Nat.add_lt_of_lt_sub' (half_d c)
theorem half_b {l h n i: Nat} (c: l < h) (q: h - l <= n - i): h - (l + (h - l) / 2 + 1) <= n - (i + 1):= by
 rw [Nat.add_assoc,Nat.sub_add_eq];exact Nat.le_trans (Nat.sub_le_sub_left (Nat.le_add_left 1 _) _) (Nat.sub_le_sub_right q 1)
theorem half_c {l h n i: Nat} (c: l < h) (q: h - l <= n - i): l + (h - l) / 2 - l <= n - (i + 1):= by
 rw [Nat.add_sub_cancel_left];exact Nat.le_trans (Nat.le_sub_one_of_lt (half_d c)) (Nat.sub_le_sub_right q 1)
theorem wpS_half {f: Nat -> StateT SortSt Sem (Option Bool)} {b: Nat -> Bool} {n l h: Nat} {st: SortSt} (hf: ∀ i,i < n -> ∀ (R: Option Bool -> SortSt -> Prop),R (some (b i)) st -> wpS (model prog w) A E s (f i) R st)
  (mono: ∀ i j,i <= j -> j < n -> b j = true -> b i = true) (h1: l <= h) (h2: h <= n) (h3: ∀ i,i < l -> b i = true) (h4: ∀ i,h <= i -> i < n -> b i = false) :
  wpS (model prog w) A E s (forIn [0:n] ((none,l,h): G3) fun _ r=> halfB f r) (HalfQ b n st) st:= by
 refine wpS_forRange (I:= HalfI b n st) ?_ ?_ (.mk l h h1 h2 h3 h4 (Nat.le_trans (Nat.sub_le _ _) h2))
 ·intro i c st' _ _ q
  cases q with
  | mk l h h1 h2 h3 h4 h5=>
   refine wpS_ite (fun c=> ?_) fun c=> ?_
   ·have e: l = h:= Nat.le_antisymm h1 c
    subst e
    exact wpS_pure (.mk l h2 h3 h4)
   ·have c:= Nat.lt_of_not_le c
    have m:= Nat.lt_of_lt_of_le (half_a c) h2
    refine wpS_bind (hf _ m _ ?_)
    refine wpS_ite (fun y=> ?_) fun y=> ?_
    ·exact wpS_pure (.mk _ h (half_a c) h2 (fun i hi=> mono i _ (Nat.le_of_lt_succ hi) m y) h4 (half_b c h5))
    ·refine wpS_pure (.mk l _ (Nat.le_add_right _ _) (Nat.le_of_lt m) h3 (fun i hi hn=> ?_) (half_c c h5))
     cases q: b i with
     | false=> rfl
     | true=> exact absurd (mono _ i hi hn q) y
 ·intro c st' q
  cases q with
  | mk l h h1 h2 h3 h4 h5=>
   have e: l = h:= Nat.le_antisymm h1 (Nat.sub_eq_zero_iff_le.mp (Nat.le_zero.mp (Nat.le_trans h5 (by simp))))
   subst e
   exact .mk l h2 h3 h4
theorem wpS_gallop (hA: Asks prog w A s κ it lt N) {left: Bool} {x: Nat} {arr: Array Keyed} {base n hint: Nat} {P: Nat -> Nat} (hx: x < N) (hP: ∀ i,i < n -> arr[base + i]? = some (kas_item it (P i)) /\ P i < N) (hh: hint < n) {b: Nat -> Bool}
  (hb: ∀ i,i < n -> b i = if left = true then lt (P i) x else !lt x (P i)) (mono: ∀ i j,i <= j -> j < n -> b j = true -> b i = true) {st: SortSt} (hk: kindOf st = κ) {R: Option Nat -> SortSt -> Prop}
  (k: ∀ h,h <= n -> (∀ i,i < h -> b i = true) -> (∀ i,h <= i -> i < n -> b i = false) -> R (some h) st): wpS (model prog w) A E s (gallop' left (kas_item it x) arr base n hint) R st:= by
 have bey: ∀ i,i < n -> ∀ (R: Option Bool -> SortSt -> Prop),R (some (b i)) st -> wpS (model prog w) A E s (gBey left (kas_item it x) arr base i) R st:= by
  intro i hi R h
  unfold gBey
  rw [elem'_eq,(hP i hi).1]
  rw [hb i hi] at h
  refine wpS_bind (wpS_pure ?_)
  refine wpS_ite (fun c=> ?_) fun c=> ?_
  ·rw [if_pos c] at h
   exact wpS_cmp hA (hP i hi).2 hx hk h
  ·rw [if_neg c] at h
   exact wpS_bind (wpS_cmp hA hx (hP i hi).2 hk (wpS_pure h))
 have no: ∀ i j,i <= j -> j < n -> b i = false -> b j = false:= fun i j hij hj h=> by
  cases q: b j with
  | false=> rfl
  | true=> rw [mono i j hij hj q] at h;cases h
 have fin: ∀ l h (K: G3 -> StateT SortSt Sem (Option Nat)),(∀ h,K (none,h,h) = pure (some h)) -> l <= h -> h <= n -> (∀ i,i < l -> b i = true) -> (∀ i,h <= i -> i < n -> b i = false) ->
   wpS (model prog w) A E s ((forIn [0:n] ((none,l,h): G3) fun _ r=> halfB (gBey left (kas_item it x) arr base) r) >>= K) R st:= fun l h K hK h1 h2 h3 h4=>
  wpS_bind (wpS_mono (wpS_half bey mono h1 h2 h3 h4) fun c st' q=> by
   cases q with
   | mk h a b c=> rw [hK];exact wpS_pure (k h a b c))
 refine wpS_bind (bey hint hh _ ?_)
 refine wpS_ite (fun right=> ?_) fun right=> ?_
 ·refine wpS_bind (wpS_mono (wpS_leap (f:= fun i=> gBey left (kas_item it x) arr base (hint + i)) (t:= fun y=> !y) (Z:= fun i=> !b (hint + i)) (mx:= n - hint)
   (fun i hi R h=> bey (hint + i) (Nat.add_lt_of_lt_sub' hi) R (h _ rfl)) (Nat.le_succ_of_le (Nat.sub_le _ _)) (Nat.sub_pos_of_lt hh) (by simpa using right)) fun c st' q=> ?_)
  cases q with
  | mk lo ofs h2 h3 h4 h5=>
   have h4: b (hint + lo) = true:= by simpa using h4
   have lt1:= Nat.add_lt_of_lt_sub' h3
   refine fin (hint + lo + 1) (hint + min ofs (n - hint)) _ (fun _=> rfl) (Nat.add_le_add_left (Nat.lt_min.mpr ⟨h2,h3⟩) hint) (Nat.le_trans (Nat.add_le_add_left (Nat.min_le_right _ _) _) (Nat.le_of_eq (Nat.add_sub_of_le (Nat.le_of_lt hh))))
    (fun i hi=> mono i _ (Nat.le_of_lt_succ hi) lt1 h4) fun i hi hn=> ?_
   rcases h5 with h5 | ⟨h5,h6⟩
   ·rw [Nat.min_eq_right h5,Nat.add_sub_of_le (Nat.le_of_lt hh)] at hi
    exact absurd hn (Nat.not_lt_of_le hi)
   ·rw [Nat.min_eq_left (Nat.le_of_lt h5)] at hi
    exact no _ i hi hn (by simpa using h6)
 ·have right: b hint = false:= by simpa using right
  refine wpS_bind (wpS_mono (wpS_leap (f:= fun i=> gBey left (kas_item it x) arr base (hint - i)) (t:= fun y=> y) (Z:= fun i=> b (hint - i)) (mx:= hint + 1)
   (fun i hi R h=> bey (hint - i) (Nat.lt_of_le_of_lt (Nat.sub_le _ _) hh) R (h _ rfl)) (Nat.succ_le_succ (Nat.le_of_lt hh)) (Nat.succ_pos _) right) fun c st' q=> ?_)
  cases q with
  | mk lo ofs h2 h3 h4 h5=>
   refine fin (hint + 1 - min ofs (hint + 1)) (hint - lo) _ (fun _=> rfl) ?_ (Nat.le_trans (Nat.sub_le _ _) (Nat.le_of_lt hh)) (fun i hi=> ?_) fun i hi hn=> no _ i hi hn h4
   ·refine Nat.le_trans (Nat.sub_le_sub_left (Nat.lt_min.mpr ⟨h2,h3⟩) (hint + 1)) ?_
    rw [Nat.succ_sub_succ];exact Nat.le_refl _
   ·rcases h5 with h5 | ⟨h5,h6⟩
    ·rw [Nat.min_eq_right h5,Nat.sub_self] at hi
     exact absurd hi (Nat.not_lt_zero _)
    ·rw [Nat.min_eq_left (Nat.le_of_lt h5),Nat.succ_sub (Nat.le_of_lt_succ h5)] at hi
     exact mono i _ (Nat.le_of_lt_succ hi) (Nat.lt_of_le_of_lt (Nat.sub_le _ _) hh) h6
end
section
variable (lt: Nat -> Nat -> Bool)
noncomputable def mg (a b: List Nat): List Nat:= List.merge a b fun x y=> !lt y x
end
section
variable {lt: Nat -> Nat -> Bool}
theorem mg_nil (b: List Nat): mg lt [] b = b:= List.nil_merge b
theorem mg_nil' (a: List Nat): mg lt a [] = a:= List.merge_right a
theorem mg_b {x y: Nat} {a b: List Nat} (h: lt y x = true): mg lt (x :: a) (y :: b) = y :: mg lt (x :: a) b:= by
 unfold mg;rw [List.cons_merge_cons,h];rfl
theorem mg_a {x y: Nat} {a b: List Nat} (h: lt y x = false): mg lt (x :: a) (y :: b) = x :: mg lt a (y :: b):= by
 unfold mg;rw [List.cons_merge_cons,h];rfl
theorem mg_allB {x: Nat} {a: List Nat}: ∀ (b c: List Nat),(∀ y ∈ b,lt y x = true) -> mg lt (x :: a) (b ++ c) = b ++ mg lt (x :: a) c
 | [],c,_=> rfl
 | y :: b,c,h=> by rw [List.cons_append,mg_b (h y (.head _)),mg_allB b c fun z m=> h z (.tail _ m)];rfl
theorem mg_allA {y: Nat} {b: List Nat}: ∀ (a c: List Nat),(∀ x ∈ a,lt y x = false) -> mg lt (a ++ c) (y :: b) = a ++ mg lt c (y :: b)
 | [],c,_=> rfl
 | x :: a,c,h=> by rw [List.cons_append,mg_a (h x (.head _)),mg_allA a c fun z m=> h z (.tail _ m)];rfl
theorem mg_snocA {x: Nat}: ∀ (n: Nat) (a b: List Nat),a.length + b.length = n -> (∀ y ∈ b,lt y x = true) -> mg lt (a ++ [x]) b = mg lt a b ++ [x]
 | 0,a,b,hn,h=> by
  obtain rfl:= List.eq_nil_of_length_eq_zero (show a.length = 0 by exact Nat.eq_zero_of_add_eq_zero_right hn)
  obtain rfl:= List.eq_nil_of_length_eq_zero (show b.length = 0 by exact Nat.eq_zero_of_add_eq_zero_left hn)
  rw [mg_nil',mg_nil']
 | n + 1,[],b,hn,h=> by
  have:= mg_allB (a:= []) b [] h
  rw [List.append_nil,mg_nil'] at this
  rw [List.nil_append,this,mg_nil]
 | n + 1,z :: a,[],hn,h=> by rw [mg_nil',mg_nil']
 | n + 1,z :: a,y :: b,hn,h=> by
  rw [List.cons_append]
  cases c: lt y z with
  | true=>
   rw [mg_b c,mg_b c,<- List.cons_append,mg_snocA n (z :: a) b (by simp at hn ⊢;lia) fun u m=> h u (.tail _ m)];rfl
  | false=>
   rw [mg_a c,mg_a c,mg_snocA n a (y :: b) (by simp at hn ⊢;lia) h];rfl
theorem mg_snocB {y: Nat}: ∀ (n: Nat) (a b: List Nat),a.length + b.length = n -> (∀ x ∈ a,lt y x = false) -> mg lt a (b ++ [y]) = mg lt a b ++ [y]
 | 0,a,b,hn,h=> by
  obtain rfl:= List.eq_nil_of_length_eq_zero (show a.length = 0 by exact Nat.eq_zero_of_add_eq_zero_right hn)
  obtain rfl:= List.eq_nil_of_length_eq_zero (show b.length = 0 by exact Nat.eq_zero_of_add_eq_zero_left hn)
  rw [mg_nil,mg_nil]
 | n + 1,[],b,hn,h=> by rw [mg_nil,mg_nil]
 | n + 1,z :: a,[],hn,h=> by
  have:= mg_allA (b:= []) (z :: a) [] h
  rw [List.append_nil,mg_nil] at this
  rw [List.nil_append,this,mg_nil']
 | n + 1,z :: a,u :: b,hn,h=> by
  rw [List.cons_append]
  cases c: lt u z with
  | true=>
   rw [mg_b c,mg_b c,mg_snocB n (z :: a) b (by simp at hn ⊢;lia) h];rfl
  | false=>
   rw [mg_a c,mg_a c,<- List.cons_append,mg_snocB n a (u :: b) (by simp at hn ⊢;lia) fun v m=> h v (.tail _ m)];rfl
theorem mg_appA: ∀ (c a b: List Nat),(∀ x ∈ c,∀ y ∈ b,lt y x = true) -> mg lt (a ++ c) b = mg lt a b ++ c
 | [],a,b,_=> by simp
 | x :: c,a,b,h=> by
  have e: a ++ x :: c = (a ++ [x]) ++ c:= by simp
  rw [e,mg_appA c (a ++ [x]) b fun z m=> h z (.tail _ m),mg_snocA _ a b rfl (h x (.head _))];simp
theorem mg_appB: ∀ (c a b: List Nat),(∀ y ∈ c,∀ x ∈ a,lt y x = false) -> mg lt a (b ++ c) = mg lt a b ++ c
 | [],a,b,_=> by simp
 | y :: c,a,b,h=> by
  have e: b ++ y :: c = (b ++ [y]) ++ c:= by simp
  rw [e,mg_appB c a (b ++ [y]) fun z m=> h z (.tail _ m),mg_snocB _ a b rfl (h y (.head _))];simp
theorem mg_headB {y x: Nat} {a: List Nat} (h: lt y x = true): mg lt (x :: a) [y] = y :: x :: a:= by rw [mg_b h,mg_nil']
theorem mg_perm (a b: List Nat): (mg lt a b).Perm (a ++ b):= List.merge_perm_append ..
theorem mg_len (a b: List Nat): (mg lt a b).length = a.length + b.length:= by rw [(mg_perm a b).length_eq,List.length_append]
theorem mg_up (W: Weak lt): ∀ (n: Nat) (a b: List Nat),a.length + b.length = n -> a.Pairwise (R lt) -> b.Pairwise (R lt) -> (∀ x ∈ a,∀ y ∈ b,x < y) -> (mg lt a b).Pairwise (R lt)
 | 0,a,b,hn,ha,hb,h=> by
  obtain rfl:= List.eq_nil_of_length_eq_zero (show a.length = 0 by exact Nat.eq_zero_of_add_eq_zero_right hn)
  obtain rfl:= List.eq_nil_of_length_eq_zero (show b.length = 0 by exact Nat.eq_zero_of_add_eq_zero_left hn)
  rw [mg_nil];exact .nil
 | n + 1,[],b,hn,ha,hb,h=> by rw [mg_nil];exact hb
 | n + 1,z :: a,[],hn,ha,hb,h=> by rw [mg_nil'];exact ha
 | n + 1,z :: a,y :: b,hn,ha,hb,h=> by
  have ha':= List.pairwise_cons.mp ha
  have hb':= List.pairwise_cons.mp hb
  cases c: lt y z with
  | true=>
   rw [mg_b c,List.pairwise_cons]
   refine ⟨fun u m=> ?_,mg_up W n (z :: a) b (by simp at hn ⊢;lia) ha hb'.2 fun x mx u mu=> h x mx u (.tail _ mu)⟩
   have ryz: R lt y z:= R.of_lt W c
   rcases List.mem_append.mp ((mg_perm _ _).mem_iff.mp m) with m | m
   ·rcases List.mem_cons.mp m with rfl | m
    ·exact ryz
    ·exact W.rtrans ryz (ha'.1 u m)
   ·exact hb'.1 u m
  | false=>
   rw [mg_a c,List.pairwise_cons]
   refine ⟨fun u m=> ?_,mg_up W n a (y :: b) (by simp at hn ⊢;lia) ha'.2 hb fun x mx u mu=> h x (.tail _ mx) u mu⟩
   have rzy: R lt z y:= ⟨c,fun _=> h z (.head _) y (.head _)⟩
   rcases List.mem_append.mp ((mg_perm _ _).mem_iff.mp m) with m | m
   ·exact ha'.1 u m
   ·rcases List.mem_cons.mp m with rfl | m
    ·exact rzy
    ·exact W.rtrans rzy (hb'.1 u m)
end
noncomputable def mergeLo': Array Keyed -> Array Keyed -> StateT SortSt Sem (Array Keyed):= sortPriv% PySem.Builtin.mergeLo
noncomputable def setG': Nat -> StateT SortSt Sem Unit:= sortPriv% PySem.Builtin.setMinGallop
section
variable (it: Array Keyed)
noncomputable def im (l: List Nat): Array Keyed:= (l.map (kas_item it)).toArray
theorem im_size (l: List Nat): (im it l).size = l.length:= by simp [im]
theorem im_get {l: List Nat} {i: Nat} (h: i < l.length): (im it l)[i]? = some (kas_item it (l.getD i 0)):= by
 simp [im,List.getElem?_eq_getElem h]
theorem im_push (l: List Nat) (x: Nat): (im it l).push (kas_item it x) = im it (l ++ [x]):= by simp [im]
theorem im_app (l m: List Nat): im it l ++ im it m = im it (l ++ m):= by simp [im]
theorem im_ext (l: List Nat) (i j: Nat): (im it l).extract i j = im it ((l.drop i).take (j - i)):= by
 simp [im,List.extract_eq_take_drop,List.map_take,List.map_drop]
theorem im_ext' (l: List Nat) (i: Nat): (im it l).extract i (im it l).size = im it (l.drop i):= by
 rw [im_ext,im_size,List.take_of_length_le (by simp)]
end
theorem drop_get {l: List Nat} {i: Nat} (h: i < l.length): l.drop i = l.getD i 0 :: l.drop (i + 1):= by
 rw [List.drop_eq_getElem_cons h,List.getD_eq_getElem?_getD,List.getElem?_eq_getElem h];rfl
theorem drop_split (l: List Nat) (i k: Nat): l.drop i = (l.drop i).take k ++ l.drop (i + k):= by
 have:= List.take_append_drop k (l.drop i)
 rw [List.drop_drop] at this;exact this.symm
section
variable {prog: Program} {w: World} {A: Around} {E: Value -> Shared -> Prop} {s: Shared} {κ: SortKind} {it: Array Keyed} {lt: Nat -> Nat -> Bool} {N: Nat}
theorem wpS_elem {l: List Nat} {i: Nat} (h: i < l.length) {st: SortSt} {Q: Keyed -> SortSt -> Prop} (q: Q (kas_item it (l.getD i 0)) st): wpS (model prog w) A E s (elem' (im it l) i) Q st:= by
 rw [elem'_eq,im_get it h];exact wpS_pure q
abbrev sg (κ: SortKind) (arr: Array Keyed) (pend: Array (Nat × Nat × Nat)) (g: Nat): SortSt:= SortSt.mk' κ arr pend g none
theorem wpS_setG {arr: Array Keyed} {pend: Array (Nat × Nat × Nat)} {g g': Nat} {Q: Unit -> SortSt -> Prop} (q: Q () (sg κ arr pend g')): wpS (model prog w) A E s (setG' g') Q (sg κ arr pend g):= wpS_modify q
structure Two (lt: Nat -> Nat -> Bool) (N: Nat) (pa pb: List Nat): Prop where
 W: Weak lt
 a: ∀ i j,i < j -> j < pa.length -> lt (pa.getD j 0) (pa.getD i 0) = false
 b: ∀ i j,i < j -> j < pb.length -> lt (pb.getD j 0) (pb.getD i 0) = false
 la: ∀ j,j < pb.length -> lt (pb.getD j 0) (pa.getD (pa.length - 1) 0) = true
 fb: ∀ i,i < pa.length -> lt (pb.getD 0 0) (pa.getD i 0) = true
 na: 0 < pa.length
 nb: 0 < pb.length
 oka: ∀ i,i < pa.length -> pa.getD i 0 < N
 okb: ∀ i,i < pb.length -> pb.getD i 0 < N
theorem mem_drop_getD {l: List Nat} {i x: Nat} (h: x ∈ l.drop i): ∃ j,i <= j /\ j < l.length /\ x = l.getD j 0:= by
 obtain ⟨k,hk,rfl⟩:= List.getElem_of_mem h
 have hk': i + k < l.length:= by simp at hk;(exact Nat.add_lt_of_lt_sub' hk)
 refine ⟨i + k,by exact Nat.le_add_right i k,hk',?_⟩
 rw [List.getElem_drop,List.getD_eq_getElem?_getD,List.getElem?_eq_getElem hk'];rfl
theorem mem_take_getD {l: List Nat} {i x: Nat} (h: x ∈ l.take i): ∃ j,j < i /\ j < l.length /\ x = l.getD j 0:= by
 obtain ⟨k,hk,rfl⟩:= List.getElem_of_mem h
 have hk': k < i /\ k < l.length:= by simp at hk;(exact Nat.lt_min.mp hk)
 refine ⟨k,hk'.1,hk'.2,?_⟩
 rw [List.getElem_take,List.getD_eq_getElem?_getD,List.getElem?_eq_getElem hk'.2];rfl
theorem mem_mid_getD {l: List Nat} {i k x: Nat} (h: x ∈ (l.drop i).take k): ∃ j,j < k /\ i + j < l.length /\ x = l.getD (i + j) 0:= by
 obtain ⟨j,h1,h2,rfl⟩:= mem_take_getD h
 have h3: i + j < l.length:= by simp at h2;(exact Nat.add_lt_of_lt_sub' h2)
 refine ⟨j,h1,h3,?_⟩
 rw [List.getD_eq_getElem?_getD,List.getD_eq_getElem?_getD,List.getElem?_drop]
structure LoI (lt: Nat -> Nat -> Bool) (pa pb o: List Nat) (ia ib: Nat): Prop where
 e: o ++ mg lt (pa.drop ia) (pb.drop ib) = mg lt pa pb
 ha: ia + 1 < pa.length
 hb: ib < pb.length
variable {pa pb o: List Nat} {ia ib: Nat}
theorem LoI.b (T: LoI lt pa pb o ia ib) (h: lt (pb.getD ib 0) (pa.getD ia 0) = true): o ++ [pb.getD ib 0] ++ mg lt (pa.drop ia) (pb.drop (ib + 1)) = mg lt pa pb:= by
 have ha:= T.ha
 rw [<- T.e,drop_get T.hb,drop_get (show ia < pa.length by exact Nat.lt_of_succ_lt ha),mg_b h,List.append_assoc];rfl
theorem LoI.a (T: LoI lt pa pb o ia ib) (h: lt (pb.getD ib 0) (pa.getD ia 0) = false): o ++ [pa.getD ia 0] ++ mg lt (pa.drop (ia + 1)) (pb.drop ib) = mg lt pa pb:= by
 have ha:= T.ha
 rw [<- T.e,drop_get T.hb,drop_get (show ia < pa.length by exact Nat.lt_of_succ_lt ha),mg_a h,List.append_assoc];rfl
theorem Two.lastA (H: Two lt N pa pb) (ha: ia + 1 = pa.length): mg lt (pa.drop ia) (pb.drop ib) = pb.drop ib ++ pa.drop ia:= by
 rw [drop_get (show ia < pa.length by exact ar_f3 ha rfl),List.drop_eq_nil_of_le (by exact Nat.le_of_eq (id (Eq.symm ha)))]
 have:= mg_allB (lt:= lt) (x:= pa.getD ia 0) (a:= []) (pb.drop ib) [] fun y m=> by
  obtain ⟨j,_,h2,rfl⟩:= mem_drop_getD m
  have:= H.la j h2
  rwa [show pa.length - 1 = ia by exact Eq.symm (Nat.eq_sub_of_add_eq ha)] at this
 rwa [List.append_nil,mg_nil'] at this
abbrev LoS:= Option (Array Keyed) × Array Keyed × Nat × Nat × Nat × Nat × Nat
inductive LoQ (it: Array Keyed) (lt: Nat -> Nat -> Bool) (pa pb: List Nat) (n: Nat) (c: LoS): Prop
 | fin (x: Array Keyed × Nat × Nat × Nat × Nat × Nat) (e: c = (some (im it (mg lt pa pb)),x)): LoQ it lt pa pb n c
 | on (o: List Nat) (ia ib g k k2: Nat) (e: c = (none,im it o,ia,ib,g,k,k2)) (T: LoI lt pa pb o ia ib) (h: n < ia + ib): LoQ it lt pa pb n c
noncomputable def loEnd (a b: Array Keyed) (out: Array Keyed) (ia ib g k k2: Nat): StateT SortSt Sem (ForInStep LoS):= do
 let x <- elem' a ia
 if (ia + 1 + 1 == a.size) = true then pure (.done (some (out.push x ++ b.extract ib ++ a.extract (ia + 1)),out.push x,ia + 1,ib,g,k,k2))
 else if (decide (k < 7) && decide (k2 < 7)) = true then pure (.done (none,out.push x,ia + 1,ib,g,k,k2))
 else pure (.yield (none,out.push x,ia + 1,ib,g,k,k2))
theorem wpS_loEnd (H: Two lt N pa pb) (T: LoI lt pa pb o ia ib) (h: lt (pb.getD ib 0) (pa.getD ia 0) = false) {n g k k2: Nat} (hn: n <= ia + ib) {st: SortSt} {Q: ForInStep LoS -> SortSt -> Prop}
  (q: ∀ c,LoQ it lt pa pb n c -> Q (.done c) st /\ (c.1 = none -> Q (.yield c) st)): wpS (model prog w) A E s (loEnd (im it pa) (im it pb) (im it o) ia ib g k k2) Q st:= by
 have ha:= T.ha
 have e:= T.a h
 unfold loEnd
 refine wpS_bind (wpS_elem (by exact Nat.lt_of_succ_lt ha) ?_)
 rw [im_push]
 refine wpS_ite (fun c=> ?_) (fun c=> ?_)
 ·have c: ia + 1 + 1 = pa.length:= by rw [im_size] at c;simpa using c
  have key: im it (o ++ [pa.getD ia 0]) ++ (im it pb).extract ib ++ (im it pa).extract (ia + 1) = im it (mg lt pa pb):= by
   rw [im_ext',im_ext',im_app,im_app,<- e,H.lastA c];simp
  rw [key]
  exact wpS_pure (q _ (.fin _ rfl)).1
 ·have c: ia + 1 + 1 ≠ pa.length:= by rw [im_size] at c;simpa using c
  have f:= q (none,im it (o ++ [pa.getD ia 0]),ia + 1,ib,g,k,k2) (.on _ _ _ _ _ _ rfl ⟨e,by exact Nat.lt_of_le_of_ne ha c,T.hb⟩ (by rw [Nat.add_right_comm];exact Nat.lt_succ_of_le hn))
  exact wpS_ite (fun _=> wpS_pure f.1) fun _=> wpS_pure (f.2 rfl)
noncomputable def loMid (a b: Array Keyed) (out: Array Keyed) (ia ib g k bc: Nat): StateT SortSt Sem (ForInStep LoS):= do
 let y <- elem' b ib
 if (ib + 1 == b.size) = true then pure (.done (some (out.push y ++ a.extract ia ++ b.extract (ib + 1)),out.push y,ia,ib + 1,g,k,bc))
 else do
  let x <- elem' a ia
  let r <- gallop' true x b (ib + 1) (b.size - (ib + 1)) 0
  match r with
  | some k2=>
   if k2 > 0 then
    if (ib + 1 + k2 == b.size) = true then pure (.done (some (out.push y ++ b.extract (ib + 1) (ib + 1 + k2) ++ a.extract ia ++ b.extract (ib + 1 + k2)),out.push y ++ b.extract (ib + 1) (ib + 1 + k2),ia,ib + 1 + k2,g,k,k2))
    else loEnd a b (out.push y ++ b.extract (ib + 1) (ib + 1 + k2)) ia (ib + 1 + k2) g k k2
   else loEnd a b (out.push y) ia (ib + 1) g k k2
  | _=> pure (.done (some (out.push y ++ a.extract ia ++ b.extract (ib + 1)),out.push y,ia,ib + 1,g,k,bc))
theorem wpS_loMid (hA: Asks prog w A s κ it lt N) (H: Two lt N pa pb) (T: LoI lt pa pb o ia ib) (h: lt (pb.getD ib 0) (pa.getD ia 0) = true) {n g k bc: Nat} (hn: n <= ia + ib) {st: SortSt} (hk: kindOf st = κ) {Q: ForInStep LoS -> SortSt -> Prop}
  (q: ∀ c,LoQ it lt pa pb n c -> Q (.done c) st /\ (c.1 = none -> Q (.yield c) st)): wpS (model prog w) A E s (loMid (im it pa) (im it pb) (im it o) ia ib g k bc) Q st:= by
 have ha:= T.ha
 have hb:= T.hb
 have e:= T.b h
 unfold loMid
 refine wpS_bind (wpS_elem hb ?_)
 rw [im_push]
 refine wpS_ite (fun c=> ?_) (fun c=> ?_)
 ·have c: ib + 1 = pb.length:= by rw [im_size] at c;simpa using c
  have key: im it (o ++ [pb.getD ib 0]) ++ (im it pa).extract ia ++ (im it pb).extract (ib + 1) = im it (mg lt pa pb):= by
   rw [im_ext',im_ext',im_app,im_app,<- e,List.drop_eq_nil_of_le (show pb.length <= ib + 1 by exact Nat.le_of_eq (id (Eq.symm c))),mg_nil'];simp
  rw [key]
  exact wpS_pure (q _ (.fin _ rfl)).1
 ·have c: ib + 1 ≠ pb.length:= by rw [im_size] at c;simpa using c
  refine wpS_bind (wpS_elem (by exact Nat.lt_of_succ_lt ha) ?_)
  refine wpS_bind (wpS_gallop (P:= fun i=> pb.getD (ib + 1 + i) 0) (b:= fun i=> lt (pb.getD (ib + 1 + i) 0) (pa.getD ia 0)) hA (H.oka _ (by exact Nat.lt_of_succ_lt ha)) (fun i hi=> ⟨im_get it (by rw [im_size] at hi;(exact Nat.add_lt_of_lt_sub' hi)),H.okb _ (by rw [im_size] at hi;(exact Nat.add_lt_of_lt_sub' hi))⟩) (by rw [im_size];(exact ar_pos_sub hb c)) (fun _ _=> rfl)
   (fun i j hij hj hlt=> ?_) hk fun k2 h1 h2 h3=> ?_)
  ·rw [im_size] at hj
   rcases Nat.lt_or_ge i j with hij | hij
   ·rcases H.W.neg _ (pb.getD (ib + 1 + i) 0) _ hlt with r | r
    ·rw [H.b _ _ (show ib + 1 + i < ib + 1 + j by exact Nat.add_lt_add_left hij (ib + 1)) (by exact Nat.add_lt_of_lt_sub' hj)] at r;cases r
    ·exact r
   ·rw [show i = j by (expose_names;exact Nat.le_antisymm hij_1 hij)];exact hlt
  ·rw [im_size] at h1 h3
   dsimp only at h2 h3 ⊢
   have e2: o ++ [pb.getD ib 0] ++ (pb.drop (ib + 1)).take k2 ++ mg lt (pa.drop ia) (pb.drop (ib + 1 + k2)) = mg lt pa pb:= by
    rw [<- e,List.append_assoc _ ((pb.drop (ib + 1)).take k2)]
    congr 1
    have d: pb.drop (ib + 1) = (pb.drop (ib + 1)).take k2 ++ pb.drop (ib + 1 + k2):= drop_split pb (ib + 1) k2
    conv=> rhs;rw [d]
    rw [drop_get (show ia < pa.length by exact Nat.lt_of_succ_lt ha)]
    exact (mg_allB _ _ fun y m=> by
     obtain ⟨j,j1,j2,rfl⟩:= mem_mid_getD m
     exact h2 j j1).symm
   refine wpS_ite (fun c2=> ?_) (fun c2=> ?_)
   ·have ex: (im it pb).extract (ib + 1) (ib + 1 + k2) = im it ((pb.drop (ib + 1)).take k2):= by rw [im_ext];congr 2;(exact Nat.add_sub_self_left (ib + 1) k2)
    rw [ex,im_app]
    split
    ·rename_i c3
     have c3: ib + 1 + k2 = pb.length:= by rw [im_size] at c3;simpa using c3
     have key: im it (o ++ [pb.getD ib 0] ++ (pb.drop (ib + 1)).take k2) ++ (im it pa).extract ia ++ (im it pb).extract (ib + 1 + k2) = im it (mg lt pa pb):= by
      rw [im_ext',im_ext',im_app,im_app,<- e2,List.drop_eq_nil_of_le (show pb.length <= ib + 1 + k2 by exact Nat.le_of_eq (id (Eq.symm c3))),mg_nil'];simp
     rw [key]
     exact wpS_pure (q _ (.fin _ rfl)).1
    ·rename_i c3
     have c3: ib + 1 + k2 ≠ pb.length:= by rw [im_size] at c3;simpa using c3
     exact wpS_loEnd H ⟨e2,ha,by exact ar_g1 h1 hb c3⟩ (h3 k2 (Nat.le_refl _) (by exact ar_g2 h1 c3 hb)) (by exact ar_j9 hn) q
   ·obtain rfl: k2 = 0:= by exact Nat.eq_zero_of_not_pos c2
    exact wpS_loEnd H ⟨e,ha,by exact Nat.lt_of_le_of_ne hb c⟩ (h3 0 (Nat.le_refl _) (by exact ar_pos_sub hb c)) (by exact Nat.le_succ_of_le hn) q
noncomputable def loGo (a b: Array Keyed) (c: LoS) (g: Nat): StateT SortSt Sem (ForInStep LoS):= do
  setG' g
  let y <- elem' b c.2.2.2.1
  let r <- gallop' false y a c.2.2.1 (a.size - c.2.2.1) 0
  match r with
  | some k=>
   if k > 0 then
    if (c.2.2.1 + k + 1 == a.size) = true then pure (.done (some (c.2.1 ++ a.extract c.2.2.1 (c.2.2.1 + k) ++ b.extract c.2.2.2.1 ++ a.extract (c.2.2.1 + k)),c.2.1 ++ a.extract c.2.2.1 (c.2.2.1 + k),c.2.2.1 + k,c.2.2.2.1,g,k,c.2.2.2.2.2.2))
    else if (c.2.2.1 + k == a.size) = true then pure (.done (some (c.2.1 ++ a.extract c.2.2.1 (c.2.2.1 + k) ++ a.extract (c.2.2.1 + k) ++ b.extract c.2.2.2.1),c.2.1 ++ a.extract c.2.2.1 (c.2.2.1 + k),c.2.2.1 + k,c.2.2.2.1,g,k,c.2.2.2.2.2.2))
    else loMid a b (c.2.1 ++ a.extract c.2.2.1 (c.2.2.1 + k)) (c.2.2.1 + k) c.2.2.2.1 g k c.2.2.2.2.2.2
   else loMid a b c.2.1 c.2.2.1 c.2.2.2.1 g k c.2.2.2.2.2.2
  | _=> pure (.done (some (c.2.1 ++ a.extract c.2.2.1 ++ b.extract c.2.2.2.1),c.2.1,c.2.2.1,c.2.2.2.1,g,c.2.2.2.2.2.1,c.2.2.2.2.2.2))
noncomputable def loTurn (a b: Array Keyed) (c: LoS): StateT SortSt Sem (ForInStep LoS):= if c.2.2.2.2.1 > 1 then loGo a b c (c.2.2.2.2.1 - 1) else loGo a b c c.2.2.2.2.1
theorem wpS_loGo (hA: Asks prog w A s κ it lt N) (H: Two lt N pa pb) (T: LoI lt pa pb o ia ib) {n g k bc: Nat} (hn: n <= ia + ib) {arr: Array Keyed} {pend: Array (Nat × Nat × Nat)} {g₀ g': Nat} {Q: ForInStep LoS -> SortSt -> Prop}
  (q: ∀ c g',LoQ it lt pa pb n c -> Q (.done c) (sg κ arr pend g') /\ (c.1 = none -> Q (.yield c) (sg κ arr pend g'))): wpS (model prog w) A E s (loGo (im it pa) (im it pb) (none,im it o,ia,ib,g,k,bc) g') Q (sg κ arr pend g₀):= by
 have ha:= T.ha
 have hb:= T.hb
 unfold loGo
 dsimp only
 refine wpS_bind (wpS_setG (g':= g') ?_)
 refine wpS_bind (wpS_elem hb ?_)
 refine wpS_bind (wpS_gallop (P:= fun i=> pa.getD (ia + i) 0) (b:= fun i=> !lt (pb.getD ib 0) (pa.getD (ia + i) 0)) hA (H.okb _ hb) (fun i hi=> ⟨im_get it (by rw [im_size] at hi;(exact Nat.add_lt_of_lt_sub' hi)),H.oka _ (by rw [im_size] at hi;(exact Nat.add_lt_of_lt_sub' hi))⟩) (by rw [im_size];(exact ar_g5 ha)) (fun _ _=> rfl)
  (fun i j hij hj hlt=> ?_) rfl fun k2 h1 h2 h3=> ?_)
 ·rw [im_size] at hj
  rcases Nat.lt_or_ge i j with hij | hij
  ·have hlt: lt (pb.getD ib 0) (pa.getD (ia + j) 0) = false:= by simpa using hlt
   show (!lt (pb.getD ib 0) (pa.getD (ia + i) 0)) = true
   rw [H.W.le (H.a _ _ (show ia + i < ia + j by exact Nat.add_lt_add_left hij ia) (by exact Nat.add_lt_of_lt_sub' hj)) hlt];rfl
  ·rw [show i = j by (expose_names;exact Nat.le_antisymm hij_1 hij)];exact hlt
 ·rw [im_size] at h1 h3
  have h2: ∀ i,i < k2 -> lt (pb.getD ib 0) (pa.getD (ia + i) 0) = false:= fun i hi=> by have:= h2 i hi;simpa using this
  have h3: ∀ i,k2 <= i -> i < pa.length - ia -> lt (pb.getD ib 0) (pa.getD (ia + i) 0) = true:= fun i hi hj=> by have:= h3 i hi hj;simpa using this
  have k2l: ia + k2 < pa.length:= by
   rcases Nat.lt_or_ge (ia + k2) pa.length with h | h
   ·exact h
   ·have h4:= h2 (pa.length - 1 - ia) (by exact ar_g4 ha h)
    rw [show ia + (pa.length - 1 - ia) = pa.length - 1 by exact ar_g3 ha,H.la _ hb] at h4;cases h4
  have e2: o ++ (pa.drop ia).take k2 ++ mg lt (pa.drop (ia + k2)) (pb.drop ib) = mg lt pa pb:= by
   rw [<- T.e,List.append_assoc]
   congr 1
   conv=> rhs;rw [drop_split pa ia k2]
   rw [drop_get hb]
   exact (mg_allA _ _ fun y m=> by
    obtain ⟨j,j1,j2,rfl⟩:= mem_mid_getD m
    exact h2 j j1).symm
  dsimp only
  refine wpS_ite (fun c2=> ?_) (fun c2=> ?_)
  ·have ex: (im it pa).extract ia (ia + k2) = im it ((pa.drop ia).take k2):= by rw [im_ext];congr 2;(exact Nat.add_sub_self_left ia k2)
   rw [ex,im_app]
   split
   ·rename_i c3
    have c3: ia + k2 + 1 = pa.length:= by rw [im_size] at c3;simpa using c3
    have key: im it (o ++ (pa.drop ia).take k2) ++ (im it pb).extract ib ++ (im it pa).extract (ia + k2) = im it (mg lt pa pb):= by
     rw [im_ext',im_ext',im_app,im_app,<- e2,H.lastA c3];simp
    rw [key]
    exact wpS_pure (q _ _ (.fin _ rfl)).1
   ·rename_i c3
    have c3: ia + k2 + 1 ≠ pa.length:= by rw [im_size] at c3;simpa using c3
    rw [if_neg (by rw [im_size];simp;(exact Nat.ne_of_lt k2l))]
    exact wpS_loMid hA H ⟨e2,by exact Nat.lt_of_le_of_ne k2l c3,hb⟩ (h3 k2 (Nat.le_refl _) (by exact Nat.lt_sub_iff_add_lt'.mpr k2l)) (by exact ar_j10 hn) rfl fun c=> q c g'
  ·obtain rfl: k2 = 0:= by exact Nat.eq_zero_of_not_pos c2
   exact wpS_loMid hA H T (h3 0 (Nat.le_refl _) (by exact Nat.zero_lt_sub_of_lt k2l)) hn rfl fun c=> q c g'
theorem wpS_loTurn (hA: Asks prog w A s κ it lt N) (H: Two lt N pa pb) (T: LoI lt pa pb o ia ib) {n g k bc: Nat} (hn: n <= ia + ib) {arr: Array Keyed} {pend: Array (Nat × Nat × Nat)} {g₀: Nat} {Q: ForInStep LoS -> SortSt -> Prop}
  (q: ∀ c g',LoQ it lt pa pb n c -> Q (.done c) (sg κ arr pend g') /\ (c.1 = none -> Q (.yield c) (sg κ arr pend g'))): wpS (model prog w) A E s (loTurn (im it pa) (im it pb) (none,im it o,ia,ib,g,k,bc)) Q (sg κ arr pend g₀):= by
 unfold loTurn
 split
 ·exact wpS_loGo hA H T hn q
 ·exact wpS_loGo hA H T hn q
abbrev LoP:= Option (Array Keyed) × Array Keyed × Nat × Nat × Nat × Nat
noncomputable def loOne (a b: Array Keyed) (g: Nat) (c: LoP): StateT SortSt Sem (ForInStep LoP):= do
 let y <- elem' b c.2.2.2.1
 let x <- elem' a c.2.2.1
 let r <- lt' y x
 match r with
 | some bWins=>
  if bWins = true then do
   let y <- elem' b c.2.2.2.1
   if (c.2.2.2.1 + 1 == b.size) = true then pure (.done (some (c.2.1.push y ++ a.extract c.2.2.1 ++ b.extract (c.2.2.2.1 + 1)),c.2.1.push y,c.2.2.1,c.2.2.2.1 + 1,0,c.2.2.2.2.2 + 1))
   else if c.2.2.2.2.2 + 1 >= g then pure (.done (none,c.2.1.push y,c.2.2.1,c.2.2.2.1 + 1,0,c.2.2.2.2.2 + 1))
   else pure (.yield (none,c.2.1.push y,c.2.2.1,c.2.2.2.1 + 1,0,c.2.2.2.2.2 + 1))
  else do
   let x <- elem' a c.2.2.1
   if (c.2.2.1 + 1 + 1 == a.size) = true then pure (.done (some (c.2.1.push x ++ b.extract c.2.2.2.1 ++ a.extract (c.2.2.1 + 1)),c.2.1.push x,c.2.2.1 + 1,c.2.2.2.1,c.2.2.2.2.1 + 1,0))
   else if c.2.2.2.2.1 + 1 >= g then pure (.done (none,c.2.1.push x,c.2.2.1 + 1,c.2.2.2.1,c.2.2.2.2.1 + 1,0))
   else pure (.yield (none,c.2.1.push x,c.2.2.1 + 1,c.2.2.2.1,c.2.2.2.2.1 + 1,0))
 | _=> pure (.done (some (c.2.1 ++ a.extract c.2.2.1 ++ b.extract c.2.2.2.1),c.2.1,c.2.2.1,c.2.2.2.1,c.2.2.2.2.1,c.2.2.2.2.2))
inductive LoR (it: Array Keyed) (lt: Nat -> Nat -> Bool) (pa pb: List Nat) (n: Nat) (c: LoP): Prop
 | fin (x: Array Keyed × Nat × Nat × Nat × Nat) (e: c = (some (im it (mg lt pa pb)),x)): LoR it lt pa pb n c
 | on (o: List Nat) (ia ib k k2: Nat) (e: c = (none,im it o,ia,ib,k,k2)) (T: LoI lt pa pb o ia ib) (h: n < ia + ib): LoR it lt pa pb n c
inductive LoV {α: Type} (f: List Nat -> Nat -> Nat -> Nat -> Nat -> Nat -> α) (κ: SortKind) (arr: Array Keyed) (pend: Array (Nat × Nat × Nat)) (lt: Nat -> Nat -> Bool) (pa pb: List Nat) (n: Nat) (c: α) (st: SortSt): Prop
 | mk (o: List Nat) (ia ib g k k2 g': Nat) (e: c = f o ia ib g k k2) (e2: st = sg κ arr pend g') (T: LoI lt pa pb o ia ib) (h: n <= ia + ib): LoV f κ arr pend lt pa pb n c st
theorem wpS_loOne (hA: Asks prog w A s κ it lt N) (H: Two lt N pa pb) (T: LoI lt pa pb o ia ib) {n g k k2: Nat} (hn: n <= ia + ib) {st: SortSt} (hk: kindOf st = κ) {Q: ForInStep LoP -> SortSt -> Prop}
  (q: ∀ c,LoR it lt pa pb n c -> Q (.done c) st /\ (c.1 = none -> Q (.yield c) st)): wpS (model prog w) A E s (loOne (im it pa) (im it pb) g (none,im it o,ia,ib,k,k2)) Q st:= by
 have ha:= T.ha
 have hb:= T.hb
 unfold loOne
 dsimp only
 refine wpS_bind (wpS_elem hb (wpS_bind (wpS_elem (by exact Nat.lt_of_succ_lt ha) (wpS_bind (wpS_cmp hA (H.okb _ hb) (H.oka _ (by exact Nat.lt_of_succ_lt ha)) hk ?_)))))
 dsimp only
 refine wpS_ite (fun c=> ?_) (fun c=> ?_)
 ·have e:= T.b c
  refine wpS_bind (wpS_elem hb ?_)
  rw [im_push]
  split
  ·rename_i c
   have c: ib + 1 = pb.length:= by rw [im_size] at c;simpa using c
   have key: im it (o ++ [pb.getD ib 0]) ++ (im it pa).extract ia ++ (im it pb).extract (ib + 1) = im it (mg lt pa pb):= by
    rw [im_ext',im_ext',im_app,im_app,<- e,List.drop_eq_nil_of_le (show pb.length <= ib + 1 by exact Nat.le_of_eq (id (Eq.symm c))),mg_nil'];simp
   rw [key]
   exact wpS_pure (q _ (.fin _ rfl)).1
  ·rename_i c
   have c: ib + 1 ≠ pb.length:= by rw [im_size] at c;simpa using c
   have f:= q (none,im it (o ++ [pb.getD ib 0]),ia,ib + 1,0,k2 + 1) (.on _ _ _ _ _ rfl ⟨e,ha,by exact Nat.lt_of_le_of_ne hb c⟩ (by exact Nat.lt_succ_of_le hn))
   exact wpS_ite (fun _=> wpS_pure f.1) fun _=> wpS_pure (f.2 rfl)
 ·have e:= T.a (by simpa using c)
  refine wpS_bind (wpS_elem (by exact Nat.lt_of_succ_lt ha) ?_)
  rw [im_push]
  refine wpS_ite (fun c=> ?_) (fun c=> ?_)
  ·have c: ia + 1 + 1 = pa.length:= by rw [im_size] at c;simpa using c
   have key: im it (o ++ [pa.getD ia 0]) ++ (im it pb).extract ib ++ (im it pa).extract (ia + 1) = im it (mg lt pa pb):= by
    rw [im_ext',im_ext',im_app,im_app,<- e,H.lastA c];simp
   rw [key]
   exact wpS_pure (q _ (.fin _ rfl)).1
  ·have c: ia + 1 + 1 ≠ pa.length:= by rw [im_size] at c;simpa using c
   have f:= q (none,im it (o ++ [pa.getD ia 0]),ia + 1,ib,k + 1,0) (.on _ _ _ _ _ rfl ⟨e,by exact Nat.lt_of_le_of_ne ha c,hb⟩ (by rw [Nat.add_right_comm];exact Nat.lt_succ_of_le hn))
   exact wpS_ite (fun _=> wpS_pure f.1) fun _=> wpS_pure (f.2 rfl)
abbrev LoO:= Option (Array Keyed) × Array Keyed × Nat × Nat × Nat
noncomputable def loOut (a b: Array Keyed) (c: LoO): StateT SortSt Sem (ForInStep LoO):= do
 let d <- forIn [0:a.size + b.size] ((none,c.2.1,c.2.2.1,c.2.2.2.1,0,0): LoP) fun _ d=> loOne a b c.2.2.2.2 d
 match d.1 with
 | some r=> pure (.done (some r,d.2.1,d.2.2.1,d.2.2.2.1,c.2.2.2.2))
 | none=> do
  liftM (rule "list.sort.gallop")
  let e <- forIn [0:a.size + b.size] ((none,d.2.1,d.2.2.1,d.2.2.2.1,c.2.2.2.2 + 1,d.2.2.2.2.1,d.2.2.2.2.2): LoS) fun _ e=> loTurn a b e
  match e.1 with
  | some r=> pure (.done (some r,e.2.1,e.2.2.1,e.2.2.2.1,e.2.2.2.2.1))
  | none=> do
   setG' (e.2.2.2.2.1 + 1)
   pure (.yield (none,e.2.1,e.2.2.1,e.2.2.2.1,e.2.2.2.2.1 + 1))
noncomputable def lo2 (a b: Array Keyed): StateT SortSt Sem (Array Keyed):= do
 liftM (rule "list.sort.merge-lo")
 let y <- elem' b 0
 if (1 == b.size) = true then pure (#[y] ++ a.extract 0 ++ b.extract 1)
 else if (0 + 1 == a.size) = true then pure (#[y] ++ b.extract 1 ++ a.extract 0)
 else do
  let st <- get
  let c <- forIn [0:a.size + b.size] ((none,#[y],0,1,gallopOf st): LoO) fun _ c=> loOut a b c
  match c.1 with
  | some r=> pure r
  | none=> liftM (unsupported "internal:list.sort.merge-bound")
theorem mergeLo'_eq: mergeLo' = lo2:= by kernel_rfl
theorem wpS_loOut (hA: Asks prog w A s κ it lt N) (H: Two lt N pa pb) (T: LoI lt pa pb o ia ib) {n g: Nat} (hn: n <= ia + ib) {arr: Array Keyed} {pend: Array (Nat × Nat × Nat)} {g₀: Nat} {Q: ForInStep LoO -> SortSt -> Prop}
  (q1: ∀ x g',Q (.done (some (im it (mg lt pa pb)),x)) (sg κ arr pend g')) (q2: ∀ o ia ib g g',LoI lt pa pb o ia ib -> n < ia + ib -> Q (.yield (none,im it o,ia,ib,g)) (sg κ arr pend g')) :
  wpS (model prog w) A E s (loOut (im it pa) (im it pb) (none,im it o,ia,ib,g)) Q (sg κ arr pend g₀):= by
 unfold loOut
 dsimp only
 refine wpS_bind (wpS_mono (wpS_forRange (I:= fun x c st=> st = sg κ arr pend g₀ /\ LoV (fun o ia ib _ k k2=> ((none,im it o,ia,ib,k,k2): LoP)) κ arr pend lt pa pb (n + x) c st)
  (Q:= fun c st=> st = sg κ arr pend g₀ /\ LoR it lt pa pb n c) ?_ ?_ ⟨rfl,o,ia,ib,0,0,0,g₀,rfl,rfl,T,hn⟩) ?_)
 ·rintro x c st _ hx ⟨rfl,⟨o,ia,ib,_,k,k2,_,rfl,_,T,hn⟩⟩
  refine wpS_loOne (n:= n + x) (g:= g) hA H T hn rfl fun c hc=> ⟨⟨rfl,?_⟩,fun hno=> ?_⟩
  ·cases hc with
   | fin y e=> exact .fin y e
   | on o ia ib k k2 e T h=> exact .on o ia ib k k2 e T (Nat.lt_of_le_of_lt (Nat.le_add_right _ _) h)
  ·cases hc with
   | fin y e=> rw [e] at hno;cases hno
   | on o ia ib k k2 e T h=> exact ⟨rfl,o,ia,ib,0,k,k2,g₀,e,rfl,T,h⟩
 ·rintro c st ⟨rfl,⟨o,ia,ib,_,k,k2,_,rfl,_,T,hn⟩⟩
  rw [im_size,im_size] at hn
  exact absurd (Nat.lt_of_lt_of_le (Nat.add_lt_add (Nat.lt_of_succ_lt T.ha) T.hb) (Nat.le_trans (Nat.le_max_right _ _) (Nat.le_trans (Nat.le_add_left _ n) hn))) (Nat.lt_irrefl _)
 ·rintro c st ⟨rfl,hc⟩
  cases hc with
  | fin y e=>
   subst e
   exact wpS_pure (q1 _ _)
  | on o ia ib k k2 e T hn=>
   subst e
   dsimp only
   refine wpS_bind (wpS_lift (wpAny_rule ⟨rfl,?_⟩))
   refine wpS_bind (wpS_mono (wpS_forRange (I:= fun _ c st=> LoV (fun o ia ib g k k2=> ((none,im it o,ia,ib,g,k,k2): LoS)) κ arr pend lt pa pb (n + 1) c st)
    (Q:= fun c st=> ∃ g',st = sg κ arr pend g' /\ LoQ it lt pa pb n c) ?_ ?_ ⟨o,ia,ib,_,k,k2,_,rfl,rfl,T,hn⟩) ?_)
   ·rintro x c st _ hx ⟨o,ia,ib,gg,k,k2,g',rfl,rfl,T,hn⟩
    refine wpS_loTurn (n:= n) hA H T (Nat.le_of_lt hn) fun c g' hc=> ⟨⟨g',rfl,hc⟩,fun hno=> ?_⟩
    cases hc with
    | fin y e=> rw [e] at hno;cases hno
    | on o ia ib g k k2 e T h=> exact ⟨o,ia,ib,g,k,k2,g',e,rfl,T,h⟩
   ·rintro c st ⟨o,ia,ib,gg,k,k2,g',rfl,rfl,T,hn⟩
    exact ⟨g',rfl,.on o ia ib gg k k2 rfl T hn⟩
   ·rintro c st ⟨g',rfl,hc⟩
    cases hc with
    | fin y e=>
     subst e
     exact wpS_pure (q1 _ _)
    | on o ia ib gg k k2 e T h=>
     subst e
     exact wpS_bind (wpS_setG (wpS_pure (q2 _ _ _ _ _ T h)))
theorem wpS_mergeLo (hA: Asks prog w A s κ it lt N) (H: Two lt N pa pb) {arr: Array Keyed} {pend: Array (Nat × Nat × Nat)} {g₀: Nat} {Q: Array Keyed -> SortSt -> Prop} (q: ∀ g,Q (im it (mg lt pa pb)) (sg κ arr pend g)) :
  wpS (model prog w) A E s (mergeLo' (im it pa) (im it pb)) Q (sg κ arr pend g₀):= by
 have na:= H.na
 have nb:= H.nb
 have e: [pb.getD 0 0] ++ mg lt (pa.drop 0) (pb.drop 1) = mg lt pa pb:= by
  have:= drop_get na
  have h2:= drop_get nb
  rw [List.drop_zero] at this h2
  conv=> rhs;rw [this,h2,mg_b (H.fb 0 na)]
  rw [List.drop_zero,<- this];rfl
 rw [mergeLo'_eq]
 unfold lo2
 refine wpS_bind (wpS_lift (wpAny_rule ⟨rfl,?_⟩))
 refine wpS_bind (wpS_elem (i:= 0) nb ?_)
 have e1: (#[kas_item it (pb.getD 0 0)]: Array Keyed) = im it [pb.getD 0 0]:= rfl
 rw [e1]
 refine wpS_ite (fun c=> ?_) (fun c=> ?_)
 ·have c: 1 = pb.length:= by rw [im_size] at c;simpa using c
  have key: im it [pb.getD 0 0] ++ (im it pa).extract 0 ++ (im it pb).extract 1 = im it (mg lt pa pb):= by
   rw [im_ext',im_ext',im_app,im_app,<- e,List.drop_eq_nil_of_le (show pb.length <= 1 by exact Nat.le_of_eq (id (Eq.symm c))),mg_nil'];simp
  rw [key]
  exact wpS_pure (q _)
 ·have c: 1 ≠ pb.length:= by rw [im_size] at c;simpa using c
  refine wpS_ite (fun c2=> ?_) (fun c2=> ?_)
  ·have c2: 0 + 1 = pa.length:= by rw [im_size] at c2;simpa using c2
   have key: im it [pb.getD 0 0] ++ (im it pb).extract 1 ++ (im it pa).extract 0 = im it (mg lt pa pb):= by
    rw [im_ext',im_ext',im_app,im_app,<- e,H.lastA c2];simp
   rw [key]
   exact wpS_pure (q _)
  ·have c2: 0 + 1 ≠ pa.length:= by rw [im_size] at c2;simpa using c2
   refine wpS_bind (wpS_get ?_)
   refine wpS_bind (wpS_mono (wpS_forRange (I:= fun t (c: LoO) st=> ∃ o ia ib g g',c = (none,im it o,ia,ib,g) /\ st = sg κ arr pend g' /\ LoI lt pa pb o ia ib /\ t < ia + ib)
    (Q:= fun c st=> ∃ x g',c = (some (im it (mg lt pa pb)),x) /\ st = sg κ arr pend g') ?_ ?_ ⟨_,0,1,_,g₀,rfl,rfl,⟨e,by exact Nat.lt_of_le_of_ne na c2,by exact Nat.lt_of_le_of_ne nb c⟩,by exact Nat.zero_lt_succ 0⟩) ?_)
   ·rintro t c st _ ht ⟨o,ia,ib,g,g',rfl,rfl,T,hn⟩
    exact wpS_loOut hA H T (n:= t + 1) hn (fun x g'=> ⟨x,g',rfl,rfl⟩) fun o ia ib g g' T hn=> ⟨o,ia,ib,g,g',rfl,rfl,T,hn⟩
   ·rintro c st ⟨o,ia,ib,g,g',rfl,rfl,T,hn⟩
    rw [im_size,im_size] at hn
    exact absurd (Nat.lt_of_lt_of_le (Nat.add_lt_add (Nat.lt_of_succ_lt T.ha) T.hb) (Nat.le_trans (Nat.le_max_right _ _) (Nat.le_of_lt hn))) (Nat.lt_irrefl _)
   ·rintro c st ⟨x,g',rfl,rfl⟩
    exact wpS_pure (q g')
end
noncomputable def mergeHi': Array Keyed -> Array Keyed -> StateT SortSt Sem (Array Keyed):= sortPriv% PySem.Builtin.mergeHi
theorem take_get {l: List Nat} {n: Nat} (h: 0 < n) (hn: n <= l.length): l.take n = l.take (n - 1) ++ [l.getD (n - 1) 0]:= by
 obtain ⟨m,rfl⟩: ∃ m,n = m + 1:= ⟨n - 1,by exact (Nat.sub_eq_iff_eq_add h).mp rfl⟩
 rw [List.take_add_one,Nat.add_sub_cancel,List.getD_eq_getElem?_getD,List.getElem?_eq_getElem (by exact Nat.lt_of_succ_le hn)];rfl
theorem take_split (l: List Nat) {i n: Nat} (h: i <= n): l.take n = l.take i ++ (l.drop i).take (n - i):= by
 have: n = i + (n - i):= by exact Eq.symm (Nat.add_sub_of_le h)
 rw [this,List.take_add,Nat.add_sub_cancel_left]
section
variable {prog: Program} {w: World} {A: Around} {E: Value -> Shared -> Prop} {s: Shared} {κ: SortKind} {it: Array Keyed} {lt: Nat -> Nat -> Bool} {N: Nat} {pa pb o: List Nat} {na nb: Nat}
theorem im_rev (l: List Nat): (im it l).reverse = im it l.reverse:= by simp [im]
theorem im_take (l: List Nat) (n: Nat): (im it l).extract 0 n = im it (l.take n):= by rw [im_ext];rfl
structure HiI (lt: Nat -> Nat -> Bool) (pa pb o: List Nat) (na nb: Nat): Prop where
 e: mg lt (pa.take na) (pb.take nb) ++ o.reverse = mg lt pa pb
 ha: 0 < na
 hb: 1 < nb
 ha': na <= pa.length
 hb': nb <= pb.length
theorem HiI.a (H: Two lt N pa pb) (T: HiI lt pa pb o na nb) (h: ∀ j,j < nb -> lt (pb.getD j 0) (pa.getD (na - 1) 0) = true): mg lt (pa.take (na - 1)) (pb.take nb) ++ (o ++ [pa.getD (na - 1) 0]).reverse = mg lt pa pb:= by
 rw [<- T.e,take_get T.ha T.ha',mg_snocA _ _ _ rfl fun y m=> by obtain ⟨j,h1,_,rfl⟩:= mem_take_getD m;exact h j h1];simp
theorem HiI.b (H: Two lt N pa pb) (e: mg lt (pa.take na) (pb.take nb) ++ o.reverse = mg lt pa pb) (hb: 0 < nb) (hb': nb <= pb.length) (h: ∀ i,i < na -> lt (pb.getD (nb - 1) 0) (pa.getD i 0) = false): mg lt (pa.take na) (pb.take (nb - 1)) ++ (o ++ [pb.getD (nb - 1) 0]).reverse = mg lt pa pb:= by
 rw [<- e,take_get hb hb',mg_snocB _ _ _ rfl fun y m=> by obtain ⟨j,h1,_,rfl⟩:= mem_take_getD m;exact h j h1];simp
theorem Two.firstB (H: Two lt N pa pb) (ha: 0 < na) (ha': na <= pa.length): mg lt (pa.take na) (pb.take 1) = pb.take 1 ++ pa.take na:= by
 obtain ⟨x,a,e⟩: ∃ x a,pa = x :: a:= by cases pa with | nil=> simp at ha';lia | cons x a=> exact ⟨x,a,rfl⟩
 obtain ⟨y,b,e2⟩: ∃ y b,pb = y :: b:= by have:= H.nb;cases pb with | nil=> simp at this | cons y b=> exact ⟨y,b,rfl⟩
 obtain ⟨n,rfl⟩: ∃ n,na = n + 1:= ⟨na - 1,by exact (Nat.sub_eq_iff_eq_add ha).mp rfl⟩
 have h:= H.fb 0 (by exact H.na)
 subst e e2
 exact mg_headB h
abbrev HiS:= Option (Array Keyed) × Nat × Nat × Array Keyed × Nat × Nat × Nat
inductive HiQ (it: Array Keyed) (lt: Nat -> Nat -> Bool) (pa pb: List Nat) (n: Nat) (c: HiS): Prop
 | fin (x: Nat × Nat × Array Keyed × Nat × Nat × Nat) (e: c = (some (im it (mg lt pa pb)),x)): HiQ it lt pa pb n c
 | on (o: List Nat) (na nb g k k2: Nat) (e: c = (Option.none,na,nb,im it o,g,k,k2)) (T: HiI lt pa pb o na nb) (h: na + nb < n): HiQ it lt pa pb n c
noncomputable def hiEnd (a b: Array Keyed) (out: Array Keyed) (na nb g k k2: Nat): StateT SortSt Sem (ForInStep HiS):= do
 let x <- elem' a (na - 1)
 if (na - 1 == 0) = true then pure (.done (some (a.extract 0 (na - 1) ++ b.extract 0 nb ++ (out.push x).reverse),na - 1,nb,out.push x,g,k,k2))
 else if (decide (k < 7) && decide (k2 < 7)) = true then pure (.done (none,na - 1,nb,out.push x,g,k,k2))
 else pure (.yield (none,na - 1,nb,out.push x,g,k,k2))
theorem wpS_hiEnd (H: Two lt N pa pb) (T: HiI lt pa pb o na nb) (h: ∀ j,j < nb -> lt (pb.getD j 0) (pa.getD (na - 1) 0) = true) {n g k k2: Nat} (hn: na + nb <= n) {st: SortSt} {Q: ForInStep HiS -> SortSt -> Prop}
  (q: ∀ c,HiQ it lt pa pb n c -> Q (.done c) st /\ (c.1 = none -> Q (.yield c) st)): wpS (model prog w) A E s (hiEnd (im it pa) (im it pb) (im it o) na nb g k k2) Q st:= by
 have ha:= T.ha
 have ha':= T.ha'
 have e:= T.a H h
 unfold hiEnd
 refine wpS_bind (wpS_elem (by exact Nat.sub_one_lt_of_le ha ha') ?_)
 rw [im_push]
 refine wpS_ite (fun c=> ?_) (fun c=> ?_)
 ·have c: na - 1 = 0:= by simpa using c
  have key: (im it pa).extract 0 (na - 1) ++ (im it pb).extract 0 nb ++ (im it (o ++ [pa.getD (na - 1) 0])).reverse = im it (mg lt pa pb):= by
   rw [im_take,im_take,im_rev,im_app,im_app,<- e,c,List.take_zero,mg_nil];rfl
  rw [key]
  exact wpS_pure (q _ (.fin _ rfl)).1
 ·have c: na - 1 ≠ 0:= by simpa using c
  have f:= q (none,na - 1,nb,im it (o ++ [pa.getD (na - 1) 0]),g,k,k2) (.on _ _ _ _ _ _ rfl ⟨e,by exact Nat.zero_lt_of_ne_zero c,T.hb,by exact ar_j1 ha',T.hb'⟩ (by exact ar_pl4 hn ha))
  exact wpS_ite (fun _=> wpS_pure f.1) fun _=> wpS_pure (f.2 rfl)
noncomputable def hiMid (a b: Array Keyed) (out: Array Keyed) (na nb g k bc: Nat): StateT SortSt Sem (ForInStep HiS):= do
 let y <- elem' b (nb - 1)
 if (nb - 1 == 1) = true then pure (.done (some (b.extract 0 (nb - 1) ++ a.extract 0 na ++ (out.push y).reverse),na,nb - 1,out.push y,g,k,bc))
 else do
  let x <- elem' a (na - 1)
  let r <- gallop' true x b 0 (nb - 1) (nb - 1 - 1)
  match r with
  | some at2=>
   if nb - 1 - at2 > 0 then
    if (at2 == 1) = true then pure (.done (some (b.extract 0 at2 ++ a.extract 0 na ++ (out.push y ++ (b.extract at2 (nb - 1)).reverse).reverse),na,at2,out.push y ++ (b.extract at2 (nb - 1)).reverse,g,k,nb - 1 - at2))
    else if (at2 == 0) = true then pure (.done (some (a.extract 0 na ++ b.extract 0 at2 ++ (out.push y ++ (b.extract at2 (nb - 1)).reverse).reverse),na,at2,out.push y ++ (b.extract at2 (nb - 1)).reverse,g,k,nb - 1 - at2))
    else hiEnd a b (out.push y ++ (b.extract at2 (nb - 1)).reverse) na at2 g k (nb - 1 - at2)
   else hiEnd a b (out.push y) na (nb - 1) g k (nb - 1 - at2)
  | _=> pure (.done (some (a.extract 0 na ++ b.extract 0 (nb - 1) ++ (out.push y).reverse),na,nb - 1,out.push y,g,k,bc))
theorem wpS_hiMid (hA: Asks prog w A s κ it lt N) (H: Two lt N pa pb) (T: HiI lt pa pb o na nb) (h: ∀ i,i < na -> lt (pb.getD (nb - 1) 0) (pa.getD i 0) = false) {n g k bc: Nat} (hn: na + nb <= n) {st: SortSt} (hk: kindOf st = κ) {Q: ForInStep HiS -> SortSt -> Prop}
  (q: ∀ c,HiQ it lt pa pb n c -> Q (.done c) st /\ (c.1 = none -> Q (.yield c) st)): wpS (model prog w) A E s (hiMid (im it pa) (im it pb) (im it o) na nb g k bc) Q st:= by
 have ha:= T.ha
 have ha':= T.ha'
 have hb:= T.hb
 have hb':= T.hb'
 have e:= HiI.b H T.e (by exact Nat.zero_lt_of_lt hb) hb' h
 unfold hiMid
 refine wpS_bind (wpS_elem (by exact ar_pl2 hb hb') ?_)
 rw [im_push]
 refine wpS_ite (fun c=> ?_) (fun c=> ?_)
 ·have c: nb - 1 = 1:= by simpa using c
  have key: (im it pb).extract 0 (nb - 1) ++ (im it pa).extract 0 na ++ (im it (o ++ [pb.getD (nb - 1) 0])).reverse = im it (mg lt pa pb):= by
   rw [c] at e ⊢
   rw [im_take,im_take,im_rev,im_app,im_app,<- e,H.firstB ha ha']
  rw [key]
  exact wpS_pure (q _ (.fin _ rfl)).1
 ·have c: nb - 1 ≠ 1:= by simpa using c
  refine wpS_bind (wpS_elem (by exact Nat.sub_one_lt_of_le ha ha') ?_)
  refine wpS_bind (wpS_gallop (P:= fun i=> pb.getD i 0) (b:= fun i=> lt (pb.getD i 0) (pa.getD (na - 1) 0)) hA (H.oka _ (by exact Nat.sub_one_lt_of_le ha ha')) (fun i hi=> ⟨by rw [Nat.zero_add];exact im_get it (by exact ar_pl3 hb hb' hi),H.okb _ (by exact ar_pl3 hb hb' hi)⟩) (by exact ar_sub_lt hb) (fun _ _=> rfl)
   (fun i j hij hj hlt=> ?_) hk fun k2 h1 h2 h3=> ?_)
  ·rcases Nat.lt_or_ge i j with hij | hij
   ·rcases H.W.neg _ (pb.getD i 0) _ hlt with r | r
    ·rw [H.b _ _ hij (by exact ar_pl3 hb hb' hj)] at r;cases r
    ·exact r
   ·rw [show i = j by (expose_names;exact Nat.le_antisymm hij_1 hij)];exact hlt
  ·dsimp only at h2 h3 ⊢
   have k1: 1 <= k2:= by
    rcases Nat.eq_zero_or_pos k2 with rfl | h
    ·have:= h3 0 (Nat.le_refl _) (by exact Nat.zero_lt_sub_of_lt hb)
     rw [H.fb _ (show na - 1 < pa.length by exact Nat.sub_one_lt_of_le ha ha')] at this;cases this
    ·exact h
   have e2: mg lt (pa.take na) (pb.take k2) ++ (o ++ [pb.getD (nb - 1) 0] ++ ((pb.drop k2).take (nb - 1 - k2)).reverse).reverse = mg lt pa pb:= by
    rw [<- e,take_split pb h1,mg_appB _ _ _ fun y my x mx=> ?_]
    ·simp
    ·obtain ⟨j,j1,j2,rfl⟩:= mem_mid_getD my
     obtain ⟨i,i1,i2,rfl⟩:= mem_take_getD mx
     have h4:= h3 (k2 + j) (by exact Nat.le_add_right k2 j) (by exact Nat.add_lt_of_lt_sub' j1)
     rcases Nat.lt_or_ge i (na - 1) with hi | hi
     ·exact H.W.le (H.a i (na - 1) hi (by exact Nat.sub_one_lt_of_le ha ha')) h4
     ·rw [show i = na - 1 by exact ar_pl7 i1 hi];exact h4
   refine wpS_ite (fun c2=> ?_) (fun c2=> ?_)
   ·have ex: (im it pb).extract k2 (nb - 1) = im it ((pb.drop k2).take (nb - 1 - k2)):= im_ext ..
    rw [ex,im_rev,im_app]
    refine wpS_ite (fun c3=> ?_) (fun c3=> ?_)
    ·have c3: k2 = 1:= by simpa using c3
     have key: (im it pb).extract 0 k2 ++ (im it pa).extract 0 na ++ (im it (o ++ [pb.getD (nb - 1) 0] ++ ((pb.drop k2).take (nb - 1 - k2)).reverse)).reverse = im it (mg lt pa pb):= by
      rw [im_take,im_take,im_rev,im_app,im_app,<- e2]
      subst c3
      rw [H.firstB ha ha']
     rw [key]
     exact wpS_pure (q _ (.fin _ rfl)).1
    ·have c3: k2 ≠ 1:= by simpa using c3
     rw [if_neg (by simp;(exact Nat.ne_zero_of_lt k1))]
     exact wpS_hiEnd H ⟨e2,ha,by exact Nat.lt_of_le_of_ne k1 (id (Ne.symm c3)),ha',by exact ar_pl9 hb' c2⟩ h2 (by exact ar_pl8 c2 hn) q
   ·obtain rfl: k2 = nb - 1:= by exact ar_pl10 h1 c2
    exact wpS_hiEnd H ⟨e,ha,by exact Nat.lt_of_le_of_ne k1 (id (Ne.symm c)),ha',by exact ar_j1 hb'⟩ h2 (by exact ar_pl6 hn hb) q
noncomputable def hiGo (a b: Array Keyed) (c: HiS) (g: Nat): StateT SortSt Sem (ForInStep HiS):= do
 setG' g
 let y <- elem' b (c.2.2.1 - 1)
 let r <- gallop' false y a 0 c.2.1 (c.2.1 - 1)
 match r with
 | some at1=>
  if c.2.1 - at1 > 0 then
   if (at1 == 0) = true then pure (.done (some (a.extract 0 at1 ++ b.extract 0 c.2.2.1 ++ (c.2.2.2.1 ++ (a.extract at1 c.2.1).reverse).reverse),at1,c.2.2.1,c.2.2.2.1 ++ (a.extract at1 c.2.1).reverse,g,c.2.1 - at1,c.2.2.2.2.2.2))
   else hiMid a b (c.2.2.2.1 ++ (a.extract at1 c.2.1).reverse) at1 c.2.2.1 g (c.2.1 - at1) c.2.2.2.2.2.2
  else hiMid a b c.2.2.2.1 c.2.1 c.2.2.1 g (c.2.1 - at1) c.2.2.2.2.2.2
 | _=> pure (.done (some (a.extract 0 c.2.1 ++ b.extract 0 c.2.2.1 ++ c.2.2.2.1.reverse),c.2.1,c.2.2.1,c.2.2.2.1,g,c.2.2.2.2.2.1,c.2.2.2.2.2.2))
noncomputable def hiTurn (a b: Array Keyed) (c: HiS): StateT SortSt Sem (ForInStep HiS):= if c.2.2.2.2.1 > 1 then hiGo a b c (c.2.2.2.2.1 - 1) else hiGo a b c c.2.2.2.2.1
theorem wpS_hiGo (hA: Asks prog w A s κ it lt N) (H: Two lt N pa pb) (T: HiI lt pa pb o na nb) {n g k bc: Nat} (hn: na + nb <= n) {arr: Array Keyed} {pend: Array (Nat × Nat × Nat)} {g₀ g': Nat} {Q: ForInStep HiS -> SortSt -> Prop}
  (q: ∀ c g',HiQ it lt pa pb n c -> Q (.done c) (sg κ arr pend g') /\ (c.1 = none -> Q (.yield c) (sg κ arr pend g'))): wpS (model prog w) A E s (hiGo (im it pa) (im it pb) (none,na,nb,im it o,g,k,bc) g') Q (sg κ arr pend g₀):= by
 have ha:= T.ha
 have ha':= T.ha'
 have hb:= T.hb
 have hb':= T.hb'
 unfold hiGo
 dsimp only
 refine wpS_bind (wpS_setG (g':= g') ?_)
 refine wpS_bind (wpS_elem (by exact ar_pl2 hb hb') ?_)
 refine wpS_bind (wpS_gallop (P:= fun i=> pa.getD i 0) (b:= fun i=> !lt (pb.getD (nb - 1) 0) (pa.getD i 0)) hA (H.okb _ (by exact ar_pl2 hb hb')) (fun i hi=> ⟨by rw [Nat.zero_add];exact im_get it (by exact Nat.lt_of_lt_of_le hi ha'),H.oka _ (by exact Nat.lt_of_lt_of_le hi ha')⟩) (by exact Nat.sub_one_lt_of_lt ha) (fun _ _=> rfl)
  (fun i j hij hj hlt=> ?_) rfl fun k2 h1 h2 h3=> ?_)
 ·rcases Nat.lt_or_ge i j with hij | hij
  ·have hlt: lt (pb.getD (nb - 1) 0) (pa.getD j 0) = false:= by simpa using hlt
   show (!lt (pb.getD (nb - 1) 0) (pa.getD i 0)) = true
   rw [H.W.le (H.a _ _ hij (by exact Nat.lt_of_lt_of_le hj ha')) hlt];rfl
  ·rw [show i = j by (expose_names;exact Nat.le_antisymm hij_1 hij)];exact hlt
 ·have h2: ∀ i,i < k2 -> lt (pb.getD (nb - 1) 0) (pa.getD i 0) = false:= fun i hi=> by have:= h2 i hi;simpa using this
  have h3: ∀ i,k2 <= i -> i < na -> lt (pb.getD (nb - 1) 0) (pa.getD i 0) = true:= fun i hi hj=> by have:= h3 i hi hj;simpa using this
  have e2: mg lt (pa.take k2) (pb.take nb) ++ (o ++ ((pa.drop k2).take (na - k2)).reverse).reverse = mg lt pa pb:= by
   rw [<- T.e,take_split pa h1,mg_appA _ _ _ fun x mx y my=> ?_]
   ·simp
   ·obtain ⟨i,j1,j2,rfl⟩:= mem_mid_getD mx
    obtain ⟨j,i1,i2,rfl⟩:= mem_take_getD my
    have h4:= h3 (k2 + i) (by exact Nat.le_add_right k2 i) (by exact Nat.add_lt_of_lt_sub' j1)
    rcases Nat.lt_or_ge j (nb - 1) with hi | hi
    ·rcases H.W.neg _ (pb.getD j 0) _ h4 with r | r
     ·rw [H.b j (nb - 1) hi (by exact ar_pl2 hb hb')] at r;cases r
     ·exact r
    ·rw [show j = nb - 1 by exact ar_pl7 i1 hi];exact h4
  dsimp only
  refine wpS_ite (fun c2=> ?_) (fun c2=> ?_)
  ·have ex: (im it pa).extract k2 na = im it ((pa.drop k2).take (na - k2)):= im_ext ..
   rw [ex,im_rev,im_app]
   refine wpS_ite (fun c3=> ?_) (fun c3=> ?_)
   ·have c3: k2 = 0:= by simpa using c3
    have key: (im it pa).extract 0 k2 ++ (im it pb).extract 0 nb ++ (im it (o ++ ((pa.drop k2).take (na - k2)).reverse)).reverse = im it (mg lt pa pb):= by
     rw [im_take,im_take,im_rev,im_app,im_app,<- e2]
     subst c3
     rw [List.take_zero,mg_nil];rfl
    rw [key]
    exact wpS_pure (q _ _ (.fin _ rfl)).1
   ·have c3: k2 ≠ 0:= by simpa using c3
    exact wpS_hiMid hA H ⟨e2,by exact Nat.zero_lt_of_ne_zero c3,hb,by exact Nat.le_trans h1 ha',hb'⟩ h2 (by exact ar_j7 hn h1) rfl fun c=> q c g'
  ·obtain rfl: k2 = na:= by exact ar_j6 h1 c2
   exact wpS_hiMid hA H T h2 hn rfl fun c=> q c g'
theorem wpS_hiTurn (hA: Asks prog w A s κ it lt N) (H: Two lt N pa pb) (T: HiI lt pa pb o na nb) {n g k bc: Nat} (hn: na + nb <= n) {arr: Array Keyed} {pend: Array (Nat × Nat × Nat)} {g₀: Nat} {Q: ForInStep HiS -> SortSt -> Prop}
  (q: ∀ c g',HiQ it lt pa pb n c -> Q (.done c) (sg κ arr pend g') /\ (c.1 = none -> Q (.yield c) (sg κ arr pend g'))): wpS (model prog w) A E s (hiTurn (im it pa) (im it pb) (none,na,nb,im it o,g,k,bc)) Q (sg κ arr pend g₀):=
 wpS_ite (fun _=> wpS_hiGo hA H T hn q) fun _=> wpS_hiGo hA H T hn q
abbrev HiP:= Option (Array Keyed) × Nat × Nat × Array Keyed × Nat × Nat
inductive HiR (it: Array Keyed) (lt: Nat -> Nat -> Bool) (pa pb: List Nat) (n: Nat) (c: HiP): Prop
 | fin (x: Nat × Nat × Array Keyed × Nat × Nat) (e: c = (some (im it (mg lt pa pb)),x)): HiR it lt pa pb n c
 | on (o: List Nat) (na nb k k2: Nat) (e: c = (Option.none,na,nb,im it o,k,k2)) (T: HiI lt pa pb o na nb) (h: na + nb < n): HiR it lt pa pb n c
noncomputable def hiOne (a b: Array Keyed) (g: Nat) (c: HiP): StateT SortSt Sem (ForInStep HiP):= do
 let y <- elem' b (c.2.2.1 - 1)
 let x <- elem' a (c.2.1 - 1)
 let r <- lt' y x
 match r with
 | some aWins=>
  if aWins = true then do
   let x <- elem' a (c.2.1 - 1)
   if (c.2.1 - 1 == 0) = true then pure (.done (some (a.extract 0 (c.2.1 - 1) ++ b.extract 0 c.2.2.1 ++ (c.2.2.2.1.push x).reverse),c.2.1 - 1,c.2.2.1,c.2.2.2.1.push x,c.2.2.2.2.1 + 1,0))
   else if c.2.2.2.2.1 + 1 >= g then pure (.done (none,c.2.1 - 1,c.2.2.1,c.2.2.2.1.push x,c.2.2.2.2.1 + 1,0))
   else pure (.yield (none,c.2.1 - 1,c.2.2.1,c.2.2.2.1.push x,c.2.2.2.2.1 + 1,0))
  else do
   let y <- elem' b (c.2.2.1 - 1)
   if (c.2.2.1 - 1 == 1) = true then pure (.done (some (b.extract 0 (c.2.2.1 - 1) ++ a.extract 0 c.2.1 ++ (c.2.2.2.1.push y).reverse),c.2.1,c.2.2.1 - 1,c.2.2.2.1.push y,0,c.2.2.2.2.2 + 1))
   else if c.2.2.2.2.2 + 1 >= g then pure (.done (none,c.2.1,c.2.2.1 - 1,c.2.2.2.1.push y,0,c.2.2.2.2.2 + 1))
   else pure (.yield (none,c.2.1,c.2.2.1 - 1,c.2.2.2.1.push y,0,c.2.2.2.2.2 + 1))
 | _=> pure (.done (some (a.extract 0 c.2.1 ++ b.extract 0 c.2.2.1 ++ c.2.2.2.1.reverse),c.2.1,c.2.2.1,c.2.2.2.1,c.2.2.2.2.1,c.2.2.2.2.2))
theorem wpS_hiOne (hA: Asks prog w A s κ it lt N) (H: Two lt N pa pb) (T: HiI lt pa pb o na nb) {n g k k2: Nat} (hn: na + nb <= n) {st: SortSt} (hk: kindOf st = κ) {Q: ForInStep HiP -> SortSt -> Prop}
  (q: ∀ c,HiR it lt pa pb n c -> Q (.done c) st /\ (c.1 = none -> Q (.yield c) st)): wpS (model prog w) A E s (hiOne (im it pa) (im it pb) g (none,na,nb,im it o,k,k2)) Q st:= by
 have ha:= T.ha
 have ha':= T.ha'
 have hb:= T.hb
 have hb':= T.hb'
 unfold hiOne
 dsimp only
 refine wpS_bind (wpS_elem (by exact ar_pl2 hb hb') (wpS_bind (wpS_elem (by exact Nat.sub_one_lt_of_le ha ha') (wpS_bind (wpS_cmp hA (H.okb _ (by exact ar_pl2 hb hb')) (H.oka _ (by exact Nat.sub_one_lt_of_le ha ha')) hk ?_)))))
 refine wpS_ite (fun c=> ?_) (fun c=> ?_)
 ·have e:= T.a H fun j hj=> by
   rcases Nat.lt_or_ge j (nb - 1) with hi | hi
   ·rcases H.W.neg _ (pb.getD j 0) _ c with r | r
    ·rw [H.b j (nb - 1) hi (by exact ar_pl2 hb hb')] at r;cases r
    ·exact r
   ·rw [show j = nb - 1 by exact ar_pl7 hj hi];exact c
  refine wpS_bind (wpS_elem (by exact Nat.sub_one_lt_of_le ha ha') ?_)
  rw [im_push]
  refine wpS_ite (fun c=> ?_) (fun c=> ?_)
  ·have c: na - 1 = 0:= by simpa using c
   have key: (im it pa).extract 0 (na - 1) ++ (im it pb).extract 0 nb ++ (im it (o ++ [pa.getD (na - 1) 0])).reverse = im it (mg lt pa pb):= by
    rw [im_take,im_take,im_rev,im_app,im_app,<- e,c,List.take_zero,mg_nil];rfl
   rw [key]
   exact wpS_pure (q _ (.fin _ rfl)).1
  ·have c: na - 1 ≠ 0:= by simpa using c
   have f:= q (none,na - 1,nb,im it (o ++ [pa.getD (na - 1) 0]),k + 1,0) (.on _ _ _ _ _ rfl ⟨e,by exact Nat.zero_lt_of_ne_zero c,hb,by exact ar_j1 ha',hb'⟩ (by exact ar_pl4 hn ha))
   exact wpS_ite (fun _=> wpS_pure f.1) fun _=> wpS_pure (f.2 rfl)
 ·have c: lt (pb.getD (nb - 1) 0) (pa.getD (na - 1) 0) = false:= by simpa using c
  have e:= HiI.b H T.e (by exact Nat.zero_lt_of_lt hb) hb' fun i hi=> by
   rcases Nat.lt_or_ge i (na - 1) with hi | hi
   ·exact H.W.le (H.a i (na - 1) hi (by exact Nat.sub_one_lt_of_le ha ha')) c
   ·rw [show i = na - 1 by (expose_names;exact ar_pl7 hi_1 hi)];exact c
  refine wpS_bind (wpS_elem (by exact ar_pl2 hb hb') ?_)
  rw [im_push]
  refine wpS_ite (fun c=> ?_) (fun c=> ?_)
  ·have c: nb - 1 = 1:= by simpa using c
   have key: (im it pb).extract 0 (nb - 1) ++ (im it pa).extract 0 na ++ (im it (o ++ [pb.getD (nb - 1) 0])).reverse = im it (mg lt pa pb):= by
    rw [c] at e ⊢
    rw [im_take,im_take,im_rev,im_app,im_app,<- e,H.firstB ha ha']
   rw [key]
   exact wpS_pure (q _ (.fin _ rfl)).1
  ·have c: nb - 1 ≠ 1:= by simpa using c
   have f:= q (none,na,nb - 1,im it (o ++ [pb.getD (nb - 1) 0]),0,k2 + 1) (.on _ _ _ _ _ rfl ⟨e,ha,by (expose_names;exact ar_j2 hb c_3),ha',by exact ar_j1 hb'⟩ (by exact ar_pl5 hn hb))
   exact wpS_ite (fun _=> wpS_pure f.1) fun _=> wpS_pure (f.2 rfl)
abbrev HiO:= Option (Array Keyed) × Nat × Nat × Array Keyed × Nat
noncomputable def hiOut (a b: Array Keyed) (c: HiO): StateT SortSt Sem (ForInStep HiO):= do
 let d <- forIn [0:a.size + b.size] ((none,c.2.1,c.2.2.1,c.2.2.2.1,0,0): HiP) fun _ d=> hiOne a b c.2.2.2.2 d
 match d.1 with
 | some r=> pure (.done (some r,d.2.1,d.2.2.1,d.2.2.2.1,c.2.2.2.2))
 | none=> do
  liftM (rule "list.sort.gallop")
  let e <- forIn [0:a.size + b.size] ((none,d.2.1,d.2.2.1,d.2.2.2.1,c.2.2.2.2 + 1,d.2.2.2.2.1,d.2.2.2.2.2): HiS) fun _ e=> hiTurn a b e
  match e.1 with
  | some r=> pure (.done (some r,e.2.1,e.2.2.1,e.2.2.2.1,e.2.2.2.2.1))
  | none=> do
   setG' (e.2.2.2.2.1 + 1)
   pure (.yield (none,e.2.1,e.2.2.1,e.2.2.2.1,e.2.2.2.2.1 + 1))
noncomputable def hi2 (a b: Array Keyed): StateT SortSt Sem (Array Keyed):= do
 liftM (rule "list.sort.merge-hi")
 let x <- elem' a (a.size - 1)
 if (a.size - 1 == 0) = true then pure (a.extract 0 (a.size - 1) ++ b.extract 0 b.size ++ #[x].reverse)
 else if (b.size == 1) = true then pure (b.extract 0 b.size ++ a.extract 0 (a.size - 1) ++ #[x].reverse)
 else do
  let st <- get
  let c <- forIn [0:a.size + b.size] ((none,a.size - 1,b.size,#[x],gallopOf st): HiO) fun _ c=> hiOut a b c
  match c.1 with
  | some r=> pure r
  | none=> liftM (unsupported "internal:list.sort.merge-bound")
theorem mergeHi'_eq: mergeHi' = hi2:= by kernel_rfl
inductive HiV {α: Type} (f: List Nat -> Nat -> Nat -> Nat -> Nat -> Nat -> α) (κ: SortKind) (arr: Array Keyed) (pend: Array (Nat × Nat × Nat)) (lt: Nat -> Nat -> Bool) (pa pb: List Nat) (n: Nat) (c: α) (st: SortSt): Prop
 | mk (o: List Nat) (na nb g k k2 g': Nat) (e: c = f o na nb g k k2) (e2: st = sg κ arr pend g') (T: HiI lt pa pb o na nb) (h: na + nb < n): HiV f κ arr pend lt pa pb n c st
theorem wpS_hiOut (hA: Asks prog w A s κ it lt N) (H: Two lt N pa pb) (T: HiI lt pa pb o na nb) {n g: Nat} (hn: na + nb <= n) {arr: Array Keyed} {pend: Array (Nat × Nat × Nat)} {g₀: Nat} {Q: ForInStep HiO -> SortSt -> Prop}
  (q1: ∀ x g',Q (.done (some (im it (mg lt pa pb)),x)) (sg κ arr pend g')) (q2: ∀ o na nb g g',HiI lt pa pb o na nb -> na + nb < n -> Q (.yield (none,na,nb,im it o,g)) (sg κ arr pend g')) :
  wpS (model prog w) A E s (hiOut (im it pa) (im it pb) (none,na,nb,im it o,g)) Q (sg κ arr pend g₀):= by
 have sz:= T.ha'
 have sz2:= T.hb'
 have pz:= T.ha
 unfold hiOut
 dsimp only
 refine wpS_bind (wpS_mono (wpS_forRange (I:= fun x c st=> st = sg κ arr pend g₀ /\ HiV (fun o na nb _ k k2=> ((none,na,nb,im it o,k,k2): HiP)) κ arr pend lt pa pb (n + 1 - x) c st)
  (Q:= fun c st=> st = sg κ arr pend g₀ /\ HiR it lt pa pb n c) ?_ ?_ ⟨rfl,o,na,nb,0,0,0,g₀,rfl,rfl,T,by exact Nat.lt_succ_of_le hn⟩) ?_)
 ·rintro x c st _ hx ⟨rfl,⟨o,na,nb,_,k,k2,_,rfl,_,T,hn⟩⟩
  refine wpS_hiOne (n:= n - x) (g:= g) hA H T (by exact ar_le_sub hn) rfl fun c hc=> ⟨⟨rfl,?_⟩,fun hno=> ?_⟩
  ·cases hc with
   | fin y e=> exact .fin y e
   | on o na nb k k2 e T h=> exact .on o na nb k k2 e T (by exact ar_lt_sub h)
  ·cases hc with
   | fin y e=> rw [e] at hno;cases hno
   | on o na nb k k2 e T h=> exact ⟨rfl,o,na,nb,0,k,k2,g₀,e,rfl,T,by exact ar_j8 h⟩
 ·rintro c st ⟨rfl,⟨o,na,nb,_,k,k2,_,rfl,_,T,hn⟩⟩
  rw [im_size,im_size] at hn
  have:= T.ha
  have:= T.hb
  have:= T.ha'
  have:= T.hb'
  have:= H.na
  have:= H.nb
  exact ⟨rfl,.on o na nb k k2 rfl T (by (expose_names;exact ar_j3 hn this_1 this_2 this_3 this_4))⟩
 ·rintro c st ⟨rfl,hc⟩
  cases hc with
  | fin y e=>
   subst e
   exact wpS_pure (q1 _ _)
  | on o na nb k k2 e T hn=>
   subst e
   dsimp only
   refine wpS_bind (wpS_lift (wpAny_rule ⟨rfl,?_⟩))
   refine wpS_bind (wpS_mono (wpS_forRange (I:= fun _ c st=> HiV (fun o na nb g k k2=> ((none,na,nb,im it o,g,k,k2): HiS)) κ arr pend lt pa pb n c st)
    (Q:= fun c st=> ∃ g',st = sg κ arr pend g' /\ HiQ it lt pa pb n c) ?_ ?_ ⟨o,na,nb,_,k,k2,_,rfl,rfl,T,hn⟩) ?_)
   ·rintro x c st _ hx ⟨o,na,nb,gg,k,k2,g',rfl,rfl,T,hn⟩
    refine wpS_hiTurn (n:= n) hA H T (Nat.le_of_lt hn) fun c g' hc=> ⟨⟨g',rfl,hc⟩,fun hno=> ?_⟩
    cases hc with
    | fin y e=> rw [e] at hno;cases hno
    | on o na nb g k k2 e T h=> exact ⟨o,na,nb,g,k,k2,g',e,rfl,T,h⟩
   ·rintro c st ⟨o,na,nb,gg,k,k2,g',rfl,rfl,T,hn⟩
    exact ⟨g',rfl,.on o na nb gg k k2 rfl T hn⟩
   ·rintro c st ⟨g',rfl,hc⟩
    cases hc with
    | fin y e=>
     subst e
     exact wpS_pure (q1 _ _)
    | on o na nb gg k k2 e T h=>
     subst e
     exact wpS_bind (wpS_setG (wpS_pure (q2 _ _ _ _ _ T h)))
end
section
variable {prog: Program} {w: World} {A: Around} {E: Value -> Shared -> Prop} {s: Shared} {κ: SortKind} {it: Array Keyed} {lt: Nat -> Nat -> Bool} {N: Nat} {pa pb o: List Nat} {na nb: Nat}
theorem wpS_mergeHi (hA: Asks prog w A s κ it lt N) (H: Two lt N pa pb) {arr: Array Keyed} {pend: Array (Nat × Nat × Nat)} {g₀: Nat} {Q: Array Keyed -> SortSt -> Prop} (q: ∀ g,Q (im it (mg lt pa pb)) (sg κ arr pend g)) :
  wpS (model prog w) A E s (mergeHi' (im it pa) (im it pb)) Q (sg κ arr pend g₀):= by
 have pz:= H.na
 have pz2:= H.nb
 have e: mg lt (pa.take (pa.length - 1)) (pb.take pb.length) ++ [pa.getD (pa.length - 1) 0].reverse = mg lt pa pb:= by
  have:= take_get (l:= pa) pz (Nat.le_refl _)
  rw [List.take_length] at this
  rw [List.take_length]
  conv=> rhs;rw [this]
  rw [mg_snocA _ _ _ rfl fun y m=> by
   have m: y ∈ pb.drop 0:= m
   obtain ⟨j,_,h1,rfl⟩:= mem_drop_getD m;exact H.la j h1]
  rfl
 rw [mergeHi'_eq]
 unfold hi2
 refine wpS_bind (wpS_lift (wpAny_rule ⟨rfl,?_⟩))
 rw [im_size,im_size]
 refine wpS_bind (wpS_elem (by exact Nat.sub_one_lt_of_lt pz) ?_)
 have e1: (#[kas_item it (pa.getD (pa.length - 1) 0)]: Array Keyed) = im it [pa.getD (pa.length - 1) 0]:= rfl
 rw [e1]
 refine wpS_ite (fun c=> ?_) (fun c=> ?_)
 ·have c: pa.length - 1 = 0:= by simpa using c
  have key: (im it pa).extract 0 (pa.length - 1) ++ (im it pb).extract 0 pb.length ++ (im it [pa.getD (pa.length - 1) 0]).reverse = im it (mg lt pa pb):= by
   rw [im_take,im_take,im_rev,im_app,im_app,<- e,c,List.take_zero,mg_nil];rfl
  rw [key]
  exact wpS_pure (q _)
 ·have c: pa.length - 1 ≠ 0:= by simpa using c
  refine wpS_ite (fun c2=> ?_) (fun c2=> ?_)
  ·have c2: pb.length = 1:= by simpa using c2
   have key: (im it pb).extract 0 pb.length ++ (im it pa).extract 0 (pa.length - 1) ++ (im it [pa.getD (pa.length - 1) 0]).reverse = im it (mg lt pa pb):= by
    rw [im_take,im_take,im_rev,im_app,im_app,<- e]
    have:= H.firstB (na:= pa.length - 1) (by exact Nat.zero_lt_of_ne_zero c) (by exact Nat.sub_le pa.length 1)
    rw [c2,this]
   rw [key]
   exact wpS_pure (q _)
  ·have c2: pb.length ≠ 1:= by simpa using c2
   refine wpS_bind (wpS_get ?_)
   refine wpS_bind (wpS_mono (wpS_forRange (I:= fun t c st=> HiV (fun o na nb g _ _=> ((none,na,nb,im it o,g): HiO)) κ arr pend lt pa pb (pa.length + pb.length - t) c st)
    (Q:= fun c st=> ∃ x g',c = (some (im it (mg lt pa pb)),x) /\ st = sg κ arr pend g') ?_ ?_ ⟨_,_,_,g₀,0,0,g₀,rfl,rfl,⟨e,by exact Nat.zero_lt_of_ne_zero c,by exact Nat.lt_of_le_of_ne pz2 (id (Ne.symm c2)),by exact Nat.sub_le pa.length 1,by exact Nat.le_refl pb.length⟩,by exact ar_j5 pz⟩) ?_)
   ·rintro t c st _ ht ⟨o,na,nb,g,_,_,g',rfl,rfl,T,hn⟩
    exact wpS_hiOut hA H T (n:= pa.length + pb.length - (t + 1)) (by exact ar_le_sub' hn) (fun x g'=> ⟨x,g',rfl,rfl⟩) fun o na nb g g' T hn=> ⟨o,na,nb,g,0,0,g',rfl,rfl,T,hn⟩
   ·rintro c st ⟨o,na,nb,g,_,_,g',rfl,rfl,T,hn⟩
    lia
   ·rintro c st ⟨x,g',rfl,rfl⟩
    exact wpS_pure (q g')
theorem wpS_set {st st': SortSt} {Q: PUnit -> SortSt -> Prop} (q: Q ⟨⟩ st'): wpS (model prog w) A E s (set st': StateT SortSt Sem PUnit) Q st:= by
 unfold wpS;rw [StateT.run_set];exact wpAny_pure ⟨rfl,q⟩
theorem put_list: ∀ (m l: List Keyed) (off k: Nat),off + k + m.length <= l.length -> (m.zipIdx k).foldl (fun (a: Array Keyed) x=> a.setIfInBounds (off + x.2) x.1) l.toArray = (l.take (off + k) ++ m ++ l.drop (off + k + m.length)).toArray
 | [],l,off,k,h=> by simp
 | x :: m,l,off,k,h=> by
  simp only [List.zipIdx_cons,List.foldl_cons,List.length_cons] at h ⊢
  have e: l.toArray.setIfInBounds (off + k) x = (l.set (off + k) x).toArray:= by simp
  rw [e,put_list m _ off (k + 1) (by simp;lia)]
  congr 1
  have h1: (l.set (off + k) x).take (off + (k + 1)) = l.take (off + k) ++ [x]:= by
   rw [show off + (k + 1) = off + k + 1 by exact Eq.symm (Nat.add_assoc off k 1),List.take_add_one,List.take_set_of_le (Nat.le_refl _),List.getElem?_set_self (by exact Nat.lt_of_add_right_lt h)];rfl
  have h2: (l.set (off + k) x).drop (off + (k + 1) + m.length) = l.drop (off + k + (m.length + 1)):= by
   rw [List.drop_set_of_lt (by lia)];congr 1;(exact Nat.succ_add_eq_add_succ (off.add k) m.length)
  rw [h1,h2];simp
noncomputable def atFin (off: Nat) (merged: Array Keyed): StateT SortSt Sem Bool:= do
 modify fun s=> setArr s (merged.toList.zipIdx.foldl (fun a x=> a.setIfInBounds (off + x.2) x.1) (arrOf s))
 let st <- get
 pure (failedOf st).isNone
noncomputable def at3 (a: Array Keyed) (sa na sb nb: Nat): StateT SortSt Sem Bool:= do
 let y <- elem' a sb
 let r <- gallop' false y a sa na 0
 match r with
 | some k=>
  if (na - k == 0) = true then pure true
  else do
   let x <- elem' a (sa + k + (na - k) - 1)
   let r <- gallop' true x a sb nb (nb - 1)
   match r with
   | some nb=>
    if (nb == 0) = true then pure true
    else if na - k <= nb then do
     let m <- mergeLo' (a.extract (sa + k) sb) (a.extract sb (sb + nb))
     atFin (sa + k) m
    else do
     let m <- mergeHi' (a.extract (sa + k) sb) (a.extract sb (sb + nb))
     atFin (sa + k) m
   | _=> pure false
 | _=> pure false
noncomputable def at2 (i: Nat): StateT SortSt Sem Bool:= do
 let st <- get
 match (pendingOf st)[i]?,(pendingOf st)[i + 1]? with
 | some (sa,na,power),some (sb,nb,_)=> do
  set (SortSt.mk' (kindOf st) (arrOf st) (((pendingOf st).setIfInBounds i (sa,na + nb,power)).eraseIdxIfInBounds (i + 1)) (gallopOf st) (failedOf st))
  at3 (arrOf st) sa na sb nb
 | _,_=> liftM (unsupported "internal:list.sort.pending")
theorem mergeAt'_eq: mergeAt' = at2:= by kernel_rfl
theorem mg_parts {r1 r2: List Nat} {k nb: Nat} (hk: k <= r1.length) (hn: nb <= r2.length) (n1: 1 <= nb) (h1: ∀ i,i < k -> lt (r2.getD 0 0) (r1.getD i 0) = false) (h2: ∀ j,nb <= j -> j < r2.length -> ∀ i,i < r1.length -> lt (r2.getD j 0) (r1.getD i 0) = false) :
  r1.take k ++ mg lt (r1.drop k) (r2.take nb) ++ r2.drop nb = mg lt r1 r2:= by
 have e2: mg lt r1 (r2.take nb ++ r2.drop nb) = mg lt r1 (r2.take nb) ++ r2.drop nb:= mg_appB _ _ _ fun y my x mx=> by
  obtain ⟨j,j1,j2,rfl⟩:= mem_drop_getD my
  have mx: x ∈ r1.drop 0:= mx
  obtain ⟨i,_,i2,rfl⟩:= mem_drop_getD mx
  exact h2 j j1 j2 i i2
 rw [List.take_append_drop] at e2
 rw [e2]
 congr 1
 obtain ⟨y,b,e⟩: ∃ y b,r2 = y :: b:= by cases r2 with | nil=> simp at hn;lia | cons y b=> exact ⟨y,b,rfl⟩
 obtain ⟨n,rfl⟩: ∃ n,nb = n + 1:= ⟨nb - 1,by exact (Nat.sub_eq_iff_eq_add n1).mp rfl⟩
 subst e
 rw [List.take_succ_cons]
 conv=> rhs;rw [<- List.take_append_drop k r1]
 exact (mg_allA _ _ fun x mx=> by
  obtain ⟨i,i1,_,rfl⟩:= mem_take_getD mx
  exact h1 i i1).symm
structure Run2 (lt: Nat -> Nat -> Bool) (N: Nat) (r1 r2: List Nat): Prop where
 W: Weak lt
 a: ∀ i j,i < j -> j < r1.length -> lt (r1.getD j 0) (r1.getD i 0) = false
 b: ∀ i j,i < j -> j < r2.length -> lt (r2.getD j 0) (r2.getD i 0) = false
 na: 0 < r1.length
 nb: 0 < r2.length
 oka: ∀ i,i < r1.length -> r1.getD i 0 < N
 okb: ∀ i,i < r2.length -> r2.getD i 0 < N
theorem im_split (r1 r2: List Nat) {i: Nat} (h: i < r2.length): (im it (r1 ++ r2))[r1.length + i]? = some (kas_item it (r2.getD i 0)):= by
 rw [im_get it (by simp;(exact Nat.lt_of_succ_le h))]
 congr 2
 rw [List.getD_eq_getElem?_getD,List.getD_eq_getElem?_getD,List.getElem?_append_right (by exact Nat.le_add_right r1.length i),Nat.add_sub_cancel_left]
theorem im_split' (r1 r2: List Nat) {i: Nat} (h: i < r1.length): (im it (r1 ++ r2))[i]? = some (kas_item it (r1.getD i 0)):= by
 rw [im_get it (by simp;(exact Nat.lt_add_right r2.length h))]
 congr 2
 rw [List.getD_eq_getElem?_getD,List.getD_eq_getElem?_getD,List.getElem?_append_left h]
theorem getD_drop (l: List Nat) (k i: Nat): (l.drop k).getD i 0 = l.getD (k + i) 0:= by rw [List.getD_eq_getElem?_getD,List.getD_eq_getElem?_getD,List.getElem?_drop]
theorem getD_take {l: List Nat} {k i: Nat} (h: i < k): (l.take k).getD i 0 = l.getD i 0:= by rw [List.getD_eq_getElem?_getD,List.getD_eq_getElem?_getD,List.getElem?_take_of_lt h]
theorem wpS_mergeAt (hA: Asks prog w A s κ it lt N) {r1 r2: List Nat} (H: Run2 lt N r1 r2) {p p2 g₀: Nat} {Q: Bool -> SortSt -> Prop} (q: ∀ g,Q true (sg κ (im it (mg lt r1 r2)) #[(0,r1.length + r2.length,p)] g)) :
  wpS (model prog w) A E s (mergeAt' 0) Q (sg κ (im it (r1 ++ r2)) #[(0,r1.length,p),(r1.length,r2.length,p2)] g₀):= by
 have na:= H.na
 have nb:= H.nb
 rw [mergeAt'_eq]
 unfold at2
 refine wpS_bind (wpS_get ?_)
 have ep: ((#[(0,r1.length,p),(r1.length,r2.length,p2)]: Array (Nat × Nat × Nat)).setIfInBounds 0 (0,r1.length + r2.length,p)).eraseIdxIfInBounds (0 + 1) = #[(0,r1.length + r2.length,p)]:= by
  rw [<- Array.toList_inj];simp
 show wpS _ _ _ _ (do
  set (sg κ (im it (r1 ++ r2)) (((#[(0,r1.length,p),(r1.length,r2.length,p2)]: Array (Nat × Nat × Nat)).setIfInBounds 0 (0,r1.length + r2.length,p)).eraseIdxIfInBounds (0 + 1)) g₀)
  at3 (im it (r1 ++ r2)) 0 r1.length r1.length r2.length) _ _
 rw [ep]
 refine wpS_bind (wpS_set ?_)
 unfold at3
 rw [elem'_eq,show (im it (r1 ++ r2))[r1.length]? = some (kas_item it (r2.getD 0 0)) from im_split r1 r2 (i:= 0) nb]
 refine wpS_bind (wpS_pure ?_)
 refine wpS_bind (wpS_gallop (P:= fun i=> r1.getD i 0) (b:= fun i=> !lt (r2.getD 0 0) (r1.getD i 0)) hA (H.okb _ nb) (fun i hi=> ⟨by rw [Nat.zero_add];exact im_split' r1 r2 hi,H.oka _ hi⟩) na (fun _ _=> rfl)
  (fun i j hij hj hlt=> ?_) rfl fun k k1 k2 k3=> ?_)
 ·rcases Nat.lt_or_ge i j with hij | hij
  ·have hlt: lt (r2.getD 0 0) (r1.getD j 0) = false:= by simpa using hlt
   show (!lt (r2.getD 0 0) (r1.getD i 0)) = true
   rw [H.W.le (H.a _ _ hij hj) hlt];rfl
  ·rw [show i = j by (expose_names;exact Nat.le_antisymm hij_1 hij)];exact hlt
 ·have k2: ∀ i,i < k -> lt (r2.getD 0 0) (r1.getD i 0) = false:= fun i hi=> by have:= k2 i hi;simpa using this
  have k3: ∀ i,k <= i -> i < r1.length -> lt (r2.getD 0 0) (r1.getD i 0) = true:= fun i hi hj=> by have:= k3 i hi hj;simpa using this
  dsimp only
  refine wpS_ite (fun c=> ?_) (fun c=> ?_)
  ·have c: k = r1.length:= by
    have: r1.length - k = 0:= by simpa using c
    (exact ar_a4 k1 c)
   subst c
   have e: r1 ++ r2 = mg lt r1 r2:= by
    have:= mg_parts (lt:= lt) (r1:= r1) (r2:= r2) (Nat.le_refl _) (Nat.le_refl _) nb k2 fun j h1 h2=> absurd h2 (by exact Nat.not_lt.mpr h1)
    rw [List.take_length,List.drop_length,List.take_length,List.drop_length,mg_nil,List.append_nil] at this
    exact this
   rw [e]
   exact wpS_pure (q _)
  ·have c: k < r1.length:= by
    have: r1.length - k ≠ 0:= by simpa using c
    (exact Nat.sub_ne_zero_iff_lt.mp this)
   have ei: 0 + k + (r1.length - k) - 1 = r1.length - 1:= by exact ar_m1 na c
   rw [ei,elem'_eq,im_split' r1 r2 (by exact Nat.sub_one_lt_of_lt na)]
   refine wpS_bind (wpS_pure ?_)
   refine wpS_bind (wpS_gallop (P:= fun i=> r2.getD i 0) (b:= fun i=> lt (r2.getD i 0) (r1.getD (r1.length - 1) 0)) hA (H.oka _ (by exact Nat.sub_one_lt_of_lt na)) (fun i hi=> ⟨im_split r1 r2 hi,H.okb _ hi⟩) (by exact Nat.sub_one_lt_of_lt nb) (fun _ _=> rfl)
    (fun i j hij hj hlt=> ?_) rfl fun n n1 n2 n3=> ?_)
   ·rcases Nat.lt_or_ge i j with hij | hij
    ·rcases H.W.neg _ (r2.getD i 0) _ hlt with r | r
     ·rw [H.b _ _ hij hj] at r;cases r
     ·exact r
    ·rw [show i = j by (expose_names;exact Nat.le_antisymm hij_1 hij)];exact hlt
   ·dsimp only at n2 n3 ⊢
    have n0: 1 <= n:= by
     rcases Nat.eq_zero_or_pos n with rfl | h
     ·have:= n3 0 (Nat.le_refl _) nb
      rw [k3 (r1.length - 1) (by exact (Nat.le_sub_one_iff_lt na).mpr c) (by exact Nat.sub_one_lt_of_lt na)] at this;cases this
     ·exact h
    rw [if_neg (by simp;(exact Nat.ne_zero_of_lt n0))]
    have part:= mg_parts (lt:= lt) (r1:= r1) (r2:= r2) (k:= k) (nb:= n) k1 n1 n0 k2 fun j h1 h2 i h3=> by
     have h4:= n3 j h1 h2
     rcases Nat.lt_or_ge i (r1.length - 1) with hi | hi
     ·exact H.W.le (H.a i _ hi (by exact Nat.sub_one_lt_of_lt na)) h4
     ·rw [show i = r1.length - 1 by exact ar_pl7 h3 hi];exact h4
    have ex1: (im it (r1 ++ r2)).extract (0 + k) r1.length = im it (r1.drop k):= by
     rw [im_ext,Nat.zero_add,List.drop_append_of_le_length k1,List.take_append_of_le_length (by simp),List.take_of_length_le (by simp)]
    have ex2: (im it (r1 ++ r2)).extract r1.length (r1.length + n) = im it (r2.take n):= by
     rw [im_ext,List.drop_left,Nat.add_sub_cancel_left]
    have T: Two lt N (r1.drop k) (r2.take n):= by
     refine ⟨H.W,fun i j hij hj=> ?_,fun i j hij hj=> ?_,fun j hj=> ?_,fun i hi=> ?_,by simp;(exact Nat.zero_lt_sub_of_lt c),by simp;(exact ar_k22 n1 n0),fun i hi=> ?_,fun i hi=> ?_⟩
     ·rw [getD_drop,getD_drop];exact H.a _ _ (by exact Nat.add_lt_add_left hij k) (by simp at hj;(exact Nat.add_lt_of_lt_sub' hj))
     ·have hj: j < n /\ j < r2.length:= by simp at hj;(exact Nat.lt_min.mp hj)
      rw [getD_take hj.1,getD_take (by exact ar_a5 hij hj)];exact H.b _ _ hij hj.2
     ·have hj: j < n /\ j < r2.length:= by simp at hj;(exact Nat.lt_min.mp hj)
      rw [getD_take hj.1,getD_drop,List.length_drop,show k + (r1.length - k - 1) = r1.length - 1 by exact ar_a1 c];exact n2 j hj.1
     ·rw [getD_take (by exact Nat.zero_lt_of_lt n0),getD_drop];exact k3 _ (by exact Nat.le_add_right k i) (by simp at hi;(exact Nat.add_lt_of_lt_sub' hi))
     ·rw [getD_drop];exact H.oka _ (by simp at hi;(exact Nat.add_lt_of_lt_sub' hi))
     ·have hi: i < n /\ i < r2.length:= by simp at hi;(exact Nat.lt_min.mp hi)
      rw [getD_take hi.1];exact H.okb _ hi.2
    have fin: ∀ g,wpS (model prog w) A E s (atFin (0 + k) (im it (mg lt (r1.drop k) (r2.take n)))) Q (sg κ (im it (r1 ++ r2)) #[(0,r1.length + r2.length,p)] g):= fun g=> by
     refine wpS_bind (wpS_modify (wpS_bind (wpS_get (wpS_pure ?_))))
     have el: (mg lt (r1.drop k) (r2.take n)).length = r1.length - k + n:= by rw [mg_len];simp;(exact Nat.min_eq_left n1)
     have key: (im it (mg lt (r1.drop k) (r2.take n))).toList.zipIdx.foldl (fun a x=> a.setIfInBounds (0 + k + x.2) x.1) (im it (r1 ++ r2)) = im it (mg lt r1 r2):= by
      rw [<- part]
      unfold im
      rw [put_list _ _ _ 0 (by simp [el];(exact ar_a2 c n1))]
      rw [List.length_map,el,<- List.map_take,<- List.map_drop,<- List.map_append,<- List.map_append]
      congr 3
      ·rw [show 0 + k + 0 = k by exact Eq.symm ((fun {a b}=> Nat.right_eq_add.mpr) rfl),List.take_append_of_le_length k1]
      ·rw [show 0 + k + 0 + (r1.length - k + n) = r1.length + n by exact ar_a3 c,List.drop_append,List.drop_eq_nil_of_le (by exact Nat.le_add_right r1.length n),List.nil_append,Nat.add_sub_cancel_left]
     show Q true (sg κ _ _ g)
     rw [key]
     exact q g
    rw [ex1,ex2]
    refine wpS_ite (fun _=> ?_) (fun _=> ?_)
    ·exact wpS_bind (wpS_mergeLo hA T fin)
    ·exact wpS_bind (wpS_mergeHi hA T fin)
end
abbrev SrC:= Option Unit × Nat
abbrev SrD:= Option Unit × Unit
noncomputable def srMerge (size pw: Nat): StateT SortSt Sem (ForInStep SrD):= do
 let st <- get
 match (if (pendingOf st).size > 1 then (pendingOf st)[(pendingOf st).size - 2]? else none) with
 | some (_,_,older)=>
  if older <= pw then pure (.done (none,()))
  else do
   let b <- mergeAt' ((pendingOf st).size - 2)
   if (!b) = true then pure (.done (some (),())) else pure (.yield (none,()))
 | _=> pure (.done (none,()))
noncomputable def srPend (size lo n: Nat): StateT SortSt Sem (ForInStep SrC):= do
 let st <- get
 match (pendingOf st).back? with
 | some (s1,n1,_)=> do
  let d <- forIn [0:size] ((none,()): SrD) fun _ _=> srMerge size (power' size (2 * s1 + n1) (2 * s1 + n1 + n1 + n) size)
  match d.1 with
  | some r=> pure (.done (some r,lo))
  | none=> do
   modify fun s=> setPending s ((pendingOf s).modify ((pendingOf s).size - 1) fun x=> (x.1,x.2.1,power' size (2 * s1 + n1) (2 * s1 + n1 + n1 + n) size))
   modify fun s=> setPending s ((pendingOf s).push (lo,n,0))
   pure (.yield (none,lo + n))
 | _=> do
  modify fun s=> setPending s ((pendingOf s).push (lo,n,0))
  pure (.yield (none,lo + n))
noncomputable def srTurn (size: Nat) (c: SrC): StateT SortSt Sem (ForInStep SrC):=
 if c.2 >= size then pure (.done (none,c.2))
 else do
  let r <- countRun' c.2 (size - c.2)
  match r with
  | some found=>
   if found < minRun' size size 0 then do
    liftM (rule "list.sort.binary-insertion")
    let b <- binarySort' c.2 (min (size - c.2) (minRun' size size 0)) found
    if (!b) = true then pure (.done (some (),c.2)) else srPend size c.2 (min (size - c.2) (minRun' size size 0))
   else srPend size c.2 found
  | _=> pure (.done (some (),c.2))
noncomputable def srLast: StateT SortSt Sem (ForInStep SrD):= do
 let st <- get
 if (pendingOf st).size <= 1 then pure (.done (none,()))
 else do
  let b <- mergeAt' (if Option.any (fun x=> decide (x < (pendingOf st)[(pendingOf st).size - 2 + 1]?.elim 0 fun x=> x.2.1)) (if (pendingOf st).size - 2 > 0 then Option.map (fun x=> x.2.1) (pendingOf st)[(pendingOf st).size - 2 - 1]? else none) = true then (pendingOf st).size - 2 - 1 else (pendingOf st).size - 2)
  if (!b) = true then pure (.done (some (),())) else pure (.yield (none,()))
noncomputable def sr2: StateT SortSt Sem Unit:= do
 let st <- get
 let c <- forIn [0:(arrOf st).size] ((none,0): SrC) fun _ c=> srTurn (arrOf st).size c
 match c.1 with
 | some r=> pure r
 | none=> do
  let d <- forIn [0:(arrOf st).size] ((none,()): SrD) fun _ _=> srLast
  match d.1 with
  | some r=> pure r
  | none=> pure ()
theorem sr2_eq: sortRuns' = sr2:= by kernel_rfl
theorem minRun_eq {n: Nat} (h: n < 128): minRun' n n 0 = if n < 64 then n else n / 2 + n % 2:= by
 cases n with
 | zero=> rfl
 | succ m=>
  rw [minRun'_succ]
  by_cases c: m + 1 < 64
  ·rw [if_pos c,if_pos c];try rfl
  ·rw [if_neg c,if_neg c]
   obtain ⟨k,rfl⟩: ∃ k,m = k + 1:= ⟨m - 1,by exact ar_x7 c⟩
   rw [minRun'_succ,if_pos (by exact Nat.div_lt_of_lt_mul h)]
   (exact Nat.add_left_inj.mpr rfl)
noncomputable def rgA (n: Nat): Array Nat:= List.toArray (List.range n)
theorem rg_size (n: Nat): (rgA n).size = n:= by simp [rgA]
theorem rg_get {n i: Nat} (h: i < n): G (rgA n) i = i:= by unfold G rgA;simp [Array.getD,h]
theorem rg_pre {n: Nat} (h: 1 <= n): Pre n (rgA n) 1:= ⟨rg_size n,by simp [rgA],fun i hi=> by rw [rg_get (by exact Nat.lt_of_lt_of_le hi h)];exact hi,fun i _ hi=> rg_get hi,h⟩
section
variable {prog: Program} {w: World} {A: Around} {E: Value -> Shared -> Prop} {s: Shared} {κ: SortKind} {it: Array Keyed} {X: Array Keyed} {pend: Array (Nat × Nat × Nat)} {g: Nat} {lt: Nat -> Nat -> Bool} {N lo size: Nat}
theorem wpS_srRound (hA: Asks prog w A s κ it lt N) (W: Weak lt) (hlo: X.size = lo) (hN: 1 <= N) (hs: size = lo + N) {Q: ForInStep SrC -> SortSt -> Prop}
  (k: ∀ n p,1 <= n -> n <= N -> min N (minRun' size size 0) <= n -> Pre N p n -> Up lt p n -> wpS (model prog w) A E s (srPend size lo n) Q (ost κ X it pend g p)) :
  wpS (model prog w) A E s (srTurn size (none,lo)) Q (ost κ X it pend g (rgA N)):= by
 have e: size - lo = N:= by exact Eq.symm (Nat.eq_sub_of_add_eq' (id (Eq.symm hs)))
 unfold srTurn
 refine wpS_ite (fun c=> ?_) (fun c=> ?_)
 ·have c: lo >= size:= c
  lia
 ·rw [show size - (none,lo).snd = N from e]
  refine wpS_bind (wpS_countO hA hlo (rg_size N) hN (Q:= fun r=> 1 <= r.1 /\ r.1 <= N /\ Pre N r.2 r.1 /\ Up lt r.2 r.1) (count_ok W hN (rg_pre hN) fun m p a b c d=> ⟨a,b,c,d⟩) fun m q hq h=> ?_)
  obtain ⟨h1,h2,h3,h4⟩:= h
  dsimp only at h1 h2 h3 h4 ⊢
  refine wpS_ite (fun c=> ?_) (fun c=> ?_)
  ·refine wpS_bind (wpS_lift (wpAny_rule ⟨rfl,?_⟩))
   have mx: max m 1 = m:= by exact Nat.max_eq_left h1
   refine wpS_bind (wpS_binO hA hlo hq (n:= min N (minRun' size size 0)) (Nat.min_le_left _ _) (Q:= fun p=> Pre N p (min N (minRun' size size 0)) /\ Up lt p (min N (minRun' size size 0))) ?_ fun q' hq' h=> ?_)
   ·rw [mx]
    exact bin_ok W (Nat.min_le_left _ _) _ _ _ (by exact ar_min h2 c) h3 h4 fun p a b=> ⟨a,b⟩
   ·exact k _ _ (by exact ar_min3 hN h1 c) (Nat.min_le_left _ _) (Nat.le_refl _) h.1 h.2
  ·exact k m q h1 h2 (by exact ar_min2 c) h3 h4
theorem pre_split {p: Array Nat} {n: Nat} (h: Pre N p n): p.toList = p.toList.take n ++ (List.range (N - n)).map (n + ·):= by
 have hz:= h.size
 have hl: p.toList.length = N:= by rw [Array.length_toList,hz]
 have hle:= h.le
 apply List.ext_getElem?
 intro i
 have gi: ∀ i,i < N -> p.toList[i]? = some (G p i):= fun i hi=> by rw [Array.getElem?_toList,G_some (by exact Nat.lt_of_lt_of_eq hi (id (Eq.symm hz)))]
 rcases Nat.lt_or_ge i n with a | a
 ·rw [List.getElem?_append_left (by rw [List.length_take,hl];(exact ar_k22 hle a)),List.getElem?_take_of_lt a]
 ·rw [List.getElem?_append_right (by rw [List.length_take,hl];lia),List.length_take,hl,Nat.min_eq_left hle,List.getElem?_map]
  rcases Nat.lt_or_ge i N with b | b
  ·rw [gi i b,h.high i a b,List.getElem?_range (by exact Nat.sub_lt_sub_right a b)];simp;(exact Eq.symm (Nat.add_sub_of_le a))
  ·rw [List.getElem?_eq_none (by exact le_of_eq_of_le hz b),List.getElem?_eq_none (by simp;(exact ar_k21 b))];rfl
theorem getD_list (p: Array Nat) (i: Nat): p.toList.getD i 0 = G p i:= by
 unfold G;simp [List.getD_eq_getElem?_getD,Array.getD_eq_getD_getElem?]
theorem ost_im (it: Array Keyed) (p: Array Nat): ost κ #[] it pend g p = sg κ (im it p.toList) pend g:= by
 show SortSt.mk' κ (#[] ++ p.map (kas_item it)) pend g none = _
 have: #[] ++ p.map (kas_item it) = im it p.toList:= by rw [<- Array.toList_inj];simp [im]
 rw [this]
noncomputable def shiftIt (it: Array Keyed) (n: Nat): Array Keyed:= it.extract n it.size
theorem shift_item {n i: Nat} (h: n + i < it.size): kas_item (shiftIt it n) i = kas_item it (n + i):= by
 unfold kas_item shiftIt
 rw [Array.getD_eq_getD_getElem?,Array.getD_eq_getD_getElem?,Array.getElem?_extract]
 rw [if_pos (by exact ar_it h)]
theorem asks_shift (hA: Asks prog w A s κ it lt N) (hN: N = it.size) {n: Nat}: Asks prog w A s κ (shiftIt it n) (fun i j=> lt (n + i) (n + j)) (N - n):= fun i j C hi hj hC=> by
 have:= hA (n + i) (n + j) C (by exact Nat.add_lt_of_lt_sub' hi) (by exact Nat.add_lt_of_lt_sub' hj) hC
 unfold kas_cmp at *
 rw [shift_item (by exact ar_sh hN hi),shift_item (by exact ar_sh hN hj)]
 exact this
theorem Weak.shift (W: Weak lt) (n: Nat): Weak (fun i j=> lt (n + i) (n + j)):= ⟨fun a b h=> W.asym _ _ h,fun a b c h=> W.neg _ _ _ h⟩
inductive SrI (κ: SortKind) (it: Array Keyed) (lt: Nat -> Nat -> Bool) (N t: Nat) (c: SrC) (st: SortSt): Prop
 | zero (h1: t = 0) (h2: c = (none,0)) (h3: st = ost κ #[] it #[] 7 (rgA N)): SrI κ it lt N t c st
 | half (n: Nat) (p: Array Nat) (h1: t = 1) (h2: c = (none,n)) (h3: st = sg κ (im it p.toList) #[(0,n,0)] 7) (h4: Pre N p n) (h5: Up lt p n) (h6: 1 <= n) (h7: n < N) (h8: min N (minRun' N N 0) <= n): SrI κ it lt N t c st
 | one (l: List Nat) (h1: 1 <= t) (h2: c = (none,N)) (h3: st = sg κ (im it l) #[(0,N,0)] 7) (h4: l.Perm (List.range N)) (h5: l.Pairwise (R lt)): SrI κ it lt N t c st
 | two (r1 r2: List Nat) (p: Nat) (h1: 2 <= t) (h2: c = (none,N)) (h3: st = sg κ (im it (r1 ++ r2)) #[(0,r1.length,p),(r1.length,r2.length,0)] 7) (h4: (r1 ++ r2).Perm (List.range N)) (h5: r1.Pairwise (R lt)) (h6: r2.Pairwise (R lt)) (h7: ∀ x ∈ r1,∀ y ∈ r2,x < y) (h8: r1 ≠ []) (h9: r2 ≠ []): SrI κ it lt N t c st
theorem up_pw {p: Array Nat} {n: Nat} (hs: n <= p.size) (u: Up lt p n): (p.toList.take n).Pairwise (R lt):= by
 rw [List.pairwise_iff_getElem]
 intro i j hi hj hij
 have hj': j < n:= by simp at hj;(exact ar_k14 hj)
 have g: ∀ k (hk: k < (p.toList.take n).length),(p.toList.take n)[k] = G p k:= fun k hk=> by
  have hk': k < p.size:= by simp at hk;(exact ar_k13 hk)
  rw [List.getElem_take,Array.getElem_toList]
  unfold G;simp [hk']
 rw [g i hi,g j hj];exact u i j hij hj'
theorem wpS_pend0 (hs: pend = #[]) {n: Nat} {arr: Array Keyed} {Q: ForInStep SrC -> SortSt -> Prop} (q: Q (.yield (none,0 + n)) (sg κ arr #[(0,n,0)] g)): wpS (model prog w) A E s (srPend size 0 n) Q (sg κ arr pend g):= by
 subst hs
 unfold srPend
 exact wpS_bind (wpS_get (wpS_bind (wpS_modify (wpS_pure q))))
theorem wpS_pend1 (hz: 0 < size) {n1 n p0: Nat} {arr: Array Keyed} {Q: ForInStep SrC -> SortSt -> Prop} (q: ∀ pw,Q (.yield (none,n1 + n)) (sg κ arr #[(0,n1,pw),(n1,n,0)] g)): wpS (model prog w) A E s (srPend size n1 n) Q (sg κ arr #[(0,n1,p0)] g):= by
 unfold srPend
 refine wpS_bind (wpS_get ?_)
 refine wpS_bind (wpS_mono (wpS_forRange (I:= fun _ c st=> c = (none,()) /\ st = sg κ arr #[(0,n1,p0)] g) (Q:= fun c st=> c = (none,()) /\ st = sg κ arr #[(0,n1,p0)] g) ?_ (fun _ _ h=> h) ⟨rfl,rfl⟩) ?_)
 ·rintro x c st _ _ ⟨rfl,rfl⟩
  unfold srMerge
  exact wpS_bind (wpS_get (wpS_pure ⟨rfl,rfl⟩))
 ·rintro c st ⟨rfl,rfl⟩
  refine wpS_bind (wpS_modify (wpS_bind (wpS_modify (wpS_pure ?_))))
  have:= q (power' size (2 * 0 + n1) (2 * 0 + n1 + n1 + n) size)
  have e: ((#[(0,n1,p0)]: Array (Nat × Nat × Nat)).modify (1 - 1) fun x=> (x.1,x.2.1,power' size (2 * 0 + n1) (2 * 0 + n1 + n1 + n) size)).push (n1,n,0) = #[(0,n1,power' size (2 * 0 + n1) (2 * 0 + n1 + n1 + n) size),(n1,n,0)]:= by
   rw [<- Array.toList_inj];simp
  show Q _ (sg κ arr _ g)
  rw [<- e] at this
  exact this
end
section
variable {prog: Program} {w: World} {A: Around} {E: Value -> Shared -> Prop} {s: Shared} {κ: SortKind} {it: Array Keyed} {pend: Array (Nat × Nat × Nat)} {g: Nat} {lt: Nat -> Nat -> Bool} {N: Nat}
theorem take_whole {p: Array Nat} {n: Nat} (h: p.size = n): p.toList.take n = p.toList:= List.take_of_length_le (by rw [Array.length_toList];(exact Nat.le_of_eq h))
theorem wpS_sr0 (hA: Asks prog w A s κ it lt N) (W: Weak lt) (h1: 1 <= N) {Q: ForInStep SrC -> SortSt -> Prop} (q: ∀ c st,SrI κ it lt N 1 c st -> Q (.yield c) st): wpS (model prog w) A E s (srTurn N (none,0)) Q (ost κ #[] it #[] 7 (rgA N)):= by
 refine wpS_srRound (lo:= 0) (X:= #[]) hA W rfl h1 (Nat.zero_add N).symm fun n p a b c hp u=> ?_
 rw [ost_im]
 refine wpS_pend0 rfl ?_
 rw [Nat.zero_add]
 rcases Nat.lt_or_ge n N with h | h
 ·exact q _ _ (.half n p rfl rfl rfl hp u a h c)
 ·obtain rfl: n = N:= Nat.le_antisymm b h
  refine q _ _ (.one p.toList (Nat.le_refl _) rfl rfl hp.perm ?_)
  have:= up_pw (Nat.le_of_eq hp.size.symm) u
  rwa [take_whole hp.size] at this
theorem R.shift {n a b: Nat} (h: R (fun i j=> lt (n + i) (n + j)) a b): R lt (n + a) (n + b):= ⟨h.1,fun e=> Nat.add_lt_add_left (h.2 e) n⟩
theorem im_shift {p2: Array Nat} {r1: List Nat} {n M: Nat} (hs: n + M = it.size) (hp: ∀ x ∈ p2.toList,x < M): im it r1 ++ p2.map (kas_item (shiftIt it n)) = im it (r1 ++ p2.toList.map (n + ·)):= by
 rw [<- Array.toList_inj]
 simp only [im,Array.toList_append,Array.toList_map,List.map_append,List.map_map]
 congr 1
 refine List.map_congr_left fun x m=> ?_
 have:= hp x m
 exact shift_item (by exact ar_k23 hs (hp x m))
theorem wpS_sr1 (hA: Asks prog w A s κ it lt N) (W: Weak lt) (hN: N = it.size) (h128: N < 128) {n: Nat} {p: Array Nat} (h4: Pre N p n) (h5: Up lt p n) (h6: 1 <= n) (h7: n < N) (h8: min N (minRun' N N 0) <= n) {Q: ForInStep SrC -> SortSt -> Prop} (q: ∀ c st,SrI κ it lt N 2 c st -> Q (.yield c) st) :
  wpS (model prog w) A E s (srTurn N (none,n)) Q (sg κ (im it p.toList) #[(0,n,0)] 7):= by
 have hz:= h4.size
 have hl: (p.toList.take n).length = n:= by rw [List.length_take,Array.length_toList];(exact ar_k20 h7 hz)
 have e0: sg κ (im it p.toList) #[(0,n,0)] 7 = ost κ (im it (p.toList.take n)) (shiftIt it n) #[(0,n,0)] 7 (rgA (N - n)):= by
  show sg κ _ _ _ = sg κ (im it (p.toList.take n) ++ (rgA (N - n)).map (kas_item (shiftIt it n))) _ _
  rw [im_shift (M:= N - n) (by lia) (fun x m=> by simpa [rgA] using m)]
  conv=> lhs;rw [pre_split h4]
  rfl
 rw [e0]
 refine wpS_srRound (asks_shift hA hN) (W.shift n) (by rw [im_size,hl]) (by exact Nat.le_sub_of_add_le' h7) (by lia) fun m p2 a b c hp u=> ?_
 have hm: m = N - n:= by
  rw [minRun_eq h128] at h8 c
  by_cases h: N < 64
  ·rw [if_pos h] at h8;lia
  ·rw [if_neg h] at h8 c;lia
 subst hm
 show wpS _ _ _ _ _ _ (sg κ (im it (p.toList.take n) ++ p2.map (kas_item (shiftIt it n))) _ _)
 have hlt: ∀ x ∈ p2.toList,x < N - n:= fun x m=> by have:= hp.perm.mem_iff.mp m;simpa using this
 rw [im_shift (M:= N - n) (by exact ar_k19 hN a) hlt]
 refine wpS_pend1 (by exact Nat.zero_lt_of_lt h7) fun pw=> ?_
 have e1: (none,n + (N - n)) = ((none,N): SrC):= by rw [show n + (N - n) = N by exact ar_k19 rfl a]
 rw [e1]
 have hl2: (p2.toList.map (n + ·)).length = N - n:= by rw [List.length_map,Array.length_toList,hp.size]
 refine q _ _ (.two (p.toList.take n) (p2.toList.map (n + ·)) pw (Nat.le_refl _) rfl (by rw [hl,hl2]) ?_ (up_pw (by lia) h5) ?_ (fun x mx y my=> ?_) (fun e=> by rw [e] at hl;simp at hl;(exact ar_k28 h6 hl)) (fun e=> by rw [e] at hl2;simp at hl2;(exact ar_k28 h7 hl2)))
 ·refine ((hp.perm.map (n + ·)).append_left _).trans ?_
  rw [<- pre_split h4];exact h4.perm
 ·have:= up_pw (Nat.le_of_eq hp.size.symm) u
  rw [take_whole hp.size] at this
  rw [List.pairwise_map]
  exact this.imp fun h=> R.shift h
 ·obtain ⟨i,i1,i2,rfl⟩:= mem_take_getD mx
  obtain ⟨z,_,rfl⟩:= List.mem_map.mp my
  rw [getD_list]
  have:= h4.low i i1
  (exact Nat.lt_add_right z this)
theorem run2_of (W: Weak lt) {r1 r2: List Nat} (h4: (r1 ++ r2).Perm (List.range N)) (h5: r1.Pairwise (R lt)) (h6: r2.Pairwise (R lt)) (h8: r1 ≠ []) (h9: r2 ≠ []): Run2 lt N r1 r2:= by
 have g: ∀ (l: List Nat) i (h: i < l.length),l.getD i 0 = l[i]:= fun l i h=> by rw [List.getD_eq_getElem?_getD,List.getElem?_eq_getElem h];rfl
 have ok: ∀ x,x ∈ r1 ++ r2 -> x < N:= fun x m=> by simpa using h4.mem_iff.mp m
 refine ⟨W,fun i j hij hj=> ?_,fun i j hij hj=> ?_,List.length_pos_iff.mpr h8,List.length_pos_iff.mpr h9,fun i hi=> ?_,fun i hi=> ?_⟩
 ·rw [g _ _ hj,g _ _ (Nat.lt_trans hij hj)];exact (List.pairwise_iff_getElem.mp h5 i j _ _ hij).1
 ·rw [g _ _ hj,g _ _ (Nat.lt_trans hij hj)];exact (List.pairwise_iff_getElem.mp h6 i j _ _ hij).1
 ·rw [g _ _ hi];exact ok _ (List.mem_append_left _ (List.getElem_mem hi))
 ·rw [g _ _ hi];exact ok _ (List.mem_append_right _ (List.getElem_mem hi))
inductive SrE (κ: SortKind) (it: Array Keyed) (lt: Nat -> Nat -> Bool) (N t: Nat) (c: SrD) (st: SortSt): Prop
 | one (l: List Nat) (p g: Nat) (h2: c = (none,())) (h3: st = sg κ (im it l) #[(0,N,p)] g) (h4: l.Perm (List.range N)) (h5: l.Pairwise (R lt)): SrE κ it lt N t c st
 | two (r1 r2: List Nat) (p: Nat) (h1: t = 0) (h2: c = (none,())) (h3: st = sg κ (im it (r1 ++ r2)) #[(0,r1.length,p),(r1.length,r2.length,0)] 7) (h4: (r1 ++ r2).Perm (List.range N)) (h5: r1.Pairwise (R lt)) (h6: r2.Pairwise (R lt)) (h7: ∀ x ∈ r1,∀ y ∈ r2,x < y) (h8: r1 ≠ []) (h9: r2 ≠ []): SrE κ it lt N t c st
theorem wpS_srLast1 {l: List Nat} {p: Nat} {Q: ForInStep SrD -> SortSt -> Prop} (q: Q (.done (none,())) (sg κ (im it l) #[(0,N,p)] g)): wpS (model prog w) A E s srLast Q (sg κ (im it l) #[(0,N,p)] g):= by
 unfold srLast
 exact wpS_bind (wpS_get (wpS_pure q))
theorem wpS_srLast2 (hA: Asks prog w A s κ it lt N) {r1 r2: List Nat} (H: Run2 lt N r1 r2) {p p2: Nat} {Q: ForInStep SrD -> SortSt -> Prop} (q: ∀ g,Q (.yield (none,())) (sg κ (im it (mg lt r1 r2)) #[(0,r1.length + r2.length,p)] g)) :
  wpS (model prog w) A E s srLast Q (sg κ (im it (r1 ++ r2)) #[(0,r1.length,p),(r1.length,r2.length,p2)] g):= by
 unfold srLast
 refine wpS_bind (wpS_get ?_)
 show wpS _ _ _ _ (do
  let b <- mergeAt' 0
  if (!b) = true then pure (ForInStep.done (some (),())) else pure (ForInStep.yield (none,()))) _ _
 exact wpS_bind (wpS_mergeAt hA H fun g=> wpS_pure (q g))
theorem wpS_sortAll (hA: Asks prog w A s κ it lt N) (W: Weak lt) (hN: N = it.size) (h1: 1 <= N) (h128: N < 128) {Q: Unit -> SortSt -> Prop} (q: ∀ l pend g,l.Perm (List.range N) -> l.Pairwise (R lt) -> Q () (sg κ (im it l) pend g)) :
  wpS (model prog w) A E s sortRuns' Q (ost κ #[] it #[] 7 (rgA N)):= by
 rw [sr2_eq]
 unfold sr2
 refine wpS_bind (wpS_get ?_)
 have hz: (arrOf (ost κ #[] it #[] 7 (rgA N))).size = N:= by
  show (#[] ++ (rgA N).map (kas_item it)).size = N
  simp [rg_size]
 rw [hz]
 refine wpS_bind (wpS_mono (wpS_forRange (I:= fun t c st=> SrI κ it lt N t c st) (Q:= fun c st=> c = (none,N) /\ SrE κ it lt N 0 (none,()) st) ?_ ?_ (.zero rfl rfl rfl)) ?_)
 ·intro t c st _ ht hI
  cases hI with
  | zero a b c=> subst a b c;exact wpS_sr0 hA W h1 fun c st h=> h
  | half n p a b c h4 h5 h6 h7 h8=> subst a b c;exact wpS_sr1 hA W hN h128 h4 h5 h6 h7 h8 fun c st h=> h
  | one l a b c h4 h5=>
   subst b c
   exact wpS_ite (fun _=> wpS_pure ⟨rfl,.one l 0 7 rfl rfl h4 h5⟩) fun c=> absurd (Nat.le_refl N) c
  | two r1 r2 p a b c h4 h5 h6 h7 h8 h9=>
   subst b c
   exact wpS_ite (fun _=> wpS_pure ⟨rfl,.two r1 r2 p rfl rfl rfl h4 h5 h6 h7 h8 h9⟩) fun c=> absurd (Nat.le_refl N) c
 ·intro c st hI
  cases hI with
  | zero a b c=> lia
  | half n p a b c h4 h5 h6 h7 h8=> lia
  | one l a b c h4 h5=> exact ⟨b,.one l 0 7 rfl c h4 h5⟩
  | two r1 r2 p a b c h4 h5 h6 h7 h8 h9=> exact ⟨b,.two r1 r2 p rfl rfl c h4 h5 h6 h7 h8 h9⟩
 ·rintro c st ⟨rfl,hE⟩
  refine wpS_bind (wpS_mono (wpS_forRange (I:= fun t c st=> SrE κ it lt N t c st) (Q:= fun c st=> SrE κ it lt N 1 c st) ?_ ?_ hE) ?_)
  ·intro t c st _ ht hI
   cases hI with
   | one l p g b c h4 h5=> subst c;exact wpS_srLast1 (.one l p g rfl rfl h4 h5)
   | two r1 r2 p a b c h4 h5 h6 h7 h8 h9=>
    subst a c
    refine wpS_srLast2 hA (run2_of W h4 h5 h6 h8 h9) fun g=> ?_
    have hlen: r1.length + r2.length = N:= by have:= h4.length_eq;simpa using this
    exact .one _ p g rfl (by rw [hlen]) ((mg_perm r1 r2).trans h4) (mg_up W _ r1 r2 rfl h5 h6 h7)
  ·intro c st hI
   cases hI with
   | one l p g b c h4 h5=> exact .one l p g b c h4 h5
   | two r1 r2 p a b c h4 h5 h6 h7 h8 h9=> lia
  ·intro c st hI
   cases hI with
   | one l p g b c h4 h5=> subst b c;exact wpS_pure (q l _ g h4 h5)
   | two r1 r2 p a b c h4 h5 h6 h7 h8 h9=> cases a
theorem pre_of {l: List Nat} (hp: l.Perm (List.range N)): Pre N l.toArray N:= by
 have hl: l.length = N:= by have:= hp.length_eq;simpa using this
 refine ⟨by simpa using hl,by simpa using hp,fun i hi=> ?_,fun i a b=> absurd b (by exact Nat.not_lt.mpr a),Nat.le_refl _⟩
 rw [<- getD_list]
 show l.getD i 0 < N
 rw [List.getD_eq_getElem?_getD,List.getElem?_eq_getElem (by exact Nat.lt_of_lt_of_eq hi (id (Eq.symm hl)))]
 simpa using hp.mem_iff.mp (List.getElem_mem (show i < l.length by exact Nat.lt_of_lt_of_eq hi (id (Eq.symm hl))))
theorem up_of {l: List Nat} (hl: l.length = N) (h: l.Pairwise (R lt)): Up lt l.toArray N:= fun i j hij hj=> by
 rw [<- getD_list,<- getD_list]
 show R lt (l.getD i 0) (l.getD j 0)
 have g: ∀ i,i < N -> l.getD i 0 = l.getD i 0:= fun _ _=> rfl
 rw [List.getD_eq_getElem?_getD,List.getD_eq_getElem?_getD,List.getElem?_eq_getElem (show i < l.length by lia),List.getElem?_eq_getElem (show j < l.length by exact Nat.lt_of_lt_of_eq hj (id (Eq.symm hl)))]
 exact List.pairwise_iff_getElem.mp h i j _ _ hij
theorem sort_run {ks vs: List Value} (W: Weak lt) (hl: ks.length = vs.length) (h2: 2 <= vs.length) (h128: vs.length < 128) (ask: ∀ (i j: Nat) (C: Bool -> Shared -> Prop),i < vs.length -> j < vs.length -> C (lt i j) s -> kas_ask prog w A κ ks i j C s) {Q: SortSt -> Shared -> Prop}
  (q: ∀ p st',Pre vs.length p vs.length -> Up lt p vs.length -> arrOf st' = p.map (kas_item (ks.toArray.zip vs.toArray)) -> failedOf st' = none -> Q st' s): wpAny (model prog w) A ((sortRuns').run (SortSt.mk' κ (ks.toArray.zip vs.toArray) #[] 7 none)) (fun r s'=> Q r.2 s') E s:= by
 have hz: (ks.toArray.zip vs.toArray).size = vs.length:= by simp [hl]
 have est: SortSt.mk' κ (ks.toArray.zip vs.toArray) #[] 7 none = ost κ #[] (ks.toArray.zip vs.toArray) #[] 7 (rgA vs.length):= by
  have e:= kas_range (ks.toArray.zip vs.toArray)
  rw [hz] at e
  show SortSt.mk' κ (ks.toArray.zip vs.toArray) #[] 7 none = SortSt.mk' κ (#[] ++ (rgA vs.length).map (kas_item (ks.toArray.zip vs.toArray))) #[] 7 none
  unfold rgA
  rw [e,Array.empty_append]
 rw [est]
 have key:= wpS_sortAll (E:= E) (s:= s) (prog:= prog) (w:= w) (A:= A) (κ:= κ) (it:= ks.toArray.zip vs.toArray) (lt:= lt) (N:= vs.length) (Q:= fun _ st'=> Q st' s) (fun i j C hi hj hC=> by rw [<- kat_ask_eq hl];exact ask i j C hi hj hC) W hz.symm (by exact Nat.one_le_of_lt h2) h128 fun l pend g hp hu=>
  q l.toArray _ (pre_of hp) (up_of (by have:= hp.length_eq;simpa using this) hu) (by show im _ l = _;rw [<- Array.toList_inj];simp [im]) rfl
 exact wpAny_mono key (fun r s' h=> by obtain ⟨rfl,h⟩:= h;exact h) fun _ _ h=> h
end
section
variable {prog: Program} {w: World} {A: Around} {E: Value -> Shared -> Prop} {s: Shared}
noncomputable def outOf (vs: List Value) (p: Array Nat): Array Value:= List.toArray (p.toList.map fun i=> vs.getD i Value.none)
theorem list_sort_any {a: Addr} {vs: List Value} {n: Nat} {P: PySem.Fin -> Shared -> Prop} {κ: SortKind} {lt: Nat -> Nat -> Bool} (Wk: Weak lt) (ho: s.heap.get? a = some (seqObj "list" vs.toArray n)) (h2: 2 <= vs.length) (h64: vs.length < 128)
  (kind: ∀ (h': Heap) (Q: SortKind -> Shared -> Prop),(∀ b o,b ≠ a -> s.heap.get? b = some o -> h'.get? b = some o) -> Q κ { s with heap:= h' } -> wpAny (model prog w) A (keyKind' vs.toArray) Q (fun _ _=> False) { s with heap:= h' })
  (ask: ∀ (h': Heap) (i j: Nat) (C: Bool -> Shared -> Prop),(∀ b o,b ≠ a -> s.heap.get? b = some o -> h'.get? b = some o) -> i < vs.length -> j < vs.length -> C (lt i j) { s with heap:= h' } -> kas_ask prog w A κ vs i j C { s with heap:= h' })
  (h: ∀ p,Pre vs.length p vs.length -> Up lt p vs.length -> P (.done (.ret .none)) { s with heap:= sortedHeap s.heap a vs (outOf vs p) }) :
  wpAny (model prog w) A (Builtin.«list.sort» ⟨[.ref a],[]⟩) P E s:= by
 rw [list_sort_plain]
 have ha: a < s.heap.objs.size:= Heap.lt_size ho
 refine wpAny_bind (listItems_at ho rfl ?_)
 refine wpAny_bind (listUpdate_at ho rfl ?_)
 obtain ⟨e1,ho1⟩: ∃ e1,(s.heap.update a (Obj.mapSeq fun _=> #[])).get? a = some (seqObj "list" #[] e1):= ⟨_,get?_update_seq ho (fun _=> #[])⟩
 refine wpAny_bind (seqEpoch_at ho1 rfl ?_)
 refine wpAny_bind (wpAny_newTuple ?_)
 refine wpAny_bind (wpAny_newList ?_)
 refine wpAny_holding ?_
 have ho6: (((s.heap.update a (Obj.mapSeq fun _=> #[])).push (seqObj "tuple" vs.toArray 0)).push (seqObj "list" #[] 0)).get? a = some (seqObj "list" #[] e1):= by
  rw [Heap.get?_push_ne _ _ _ (by rw [size_push',Heap.size_update];exact Nat.ne_of_lt (Nat.lt_succ_of_lt ha)),Heap.get?_push_ne _ _ _ (by rw [Heap.size_update];exact Nat.ne_of_lt ha)]
  exact ho1
 have keep: ∀ b o,b ≠ a -> s.heap.get? b = some o -> (((s.heap.update a (Obj.mapSeq fun _=> #[])).push (seqObj "tuple" vs.toArray 0)).push (seqObj "list" #[] 0)).get? b = some o:= fun b o nb q=> by
  have hlt: b < s.heap.objs.size:= Heap.lt_size q
  rw [Heap.get?_push_ne _ _ _ (by rw [size_push',Heap.size_update];exact Nat.ne_of_lt (Nat.lt_succ_of_lt hlt)),Heap.get?_push_ne _ _ _ (by rw [Heap.size_update];exact Nat.ne_of_lt hlt),Heap.get?_update_ne _ _ _ _ nb]
  exact q
 show wpAny (model prog w) A _ P E { s with heap:= ((s.heap.update a (Obj.mapSeq fun _=> #[])).push (seqObj "tuple" vs.toArray 0)).push (seqObj "list" #[] 0) }
 dsimp only
 have hn2: ¬ vs.toArray.size < 2:= by rw [List.size_toArray];(exact Nat.not_lt.mpr h2)
 rw [if_neg hn2,if_neg hn2]
 refine wpAny_bind (wpAny_mono (kind _ (fun k s'=> k = κ /\ s' = { s with heap:= ((s.heap.update a (Obj.mapSeq fun _=> #[])).push (seqObj "tuple" vs.toArray 0)).push (seqObj "list" #[] 0) }) keep ⟨rfl,rfl⟩) ?_ fun _ _ x=> x.elim)
 rintro k s' ⟨rfl,rfl⟩
 refine wpAny_bind (wpAny_mono (sort_run (Q:= fun st' s'=> s' = { s with heap:= ((s.heap.update a (Obj.mapSeq fun _=> #[])).push (seqObj "tuple" vs.toArray 0)).push (seqObj "list" #[] 0) } /\ ∃ p: Array Nat,Pre vs.length p vs.length /\ Up lt p vs.length /\ (arrOf st').map (·.2) = outOf vs p /\ failedOf st' = none) Wk rfl h2 h64 (fun i j C hi hj hc=> ask _ i j C keep hi hj hc) fun p st' a1 a2 a3 a4=> ⟨rfl,p,a1,a2,kat_snds rfl a3,a4⟩) ?_ fun _ _ e=> e)
 rintro ⟨⟨⟩,st'⟩ s' ⟨rfl,p,hp,hu,hout,hf⟩
 dsimp only
 have hz: (outOf vs p).size = vs.length:= by unfold outOf;rw [List.size_toArray,List.length_map,Array.length_toList,hp.size]
 refine wpAny_bind (seqEpoch_at ho6 rfl ?_)
 refine wpAny_bind (listUpdate_at ho6 rfl ?_ (hsz2:= by rw [hout,hz,sizeLine_eq];lia))
 rw [hf]
 simp only [bne_self_eq_false,Bool.false_eq_true,if_false]
 refine wpAny_pure ?_
 have:= h p hp hu
 rw [<- hout] at this
 exact this
theorem sorted_any {l: Addr} {vs: List Value} {Q: Value -> Shared -> Prop} {κ: SortKind} {lt: Nat -> Nat -> Bool} (Wk: Weak lt) (hl: s.heap.IsList l vs.toArray) (h2: 2 <= vs.length) (h64: vs.length < 128)
  (kind: ∀ (h': Heap) (Q: SortKind -> Shared -> Prop),(∀ b o,s.heap.get? b = some o -> h'.get? b = some o) -> Q κ { s with heap:= h' } -> wpAny (model prog w) A.in1.in1 (keyKind' vs.toArray) Q (fun _ _=> False) { s with heap:= h' })
  (ask: ∀ (h': Heap) (i j: Nat) (C: Bool -> Shared -> Prop),(∀ b o,s.heap.get? b = some o -> h'.get? b = some o) -> i < vs.length -> j < vs.length -> C (lt i j) { s with heap:= h' } -> kas_ask prog w A.in1.in1 κ vs i j C { s with heap:= h' })
  (h: ∀ p,Pre vs.length p vs.length -> Up lt p vs.length -> Q (.ref (s.heap.objs.size + 1)) { s with heap:= sortedAll s.heap vs (outOf vs p) }) :
  wpAny (model prog w) A (call (.builtin "sorted") [.ref l]) Q E s:= by
 refine Calls.call_function_entry kind_sorted plain_sorted entry_sorted (args_sorted1 _) ?_
 unfold Builtin.«sorted»
 refine wpAny_bind (m:= checkCount "sorted" 1 1 _) (wpAny_pure ?_)
 refine wpAny_bind (collect_list hl ?_)
 refine wpAny_bind (wpAny_newList ?_)
 have hsz: ((s.heap.push (seqObj "list" #[] 0)).update s.heap.objs.size (Obj.mapSeq (· ++ vs.toArray))).objs.size = s.heap.objs.size + 1:= by
  rw [Heap.size_update,size_push']
 have hoL: (((s.heap.push (seqObj "list" #[] 0)).update s.heap.objs.size (Obj.mapSeq (· ++ vs.toArray))).push (seqObj "list" vs.toArray 0)).get? (s.heap.objs.size + 1) = some (seqObj "list" vs.toArray 0):= by
  rw [<- hsz];exact Heap.get?_push_size _ rfl
 have keep: ∀ b o,s.heap.get? b = some o -> (((s.heap.push (seqObj "list" #[] 0)).update s.heap.objs.size (Obj.mapSeq (· ++ vs.toArray))).push (seqObj "list" vs.toArray 0)).get? b = some o:= fun b o q=> by
  have hlt: b < s.heap.objs.size:= Heap.lt_size q
  rw [Heap.get?_push_ne _ _ _ (by rw [hsz];exact Nat.ne_of_lt (Nat.lt_succ_of_lt hlt)),Heap.get?_update_ne _ _ _ _ (Nat.ne_of_lt hlt),Heap.get?_push_ne _ _ _ (Nat.ne_of_lt hlt)]
  exact q
 have ne: ∀ b o,s.heap.get? b = some o -> b ≠ s.heap.objs.size + 1:= fun b o q=> Nat.ne_of_lt (Nat.lt_succ_of_lt (Heap.lt_size q))
 show wpAny _ _ _ _ _ { s with heap:= ((s.heap.push (seqObj "list" #[] 0)).update s.heap.objs.size (Obj.mapSeq (· ++ vs.toArray))).push (seqObj "list" vs.toArray 0) }
 rw [hsz]
 refine wpAny_bind (wpAny_holding (wpAny_call_entry slot_list_sort ⟨_,hoL,rfl⟩ entry_list_sort (list_sort_any Wk hoL h2 h64 (fun h' Q k q=> kind h' Q (fun b o e=> k b o (ne b o e) (keep b o e)) q)
  (fun h' i j C k hi hj hc=> ask h' i j C (fun b o e=> k b o (ne b o e) (keep b o e)) hi hj hc) fun p a1 a2=> ⟨_,rfl,?_⟩) (args_list_sort _)))
 exact wpAny_pure ⟨_,rfl,h p a1 a2⟩
end
section
variable {prog: Program} {w: World} {A: Around} {E: Value -> Shared -> Prop} {s: Shared}
noncomputable def Sorts (X: Addr -> Prop) (h: Heap) (vs: List Value) (lt: Nat -> Nat -> Bool): Prop:=
 ∃ κ,∀ (prog: Program) (w: World) (A: Around) (s: Shared),A.units <= 9100 -> (∀ b o,h.get? b = some o -> (Imm o \/ X b) -> s.heap.get? b = some o) ->
  (∀ Q: SortKind -> Shared -> Prop,Q κ s -> wpAny (model prog w) A (keyKind' vs.toArray) Q (fun _ _=> False) s) /\
  ∀ (i j: Nat) (C: Bool -> Shared -> Prop),i < vs.length -> j < vs.length -> C (lt i j) s -> kas_ask prog w A κ vs i j C s
theorem sortedAll_get (h: Heap) (vs: List Value) (out: List Value): ∃ nn,(sortedAll h vs out.toArray).get? (h.objs.size + 1) = some (LObj out nn):= by
 have hsz: ((h.push (seqObj "list" #[] 0)).update h.objs.size (Obj.mapSeq (· ++ vs.toArray))).objs.size = h.objs.size + 1:= by
  rw [Heap.size_update,size_push']
 have hoL: (((h.push (seqObj "list" #[] 0)).update h.objs.size (Obj.mapSeq (· ++ vs.toArray))).push (seqObj "list" vs.toArray 0)).get? (h.objs.size + 1) = some (seqObj "list" vs.toArray 0):= by
  rw [<- hsz];exact Heap.get?_push_size _ rfl
 have lt:= Heap.lt_size hoL
 unfold sortedAll sortedHeap
 obtain ⟨e1,ho6⟩: ∃ e1,(((((((h.push (seqObj "list" #[] 0)).update h.objs.size (Obj.mapSeq (· ++ vs.toArray))).push (seqObj "list" vs.toArray 0)).update (h.objs.size + 1) (Obj.mapSeq fun _=> #[])).push (seqObj "tuple" vs.toArray 0)).push (seqObj "list" #[] 0)).get? (h.objs.size + 1)) = some (seqObj "list" #[] e1):= by
  rw [Heap.get?_push_ne _ _ _ (by rw [size_push',Heap.size_update];exact Nat.ne_of_lt (Nat.lt_succ_of_lt lt)),Heap.get?_push_ne _ _ _ (by rw [Heap.size_update];exact Nat.ne_of_lt lt)]
  exact ⟨_,get?_update_seq hoL (fun _=> #[])⟩
 exact ⟨_,get?_update_seq ho6 (fun _=> out.toArray)⟩
theorem sortedAll_keep (h: Heap) (vs: List Value) (out: Array Value) (b: Addr) (o: Obj) (e: h.get? b = some o): (sortedAll h vs out).get? b = some o:= by
 have hlt: b < h.objs.size:= Heap.lt_size e
 have hsz: ((h.push (seqObj "list" #[] 0)).update h.objs.size (Obj.mapSeq (· ++ vs.toArray))).objs.size = h.objs.size + 1:= by
  rw [Heap.size_update,size_push']
 unfold sortedAll sortedHeap
 have n1: b ≠ h.objs.size + 1:= Nat.ne_of_lt (Nat.lt_succ_of_lt hlt)
 have n2: b < h.objs.size + 1 + 1:= Nat.lt_succ_of_lt (Nat.lt_succ_of_lt hlt)
 rw [Heap.get?_update_ne _ _ _ _ n1,Heap.get?_push_ne _ _ _ (by rw [size_push',Heap.size_update,size_push',hsz];exact Nat.ne_of_lt (Nat.lt_succ_of_lt n2)),Heap.get?_push_ne _ _ _ (by rw [Heap.size_update,size_push',hsz];exact Nat.ne_of_lt n2),Heap.get?_update_ne _ _ _ _ n1,
  Heap.get?_push_ne _ _ _ (by rw [hsz];exact n1),Heap.get?_update_ne _ _ _ _ (Nat.ne_of_lt hlt),Heap.get?_push_ne _ _ _ (Nat.ne_of_lt hlt)]
 exact e
theorem call_sorted {σ: Hp} {Q: V -> Hp -> Prop} {a: Addr} {xs: List V} {lt: Nat -> Nat -> Bool} (Wk: Weak lt) (e: listAt σ a = some xs) (h2: 2 <= xs.length) (h64: xs.length < 128)
  (hs: ∀ (h₀: Heap) (h: Heap) (vs: List Value),W h₀ σ h -> Reps h vs xs -> Sorts (fun _=> True) h vs lt)
  (q: ∀ p: Array Nat,Pre xs.length p xs.length -> Up lt p xs.length -> newL (p.toList.map fun i=> xs.getD i .none) Q σ): opCall .sorted [.ref a] Q σ:= by
 refine CallS.mk ?_
 intro prog w A s h₀ mg mb n vargs G R ra hw
 obtain ⟨v,rfl,r⟩:= one_rep ra;obtain rfl:= r.iref
 obtain ⟨vs,hl,r⟩:= hw.list e
 have hlen:= r.length
 obtain ⟨κ,hk⟩:= hs h₀ s.heap vs hw r
 have hu2: A.in1.in1.units <= 9100:= by have:= R.units;show A.units + 1 + 1 <= 9100;(exact ar_u4 this)
 refine sorted_any (κ:= κ) (lt:= lt) Wk hl (by exact le_of_le_of_eq h2 (id (Eq.symm hlen))) (by exact lt_of_eq_of_lt hlen h64) (fun h' Q k q=> (hk prog w _ _ hu2 fun b o e _=> k b o e).1 Q q) (fun h' i j C k hi hj hc=> (hk prog w _ _ hu2 fun b o e _=> k b o e).2 i j C hi hj hc) fun p hp hu=> ?_
 rw [hlen] at hp hu
 have rr: Reps s.heap (p.toList.map fun i=> vs.getD i Value.none) (p.toList.map fun i=> xs.getD i .none):= by
  have: ∀ l: List Nat,(∀ i ∈ l,i < xs.length) -> Reps s.heap (l.map fun i=> vs.getD i Value.none) (l.map fun i=> xs.getD i .none):= by
   intro l
   induction l with
   | nil=> intro _;exact .nil
   | cons i l ih=>
    intro h
    refine .cons ?_ (ih fun j m=> h j (.tail _ m))
    have hi:= h i (.head _)
    obtain ⟨v,e1,rv⟩:= r.get (List.getElem?_eq_getElem hi)
    dsimp only
    rw [List.getD_eq_getElem?_getD,List.getD_eq_getElem?_getD,e1,List.getElem?_eq_getElem hi];exact rv
  refine this _ fun i m=> ?_
  have:= hp.perm.mem_iff.mp m
  simpa using this
 have qq:= q p hp hu
 obtain ⟨nn,gg⟩:= sortedAll_get s.heap vs (p.toList.map fun i=> vs.getD i Value.none)
 refine PV.new (n:= nn) hw (fun b o e=> sortedAll_keep _ _ _ b o e) ?_ gg rr qq
 cases q: s.heap.get? (s.heap.objs.size + 1) with
 | none=> rfl
 | some o=> exact absurd (Heap.lt_size q) (Nat.not_lt_of_le (Nat.le_succ _))
theorem sorts_ints {X: Addr -> Prop} {h: Heap} {vs: List Value} {ns: List Int} (h2: 2 <= ns.length) (r: Reps h vs (ns.map .int)): Sorts X h vs (fun i j=> decide (ns.getD i 0 < ns.getD j 0)):= by
 have hi:= reps_ints r
 have hlen:= hi.length
 refine ⟨oneType',fun prog w A s _ _=> ⟨fun Q q=> ?_,fun i j C hvi hvj hc=> ?_⟩⟩
 ·match vs,hi,hlen with
  | [],_,hlen=> simp at hlen;lia
  | [v],_,hlen=> simp at hlen;lia
  | v₁ :: v₂ :: vs,hi,_=> rw [keyKind_ints hi];exact wpAny_pure q
 ·have at': ∀ k,k < vs.length -> ∃ t,vs.getD k Value.none = .int (ns.getD k 0) t:= fun k hk=> by
   have hk': k < ns.length:= by exact Nat.lt_of_lt_of_eq hk hlen
   obtain ⟨v,e1,rv⟩:= r.get (i:= k) (x:= .int (ns.getD k 0)) (by simp [hk'])
   obtain ⟨t,rfl⟩:= rv.iint
   exact ⟨t,by rw [List.getD_eq_getElem?_getD,e1];rfl⟩
  obtain ⟨t,e1⟩:= at' i hvi
  obtain ⟨u,e2⟩:= at' j hvj
  unfold kas_ask
  rw [e1,e2,keyLt'_oneType]
  exact oneLt_int hc
theorem katLex_ints {fin: Bool} {Q: Bool -> Shared -> Prop}: ∀ (vs ws: List Value) (xs ys: List Int) (i: Nat),IntsAre vs xs -> IntsAre ws ys -> fin = decide (vs.length < ws.length) -> Q (ltI xs ys) s -> KatLex prog w A true fin Q (vs.zip ws) i s
 | [],ws,xs,ys,i,h1,h2,hf,q=> by
  cases h1
  cases h2 with
  | nil=> simp [ltI] at q;simp at hf;subst hf;exact q
  | cons _ _ _=> simp [ltI] at q;simp at hf;subst hf;exact q
 | v :: vs,[],xs,ys,i,h1,h2,hf,q=> by
  cases h1
  cases h2
  simp [ltI] at q;simp at hf;subst hf;exact q
 | v :: vs,w' :: ws,xs,ys,i,h1,h2,hf,q=> by
  cases h1 with
  | cons x t h1=>
  cases h2 with
  | cons y u h2=>
  rw [List.zip_cons_cons]
  refine kat_cons (wpAny_eqBool_int ?_)
  simp only [ltI] at q
  by_cases e: x = y
  ·rw [if_pos e] at q
   rw [show (x == y) = true by simp [e]]
   exact kat_yes (katLex_ints vs ws _ _ (i + 1) h1 h2 (by simpa using hf) q)
  ·rw [if_neg e] at q
   rw [show (x == y) = false by simp [e]]
   refine kat_no ?_
   cases hb: (true && i == 0) with
   | true=> exact oneLt_int q
   | false=> exact kat_one _ _ (lt_int q)
theorem katTups_of {h h': Heap} (k: ∀ b o,h.get? b = some o -> Imm o -> h'.get? b = some o): ∀ {vs: List Value} {xs: List (List Int)},Reps h vs (xs.map fun x=> .tup (x.map .int)) -> (∀ x ∈ xs,x ≠ []) -> ∃ fs,KatTups h' vs fs /\ fs.length = vs.length /\ ∀ f ∈ fs,∃ n t,f = .int n t
 | [],[],_,_=> ⟨[],.nil,rfl,fun f m=> by cases m⟩
 | v :: vs,x :: xs,.cons r rs,hn=> by
  obtain ⟨fs,t1,t2,t3⟩:= katTups_of k rs fun y m=> hn y (.tail _ m)
  obtain ⟨av,us,rfl,y,rr⟩:= r.itup
  cases x with
  | nil=> exact absurd rfl (hn [] (.head _))
  | cons x0 x'=>
  obtain ⟨u0,us,rfl,r0,rr⟩:= Reps.icons rr
  obtain ⟨t,rfl⟩:= r0.iint
  obtain ⟨o,e,c,n,d⟩:= y
  exact ⟨.int x0 t :: fs,.cons (k _ _ e (.inl ⟨c,_,_,d⟩)) c d (by simp) t1,by simp [t2],fun f m=> by
   rcases List.mem_cons.mp m with rfl | m
   ·exact ⟨_,_,rfl⟩
   ·exact t3 f m⟩
theorem sorts_tups {X: Addr -> Prop} {h: Heap} {vs: List Value} {xs: List (List Int)} (h2: 2 <= xs.length) (r: Reps h vs (xs.map fun x=> .tup (x.map .int))) (hn: ∀ x ∈ xs,x ≠ []): Sorts X h vs (fun i j=> ltI (xs.getD i []) (xs.getD j [])):= by
 have hlen:= r.length
 simp only [List.length_map] at hlen
 refine ⟨tuples' (Value.type "int" != Value.type "tuple"),fun prog w A s _ k'=> ⟨fun Q q=> ?_,fun i j C hvi hvj hc=> ?_⟩⟩ <;> have k: ∀ b o,h.get? b = some o -> Imm o -> s.heap.get? b = some o:= fun b o e i=> k' b o e (.inl i)
 ·obtain ⟨fs,t1,t2,t3⟩:= katTups_of k r hn
  refine kat_kind (T:= .type "int") t1 (by lia) (fun f m=> ?_) (by decide) q
  obtain ⟨n,t,rfl⟩:= t3 f m
  exact .now
 ·have at': ∀ k',k' < vs.length -> ∃ a o us n,vs.getD k' Value.none = .ref a /\ s.heap.get? a = some o /\ o.data = .seq us n /\ IntsAre us.toList (xs.getD k' []):= fun k' hk=> by
   have hk': k' < xs.length:= by exact Nat.lt_of_lt_of_eq hk hlen
   obtain ⟨v,e1,rv⟩:= r.get (i:= k') (x:= .tup ((xs.getD k' []).map .int)) (by simp [hk'])
   obtain ⟨av,us,rfl,y,rr⟩:= rv.itup
   ·obtain ⟨o,e,c,n,d⟩:= y
    exact ⟨_,o,_,n,by rw [List.getD_eq_getElem?_getD,e1];rfl,k _ _ e (.inl ⟨c,_,_,d⟩),d,reps_ints rr⟩
  obtain ⟨a1,o1,u1,n1,e1,g1,d1,i1⟩:= at' i hvi
  obtain ⟨a2,o2,u2,n2,e2,g2,d2,i2⟩:= at' j hvj
  unfold kas_ask
  rw [e1,e2]
  have hb: (Value.type "int" != Value.type "tuple") = true:= by decide
  rw [hb]
  exact kat_lt g1 d1 g2 d2 (katLex_ints _ _ _ _ 0 i1 i2 (by simp) hc)
end
noncomputable def PE.gfn (i: Nat): PE:= .of fun Φ Q F σ=> ∀ fd,Φ 1001 [.int i,.func fd] (fun _ _=> True) σ -> Q (.func fd) σ
noncomputable def PE.vcall (j: Nat) (es: List PE): PE:= .of fun Φ Q F σ=> look F j (fun f=> ∃ fd,f = .func fd /\ vEs Φ es (fun vs σ=> Φ 1000 (f :: vs) Q σ) F σ)
noncomputable def PE.ucallk (i: Nat) (a b k: PE): PE:= .of fun Φ Q F σ=> vEs Φ [a,b] (fun vs σ=> ∃ x y,vs = [x,y] /\ vE Φ k (fun u σ=> Φ i [x,y,u] Q σ) F σ) F σ
section
variable (Φ: Fns) (Q: V -> Hp -> Prop) (P: Bool -> Hp -> Prop) (F: Frm) (σ: Hp)
theorem e_gfn (i: Nat): vE Φ (.gfn i) Q F σ = ∀ fd,Φ 1001 [.int i,.func fd] (fun _ _=> True) σ -> Q (.func fd) σ:= rfl
theorem e_vcall (j: Nat) (es: List PE): vE Φ (.vcall j es) Q F σ = look F j (fun f=> ∃ fd,f = .func fd /\ vEs Φ es (fun vs σ=> Φ 1000 (f :: vs) Q σ) F σ):= rfl
theorem e_ucallk (i: Nat) (a b k: PE): vE Φ (.ucallk i a b k) Q F σ = vEs Φ [a,b] (fun vs σ=> ∃ x y,vs = [x,y] /\ vE Φ k (fun u σ=> Φ i [x,y,u] Q σ) F σ) F σ:= rfl
end
section
variable {c: Cfg} {p q: Pos}
theorem CE.gfn {x: Str} {i: Nat} (hn: c.fns[i]? = some x) (hd: (x == ("__debug__": Str)) = false) (hk: c.sc.lookup x = some .globalImplicit): CE c (.Name x p) (.gfn i):= by
 intro prog w h₀ mg mb Φ n A s σ env own F Q X v
 obtain ⟨fv,e1,fa,o,fd,rfl,e2,e3,call,cr⟩:= X.NM.fn i _ hn
 refine load_glob X.G X.w X.f hk hd (.inl e1) ?_
 exact PV.same' X.w (.func (X.w.stays _ _ e2) e3 (cr.keeps X.w.stays)) (v fd (X.NM.gv i x fa o fd hn e1 e2 e3 σ))
theorem CE.vcall {x: Str} {j: Nat} {es: List Expr} {as: List PE} (e: c.names[j]? = some x) (hd: (x == ("__debug__": Str)) = false) (hcd: (x == ("__classdict__": Str)) = false) (hs: CEs c es as): CE c (.Call (.Name x p) es [] q) (.vcall j as):= by
 intro prog w h₀ mg mb Φ n A s σ env own F Q X v
 obtain ⟨u,hu,fd,rfl,v⟩:= look_some v
 refine Call_Name rfl (wpAny_Name (X.f.load e hu hcd fun fv r=> ?_) hd)
 obtain ⟨fa,o,rfl,e1,e2,cr⟩:= r.ifunc
 refine callWith_function_kw (o:= o) (fd:= fd) (evalArgs_ces hs (wpAny_mono (sEs hs X v) (fun vs s₁=> PVs.on fun xs σ₁ rs st m₁ q=> ?_) fun _ _ f=> f))
 have e1':= st.tups _ _ e1 (.inr (.inr (.inl ⟨_,e2⟩)))
 exact ⟨⟨e1',e2⟩,wpAny_mono (X.NM.cv fd A s₁ σ₁ fa o ⟨vs,[]⟩ vs xs Q e1' e2 (st.tups.code cr) (fun _ h=> h) X.R.weak (X.fs.step st) st.w rs q) (fun _ _ pv=> pv.back st m₁) fun _ _ f=> f⟩
theorem Call_NameK {M: Model} {A: Around} {E: Value -> Shared -> Prop} {s: Shared} {env: Env} {x: Str} {p pos: Pos} {args: List Expr} {kws: List Keyword} {Q: Value -> Shared -> Prop}
  (h: wpAny M A (eval (.Name x p) env) (fun f s₁=> wpAny M A (callWith pos f [] (backTo pos (starEach args env)) (backToKw pos (keywordEach kws env))) Q E s₁) E s) :
  wpAny M A (eval (.Call (.Name x p) args kws pos) env) Q E s:= wpAny_bind h
theorem CE.ucallk {x: Str} {i: Nat} {e1 e2 e3: Expr} {kp: Pos} {a b k: PE} (hx: x = "nsmallest") (hn: c.fns[i]? = some x) (hk: c.sc.lookup x = some .globalImplicit) (hs: CEs c [e1,e2] [a,b]) (hk3: CE c e3 k): CE c (.Call (.Name x p) [e1,e2] [⟨some "key",e3,kp⟩] q) (.ucallk i a b k):= by
 intro prog w h₀ mg mb Φ n A s σ env own F Q X v
 subst hx
 obtain ⟨fv,g1,fa,o,fd,rfl,g2,g3,call,cr⟩:= X.NM.fn i _ hn
 refine Call_NameK (load_glob X.G X.w X.f hk (by decide) (.inl g1) ?_)
 refine callWith_function_kw (o:= o) (fd:= fd) ?_
 cases hs with
 | cons h1 h2 hst=>
 have hs': CEs c [e1,e2] [a,b]:= .cons h1 h2 hst
 have key:= sEs (pos:= q) (Q:= fun vs σ=> ∃ x y,vs = [x,y] /\ vE Φ k (fun u σ=> Φ i [x,y,u] Q σ) F σ) hs' X v
 rw [hst env] at key ⊢
 refine evalArgs_kwB rfl (wpAny_mono key (fun vs s₁=> PVs.on fun xs σ₁ rs st m₁ ⟨x,y,ex,q⟩=> ?_) fun _ _ f=> f)
 subst ex
 obtain ⟨vx,vy,rfl,r1,r2⟩:= two_rep rs
 refine kws_cons (wpAny_mono (hk3 (X.step st) q) (fun u s₂=> PV.on fun z σ₂ rz st₂ m₂ q₂=> kws_nil ?_) fun _ _ f=> f)
 have st12:= st.trans st₂
 refine ⟨⟨st12.w.stays _ _ g2,g3⟩,?_⟩
 exact wpAny_mono (call A s₂ σ₂ fa o ⟨[vx,vy],[("key",u)]⟩ [vx,vy,u] [x,y,z] Q (st12.w.stays _ _ g2) g3 (cr.keeps st12.w.stays) (fun binds hb=> (X.NM.kv fa o fd g1 g2 g3 s₂ st12.w.stays binds vx vy u).1 hb) X.R.weak (X.fs.step st12) st12.w (.cons (r1.step st₂) (.cons (r2.step st₂) (.cons rz .nil))) q₂) (fun _ _ pv=> pv.back st12 (m₁.trans m₂)) fun _ _ f=> f
end
set_option tactic.hygienic true
section
variable {prog: Program} {w: World} {A: Around} {s: Shared}
theorem next_list_end {E: Value -> Shared -> Prop} {it l: Addr} {i: Nat} {items: Array Value} {Q: Option Value -> Shared -> Prop} (hh: A.handled = none)
  (hit: s.heap.IsListIter it l i) (hl: s.heap.IsList l items) (hx: items[i]? = none)
  (hQ: ∀ h' o,Heap.ExtBut it s.heap h' -> h'.get? it = some o -> o.cls = .type "list_iterator" -> o.data = .fields #[.none,.int i 0] -> Q none { s with heap:= h' }): wpAny (model prog w) A (pyNext (.ref it)) Q E s:= by
 obtain ⟨o,ho,hc,hd⟩:= id hit
 obtain ⟨ol,hol,_,nl,hdl⟩:= hl
 unfold pyNext
 refine wpAny_bind (wpAny_attempt (wpAny_callSpecial?_slot (name:= Str.ofString "__next__") hit.typeIs slot_listiter_next
  (wpAny_call_entry slot_listiter_next hit.typeIs entry_listiter_next ?_ (args_listiter_next _))))
 show wpAny _ _ (field (.ref it) 0 >>= _) _ _ s
 refine wpAny_bind (wpAny_field ho hd (x:= .ref l) rfl ?_)
 show wpAny _ _ (if (Value.ref l == Value.none) = true then _ else _) _ _ s
 rw [if_neg (show ¬ ((Value.ref l == Value.none) = true) from Bool.false_ne_true)]
 show wpAny _ _ (field (.ref it) 1 >>= _) _ _ s
 refine wpAny_bind (wpAny_field ho hd (x:= .int i 0) rfl ?_)
 show wpAny _ _ (seqItems? (.ref l) >>= _) _ _ s
 refine wpAny_bind (wpAny_seqItems hol hdl ?_)
 simp only [Int.toNat_natCast,hx]
 refine wpAny_bind (wpAny_rule (wpAny_bind (wpAny_setField ho hd (by simp) ?_)))
 show wpAny _ _ (newExc (.type "StopIteration") [] >>= _) _ _ _
 refine wpAny_bind ?_
 simp only [newExc,newTuple]
 refine wpAny_bind (wpAny_newObj_type ?_ (by size_fits))
 refine wpAny_bind (m:= firstArgMember _ _) (wpAny_of_eq (a:= Value.none) (by first | rfl | (simp only [firstArgMember];rfl)) ?_)
 refine wpAny_newObj_type ?_ (by size_fits)
 simp only [raiseNew]
 refine wpAny_bind (wpAny_handled ?_)
 rw [show A.in1.handled = none from hh]
 refine wpAny_bind (wpAny_pure (wpAny_throw ?_))
 refine wpAny_bind (wpAny_isInstance (T:= "StopIteration") (b:= true) ⟨_,Heap.get?_push_size _ rfl,rfl⟩ isSubtype_stop ?_)
 have hd':= Obj.data_mapFields hd (·.setIfInBounds 0 Value.none)
 refine wpAny_pure (hQ _ _ (((Heap.SameBut.update ..).extBut.push _).push _) (Heap.get?_push_of_some _ (Heap.get?_push_of_some _ (Heap.get?_update_self _ ho (Obj.isFreed_of_fields hd')))) ((Obj.cls_mapFields ..).trans hc) (by rw [hd'];rfl))
theorem next_list_dead {E: Value -> Shared -> Prop} {it: Addr} {i: Nat} {o: Obj} {Q: Option Value -> Shared -> Prop} (hh: A.handled = none)
  (ho: s.heap.get? it = some o) (hc: o.cls = .type "list_iterator") (hd: o.data = .fields #[.none,.int i 0])
  (hQ: ∀ h',(∀ b o,s.heap.get? b = some o -> h'.get? b = some o) -> Q none { s with heap:= h' }): wpAny (model prog w) A (pyNext (.ref it)) Q E s:= by
 have hT: s.TypeIs (.ref it) "list_iterator":= ⟨o,ho,hc⟩
 unfold pyNext
 refine wpAny_bind (wpAny_attempt (wpAny_callSpecial?_slot (name:= Str.ofString "__next__") hT slot_listiter_next
  (wpAny_call_entry slot_listiter_next hT entry_listiter_next ?_ (args_listiter_next _))))
 show wpAny _ _ (field (.ref it) 0 >>= _) _ _ s
 refine wpAny_bind (wpAny_field ho hd (x:= .none) rfl ?_)
 show wpAny _ _ (if (Value.none == Value.none) = true then _ else _) _ _ s
 rw [if_pos (show (Value.none == Value.none) = true from rfl)]
 refine wpAny_bind (wpAny_rule (wpAny_bind ?_))
 show wpAny _ _ (newExc (.type "StopIteration") [] >>= _) _ _ _
 refine wpAny_bind ?_
 simp only [newExc,newTuple]
 refine wpAny_bind (wpAny_newObj_type ?_ (by size_fits))
 refine wpAny_bind (m:= firstArgMember _ _) (wpAny_of_eq (a:= Value.none) (by first | rfl | (simp only [firstArgMember];rfl)) ?_)
 refine wpAny_newObj_type ?_ (by size_fits)
 simp only [raiseNew]
 refine wpAny_bind (wpAny_handled ?_)
 rw [show A.in1.handled = none from hh]
 refine wpAny_bind (wpAny_pure (wpAny_throw ?_))
 refine wpAny_bind (wpAny_isInstance (T:= "StopIteration") (b:= true) ⟨_,Heap.get?_push_size _ rfl,rfl⟩ isSubtype_stop ?_)
 exact wpAny_pure (hQ _ fun b o e=> Heap.get?_push_of_some _ (Heap.get?_push_of_some _ e))
end
noncomputable def itStep (σ: Hp) (a: Addr): Option (Option V × Hp):=
 match σ a with
 | some (.iter (some l) i)=> (match listAt σ l with
  | some xs=> (match xs[i]? with | some x=> some (some x,upd σ a (.iter (some l) (i + 1))) | none=> some (none,upd σ a (.iter none i)))
  | none=> none)
 | some (.iter none i)=> some (none,σ)
 | _=> none
section
variable {prog: Program} {w: World} {A: Around} {s: Shared} {h₀: Heap} {σ σ': Hp}
theorem itStep_some {a: Addr} {x: V} (hw: W h₀ σ s.heap) (h: itStep σ a = some (some x,σ')) {E: Value -> Shared -> Prop} {Q: Option Value -> Shared -> Prop}
  (q: ∀ v s',Rep s'.heap v x -> Step h₀ σ s.heap σ' s'.heap -> Sm s s' -> Q (some v) s'): wpAny (model prog w) A (pyNext (.ref a)) Q E s:= by
 unfold itStep at h
 split at h
 ·rename_i l i ea
  split at h
  ·rename_i xs el
   split at h
   ·rename_i y ey
    cases h
    have hi: s.heap.IsListIter a l i:= hw.holds _ _ ea
    obtain ⟨vs,hl,r⟩:= hw.list el
    obtain ⟨v,ev,rv⟩:= r.get ey
    refine wpAny_pyNext_list_item hi hl (by simpa using ev) fun h' hi' sb=> ?_
    have st: Step h₀ σ s.heap (upd σ a (.iter (some l) (i + 1))) h':= hw.change ⟨_,ea,rfl⟩ sb.extBut (fun _=> hi') trivial
    exact q v _ (rv.step st) st ⟨rfl,rfl⟩
   ·cases h
  ·cases h
 ·cases h
 ·cases h
theorem itStep_none {a: Addr} (hh: A.handled = none) (hw: W h₀ σ s.heap) (h: itStep σ a = some (none,σ')) {E: Value -> Shared -> Prop} {Q: Option Value -> Shared -> Prop}
  (q: ∀ s',Step h₀ σ s.heap σ' s'.heap -> Sm s s' -> Q none s'): wpAny (model prog w) A (pyNext (.ref a)) Q E s:= by
 unfold itStep at h
 split at h
 ·rename_i l i ea
  split at h
  ·rename_i xs el
   split at h
   ·cases h
   ·rename_i ey
    cases h
    have hi: s.heap.IsListIter a l i:= hw.holds _ _ ea
    obtain ⟨vs,hl,r⟩:= hw.list el
    have ev: vs[i]? = none:= by rw [List.getElem?_eq_none_iff] at ey ⊢;rw [r.length];exact ey
    refine next_list_end hh hi hl (by simpa using ev) fun h' o eb go c d=> ?_
    exact q _ (hw.change ⟨_,ea,rfl⟩ eb (fun _=> ⟨o,go,c,d⟩) trivial) ⟨rfl,rfl⟩
  ·cases h
 ·rename_i i ea
  cases h
  obtain ⟨o,ho,hc,hd⟩:= hw.holds _ _ ea
  exact next_list_dead hh ho hc hd fun h' k=> q _ (hw.extend k) ⟨rfl,rfl⟩
 ·cases h
theorem iter_self {a: Addr} {l: Option Addr} {i: Nat} (hw: W h₀ σ s.heap) (e: σ a = some (.iter l i)) {E: Value -> Shared -> Prop} {Q: Value -> Shared -> Prop} (q: Q (.ref a) s): wpAny (model prog w) A (pyIter (.ref a)) Q E s:= by
 have: ∃ o,s.heap.get? a = some o /\ o.cls = .type "list_iterator":= by
  have:= hw.holds _ _ e
  cases l with
  | none=> obtain ⟨o,h1,h2,_⟩:= this;exact ⟨o,h1,h2⟩
  | some l=> obtain ⟨o,h1,h2,_⟩:= this;exact ⟨o,h1,h2⟩
 have hT: s.TypeIs (.ref a) "list_iterator":= this
 refine wpAny_pyIter_slot hT slot_listiter_iter (wpAny_call_entry slot_listiter_iter hT entry_listiter_iter ?_ (args_listiter_iter _))
 show wpAny _ _ (ret (.ref a)) _ _ s
 exact wpAny_pure ⟨_,rfl,"list_iterator",_,hT,slot_listiter_next.lookup,q⟩
theorem letGo_iter {a: Addr} {l: Option Addr} {i: Nat} {t: Expr} {y: Value} (hw: W h₀ σ s.heap) (e: σ a = some (.iter l i)) {E: Value -> Shared -> Prop} {Q: Unit -> Shared -> Prop} (q: Q () s): wpAny (model prog w) A (letOwnedTupleGo t (.ref a) y) Q E s:= by
 have:= hw.holds _ _ e
 cases l with
 | none=> obtain ⟨o,h1,h2,h3⟩:= this;exact letGo_at h1 h2 h3 (by decide) q
 | some l=> obtain ⟨o,h1,h2,h3⟩:= this;exact letGo_at h1 h2 h3 (by decide) q
end
section
variable {σ: Hp} {Q: V -> Hp -> Prop}
theorem call_iter_list {a: Addr} {xs: List V} (e: listAt σ a = some xs) (q: ∀ b,σ b = none -> Q (.ref b) (upd σ b (.iter (some a) 0))): opCall .iter [.ref a] Q σ:= by
 refine CallS.mk ?_
 intro prog w A s h₀ mg mb n vargs G R ra hw
 obtain ⟨v,rfl,r⟩:= one_rep ra;obtain rfl:= r.iref
 obtain ⟨vs,hl,r⟩:= hw.list e
 refine Calls.call_function_entry (by decide +kernel) (by decide +kernel) kdk_entry_iter (kdk_args_iter _) ?_
 unfold Builtin.«iter»
 refine wpAny_bind (m:= someArgs "iter" 1 2 _) (wpAny_of_eq (a:= [Value.ref a]) (by first | rfl | kernel_rfl!) ?_)
 show wpAny _ _ (pyIter (.ref a) >>= _) _ _ _
 refine wpAny_bind (wpAny_pyIter_list hl ?_)
 have st: Step h₀ σ s.heap (upd σ s.heap.objs.size (.iter (some a) 0)) _:= hw.alloc (h':= s.heap.push { cls:= .type "list_iterator",data:= .fields #[.ref a,.int 0 0] }) (fun b o e=> Heap.get?_push_of_some _ e) (get_push_none _) ⟨_,Heap.get?_push_size _ rfl,rfl,rfl⟩ trivial
 exact wpAny_pure ⟨_,rfl,_,_,.ref _,⟨st,rfl,rfl⟩,q _ (hw.fresh (get_push_none _))⟩
theorem call_iter_iter {a: Addr} {l: Option Addr} {i: Nat} (e: σ a = some (.iter l i)) (q: Q (.ref a) σ): opCall .iter [.ref a] Q σ:= by
 refine CallS.mk ?_
 intro prog w A s h₀ mg mb n vargs G R ra hw
 obtain ⟨v,rfl,r⟩:= one_rep ra;obtain rfl:= r.iref
 refine Calls.call_function_entry (by decide +kernel) (by decide +kernel) kdk_entry_iter (kdk_args_iter _) ?_
 unfold Builtin.«iter»
 refine wpAny_bind (m:= someArgs "iter" 1 2 _) (wpAny_of_eq (a:= [Value.ref a]) (by first | rfl | kernel_rfl!) ?_)
 show wpAny _ _ (pyIter (.ref a) >>= _) _ _ _
 refine wpAny_bind (iter_self hw e ?_)
 exact wpAny_pure ⟨_,rfl,PV.same' hw (.ref _) q⟩
end
inductive ForX (Φ: Fns) (b: List PS) (i: Nat) (Q: Fl -> Frm -> Hp -> Prop) (a: Addr) (F: Frm) (σ: Hp): Prop
 | mk (Inv: Nat -> Frm -> Hp -> Prop) (h1: (∃ n,Inv n F σ)) (h2: ∀ n F σ,Inv n F σ ->
    match itStep σ a with
    | none=> False
    | some (none,σ')=> Q .next F σ'
    | some (some x,σ')=> vSs Φ b (fun fl F σ=> match fl with
     | .next=> ∃ m,m < n /\ Inv m F σ
     | .cont=> ∃ m,m < n /\ Inv m F σ
     | .brk=> Q .next F σ
     | .ret v=> Q (.ret v) F σ) (F.set i (some x)) σ'): ForX Φ b i Q a F σ
noncomputable def PS.forx (i: Nat) (it: PE) (b: List PS): PS:= fun Φ R F σ=> vE Φ it (fun x σ=> ∃ a l k,x = .ref a /\ σ a = some (.iter l k) /\ ForX Φ b i R a F σ) F σ
theorem s_forx (Φ: Fns) (R: Fl -> Frm -> Hp -> Prop) (F: Frm) (σ: Hp) (i: Nat) (it: PE) (b: List PS): vS Φ (.forx i it b) R F σ = vE Φ it (fun x σ=> ∃ a l k,x = .ref a /\ σ a = some (.iter l k) /\ ForX Φ b i R a F σ) F σ:= rfl
theorem itStep_iter {σ σ': Hp} {a: Addr} {x: Option V} (h: itStep σ a = some (x,σ')): ∃ l k,σ' a = some (.iter l k):= by
 unfold itStep at h
 split at h
 ·split at h
  ·split at h
   ·cases h;exact ⟨_,_,upd_same _ _ _⟩
   ·cases h;exact ⟨_,_,upd_same _ _ _⟩
  ·cases h
 ·rename_i e;cases h;exact ⟨_,_,e⟩
 ·cases h
theorem CS.forx {c: Cfg} {p q: Pos} {x: Str} {i: Nat} {it: Expr} {l: List Stmt} {a: PE} {b: List PS} (hx: c.names[i]? = some x) (nf: c.sc.lookup x ≠ some .free) (hit: CE c it a) (hs: ∀ env x,foldedSetIterable it env x = pure x) (hl: CSs c l b): CS c (.For (.Name x q) it l [] p) (.forx i a b):= by
 intro prog w h₀ mg mb Φ n A s σ env own F Q X T v
 refine wpAny_For (wpAny_mono (hit X v) (fun y s₁=> PV.on fun z σ₁ rz st m₁ ⟨ad,l0,k0,ez,eσ,Inv,⟨n0,hi⟩,hinv⟩=> ?_) fun _ _ f=> f) (hs env)
 subst ez
 obtain rfl:= rz.iref
 refine iter_self st.w eσ ?_
 have e0: ∀ (E: Value -> Shared -> Prop) e s,E0 e s -> E e s:= fun _ _ _ f=> f.elim
 refine codeAny_forLoop_any (fun n s'=> ∃ F σ',Sm s s' /\ Inv n F σ' /\ FrOk c env own F h₀ σ' s'.heap /\ StepX own h₀ σ s.heap σ' s'.heap) (fun n s' hI=> ?_) n0 ⟨F,σ₁,m₁,hi,X.f.step st,Step.any st⟩
 obtain ⟨F,σ',mI,hi,fr,stI⟩:= hI
 have q:= hinv n F σ' hi
 split at q
 ·exact q.elim
 ·rename_i σ2 hn
  refine itStep_none X.R.handled stI.w hn fun s'' st2 m2=> wpAny_execs_nil ?_
  exact ⟨.next,F,σ2,trivial,⟨stI.trans (Step.any st2),mI.trans m2⟩,fr.step st2,q⟩
 ·rename_i xx σ2 hn
  obtain ⟨l1,k1,e1⟩:= itStep_iter hn
  refine itStep_some stI.w hn fun y s₂ ry st2 m2=> letGo_iter st2.w e1 (wpAny_assign_Name ((fr.step st2).store st2.w hx nf ry fun s₃ m3 stx f1=> ?_))
  have all:= (stI.trans (Step.any st2)).trans stx
  refine wpAny_mono (hl ⟨X.G,X.NM,X.R,stx.w,f1,X.fs.step all⟩ T q) (fun f s₄ ⟨fl,F4,σ4,rf,⟨st4,m4⟩,fr4,q4⟩=> ?_) (e0 _)
  have all4:= all.trans st4
  have mm:= ((mI.trans m2).trans m3).trans m4
  cases f with
  | next=> cases fl <;> first | exact rf.elim | (obtain ⟨m,hm,q5⟩:= q4;exact ⟨m,hm,F4,σ4,mm,q5,fr4,all4⟩)
  | cont=> cases fl <;> first | exact rf.elim | (obtain ⟨m,hm,q5⟩:= q4;exact ⟨m,hm,F4,σ4,mm,q5,fr4,all4⟩)
  | brk=> cases fl <;> first | exact rf.elim | exact ⟨.next,F4,σ4,trivial,⟨all4,mm⟩,fr4,q4⟩
  | ret v=> cases fl <;> first | exact rf.elim | exact ⟨.ret _,F4,σ4,rf,⟨all4,mm⟩,fr4,q4⟩
set_option tactic.hygienic false
theorem nolen: typeLookup (.type "list_iterator") (Str.ofString "__len__") = pure none:= by rw [typeLookup_type,builtinLookup_eq_fast];kernel_rfl
section
variable {prog: Program} {w: World} {A: Around} {s: Shared}
theorem typeName_listiter {E: Value -> Shared -> Prop} {it: Addr} {Q: String -> Shared -> Prop} (hT: s.TypeIs (.ref it) "list_iterator") (h: Q "list_iterator" s): wpAny (model prog w) A (PySem.typeNameOf (.ref it)) Q E s:= by
 unfold PySem.typeNameOf shownTypeOf
 refine wpAny_bind (wpAny_bind (wpAny_typeOf hT ?_))
 simp only [show (Value.type "list_iterator" == Value.type "builtin_function_or_method") = false by decide,Bool.false_eq_true,if_false]
 refine wpAny_pure ?_
 have e: typeName (.type "list_iterator") = pure "list_iterator":= by unfold typeName;rw [find?_eq_fast];kernel_rfl
 rw [e];exact wpAny_pure h
theorem len_raises {E: Value -> Shared -> Prop} {it: Addr} {Q: Value -> Shared -> Prop} (hh: A.handled = none) (hT: s.TypeIs (.ref it) "list_iterator")
  (h: ∀ h' tk e,Heap.NewExc s.heap h' e "TypeError" -> E (.ref e) { s with heap:= h',toks:= tk }): wpAny (model prog w) A (call (.builtin "len") [.ref it]) Q E s:= by
 refine Calls.call_function_entry kind_len plain_len entry_len (args_len1 _) ?_
 show wpAny _ _ (callSpecial? (.ref it) (Str.ofString "__len__") >>= _) _ _ _
 refine wpAny_bind (wpAny_callSpecial?_none hT nolen ?_)
 refine wpAny_bind (wpAny_rule ?_)
 refine wpAny_bind (typeName_listiter hT ?_)
 exact wpAny_raiseErrorMade plainExc_TypeError hh h (by decide +kernel)
end
noncomputable def hide (L: Addr) (h: Heap): Heap:= h.update L fun o=> { o with data:= .freed }
theorem hide_self (L: Addr) (h: Heap): (hide L h).get? L = none:= by
 obtain ⟨objs,l⟩:= h
 unfold hide Heap.update Heap.get?
 simp only [Array.getElem?_modify,if_true]
 cases objs[L]? <;> rfl
theorem hide_other {L b: Addr} (h: Heap) (n: b ≠ L): (hide L h).get? b = h.get? b:= Heap.get?_update_other _ _ (Ne.symm n)
noncomputable def hideAll: List Addr -> Heap -> Heap
 | [],h=> h
 | L :: Ls,h=> hide L (hideAll Ls h)
theorem hideAll_in {b: Addr} (Ls: List Addr) {h: Heap} (m: b ∈ Ls): (hideAll Ls h).get? b = none:= by
 induction Ls with
 | nil=> cases m
 | cons L Ls ih=>
  by_cases e: b = L
  ·rw [e];exact hide_self _ _
  ·show (hide L (hideAll Ls h)).get? b = none
   rw [hide_other _ e]
   rcases List.mem_cons.mp m with q | q
   ·exact absurd q e
   ·exact ih q
theorem hideAll_out {b: Addr}: ∀ {Ls: List Addr} {h: Heap},b ∉ Ls -> (hideAll Ls h).get? b = h.get? b
 | [],h,_=> rfl
 | L :: Ls,h,m=> by
  show (hide L (hideAll Ls h)).get? b = _
  rw [hide_other _ (fun e=> m (by rw [e];exact .head _))];exact hideAll_out fun q=> m (.tail _ q)
theorem hideAll_some {b: Addr} {o: Obj} {Ls: List Addr} {h: Heap} (e: (hideAll Ls h).get? b = some o): h.get? b = some o /\ b ∉ Ls:= by
 by_cases m: b ∈ Ls
 ·rw [hideAll_in _ m] at e;cases e
 ·rw [hideAll_out m] at e;exact ⟨e,m⟩
theorem quiet_step {h₀: Heap} {σ: Hp} {h h': Heap} {Ls: List Addr} (hw: W h₀ σ h) (hL: ∀ L ∈ Ls,h₀.get? L = none /\ σ L = none /\ ∃ o,h.get? L = some o /\ IsD o) (k: (hideAll Ls h).StaysIn h')
  (d: ∀ b o,h.get? b = some o -> IsD o -> ∃ sl,h'.get? b = some { o with slots:= sl }): Step h₀ σ h σ h':= by
 have out: ∀ b o,b ∉ Ls -> h.get? b = some o -> h'.get? b = some o:= fun b o n e=> k b o (by rw [hideAll_out n];exact e)
 have nD: ∀ b o,h.get? b = some o -> ¬ IsD o -> b ∉ Ls:= fun b o e n m=> by
  obtain ⟨_,_,o',e',d'⟩:= hL b m
  rw [e] at e';cases e';exact n d'
 have tups: Tups h h':= fun a o e i=> out a o (nD a o e fun ⟨es,n,q⟩=> by
  rcases i with ⟨_,_,_,i⟩ | ⟨_,_,i⟩ | ⟨_,i⟩ | i <;> rw [q] at i <;> cases i) e
 refine ⟨⟨fun b o e=> out b o (fun m=> by rw [(hL b m).1] at e;cases e) (hw.stays b o e),fun a o e=> ?_,hw.above,hw.small⟩,fun a o _ _ n e=> out a o (nD a o e n) e,fun a o _ _ q e=> d a o e q,.refl _ _,tups,fun a o e=> ?_⟩
 ·have na: a ∉ Ls:= fun m=> by rw [(hL a m).2.1] at e;cases e
  exact (hw.holds a o e).move tups fun o'=> out a o' na
 ·by_cases q: IsD o
  ·obtain ⟨sl,e'⟩:= d a o e q
   exact ⟨_,e',fun _=> q⟩
  ·exact ⟨o,out a o (nD a o e q) e,id⟩
noncomputable def frameOfs (l: List Env): List Addr:= l.filterMap (·.frame)
theorem funFrames {h base: Heap}: ∀ {l: List Env},(∀ env ∈ l,env.scope.kind ≠ .module /\ ∃ L,env.frame = some L /\ base.get? L = none /\ ∃ o,h.get? L = some o /\ IsD o) -> h.FunFrames base l
 | [],_=> trivial
 | env :: l,q=> by
  obtain ⟨k,L,e1,e2,o,e3,es,n,e4⟩:= q env (.head _)
  exact ⟨k,⟨L,o,e1,e2,e3,fun vs d=> by rw [e4] at d;cases d⟩,funFrames fun e m=> q e (.tail _ m)⟩
theorem TypeError_boot: bootBuiltins ("TypeError": Str) = some (.type "TypeError"):= by decide +kernel
theorem AttributeError_boot: bootBuiltins ("AttributeError": Str) = some (.type "AttributeError"):= by decide +kernel
noncomputable def PS.tryLen (i j: Nat) (orelse: List PS): PS:= fun Φ R F σ=> look F j (fun v=> (∃ a xs,v = .ref a /\ listAt σ a = some xs /\ vSs Φ orelse R (F.set i (some (.int xs.length))) σ) \/ (∃ a l k,v = .ref a /\ σ a = some (.iter l k) /\ R .next F σ))
theorem s_tryLen (Φ: Fns) (R: Fl -> Frm -> Hp -> Prop) (F: Frm) (σ: Hp) (i j: Nat) (orelse: List PS): vS Φ (.tryLen i j orelse) R F σ = look F j (fun v=> (∃ a xs,v = .ref a /\ listAt σ a = some xs /\ vSs Φ orelse R (F.set i (some (.int xs.length))) σ) \/ (∃ a l k,v = .ref a /\ σ a = some (.iter l k) /\ R .next F σ)):= rfl
theorem CS.tryLen {c: Cfg} {x y: Str} {i j: Nat} {p1 p2 p3 p4 p5 p6 p7 p8 p9 p10 p11: Pos} {k: Nat} {orelse: List Stmt} {ps: List PS} (hx: c.names[i]? = some x) (nf: c.sc.lookup x ≠ some .free) (hy: c.names[j]? = some y) (hyd: (y == ("__debug__": Str)) = false) (hcd: (y == ("__classdict__": Str)) = false)
  (kl: c.sc.lookup ("len": Str) = some .globalImplicit) (kt: c.sc.lookup ("TypeError": Str) = some .globalImplicit) (ka: c.sc.lookup ("AttributeError": Str) = some .globalImplicit) (ho: CSs c orelse ps)
  (hsw: ∀ env,swapsWith (.Call (.Name "len" p3) [.Name y p4] [] p5) (some (.Name x p2)) p1.line env = pure false) :
  CS c (.Try [.Assign [.Name x p2] (.Call (.Name "len" p3) [.Name y p4] [] p5) p1] [.ExceptHandler (some (.Tuple [.Name "TypeError" p6,.Name "AttributeError" p7] k p8)) none [.Pass p9] p10] orelse [] p11) (.tryLen i j ps):= by
 intro prog w h₀ mg mb Φ n A s σ env own F Q X T v
 obtain ⟨u,hu,v⟩:= look_some v
 have hces: CEs c [.Name y p4] [.var j]:= .cons (CE.var hy hyd hcd) .nil (fun _=> rfl)
 rcases v with ⟨a,xs,rfl,el,v⟩ | ⟨a,l,k0,rfl,ei,v⟩
 ·refine wpAny_Try_except (wpAny_execs_cons (wpAny_Assign_Name (wpAny_mono (CE.call (f:= .len) rfl kl hces X (Q:= fun v σ'=> vSs Φ ps Q (F.set i (some v)) σ') ?_) (fun r s₂=> PV.on fun z σ₂ rz st2 m2 q2=> ?_) fun _ _ f=> f.elim) (hsw env)))
  ·show look F j (fun v=> opCall .len [v] _ σ)
   unfold look;rw [hu];exact call_len el v
  refine ((X.f.step st2).store st2.w hx nf rz fun s₃ m3 st3 f3=> ?_)
  refine wpAny_execs_nil (wpAny_mono (ho ⟨X.G,X.NM,X.R,st3.w,f3,X.fs.step ((Step.any st2).trans st3)⟩ T q2) (fun _ _ pv=> pv.back ((Step.any st2).trans st3) (m2.trans m3)) fun _ _ f=> f)
 ·obtain ⟨lf,hfr⟩:= T
  obtain ⟨l',hfr',hall⟩:= X.fs.go
  rw [hfr] at hfr'
  cases hfr'
  have hiter: s.TypeIs (.ref a) "list_iterator":= by
   have:= X.w.holds _ _ ei
   cases l with
   | none=> obtain ⟨o,h1,h2,_⟩:= this;exact ⟨o,h1,h2⟩
   | some l=> obtain ⟨o,h1,h2,_⟩:= this;exact ⟨o,h1,h2⟩
  refine wpAny_Try_except (wpAny_execs_cons (wpAny_Assign_Name (Call_Name rfl (load_glob X.G X.w X.f kl (by decide) (.inr ⟨X.NM.fr _ (by decide +kernel),(X.G.boot _ (by decide)).trans (BI.boot .len)⟩) ?_)) (hsw env)))
  refine callee_bi (f:= .len) hces (Calls.spliced_cons (wpAny_Name (X.f.load hy hu hcd fun va ra=> Calls.spliced_nil ?_) hyd))
  obtain rfl:= ra.iref
  refine len_raises X.R.handled hiter fun h1 tk e ne=> ?_
  obtain ⟨ob,t0,he,hcl,hd⟩:= ne.there
  have inLs: ∀ en ∈ env :: lf,∀ L,en.frame = some L -> L ∈ frameOfs (env :: lf):= fun en me L eL=> List.mem_filterMap.mpr ⟨en,me,eL⟩
  have hL: ∀ L ∈ frameOfs (env :: lf),h₀.get? L = none /\ σ L = none /\ ∃ o,s.heap.get? L = some o /\ IsD o:= fun L mL=> by
   obtain ⟨en,me,eL⟩:= List.mem_filterMap.mp mL
   obtain ⟨_,L',e1,e2,e3,e4⟩:= hall en me
   rw [eL] at e1;cases e1;exact ⟨e2,e3,e4⟩
  have hkb: (hideAll (frameOfs (env :: lf)) s.heap).StaysIn h1:= fun b o q=> ne.keeps b o (hideAll_some q).1
  have hen: (hideAll (frameOfs (env :: lf)) s.heap).get? e = none:= by
   cases q: (hideAll (frameOfs (env :: lf)) s.heap).get? e with
   | none=> rfl
   | some o=> have:= (hideAll_some q).1;rw [ne.new] at this;cases this
  have hl: h1.FunFrames (hideAll (frameOfs (env :: lf)) s.heap) (env :: lf):= funFrames fun en me=> by
   obtain ⟨k,L,e1,e2,e3,o,e4,e5⟩:= hall en me
   exact ⟨k,L,e1,hideAll_in _ (inLs en me L e1),o,ne.keeps _ _ e4,e5⟩
  obtain ⟨_,L,hf,_⟩:= hall env (.head _)
  generalize hbase: hideAll (frameOfs (env :: lf)) s.heap = base at *
  show wpAny _ A (noteFrame (.ref e) env) _ _ _
  unfold noteFrame
  simp only [hf]
  refine wpAny_bind (wpAny_field he hd (x:= .none) rfl ?_)
  rw [if_neg (by decide)]
  refine wpAny_entryW hfr hl hf he hkb hen hd (by simp) (a0:= t0) rfl fun h2 ⟨k1,k2,k3,k4⟩=> ?_
  refine wpAny_setFlight_noneW k1 k2 k3 fun h3 j1 j2 j3 j4=> ?_
  have notF: ∀ o,IsD o -> ∀ vs,o.data ≠ .fields vs:= fun o ⟨_,_,q⟩ vs q2=> by rw [q] at q2;cases q2
  have d3: ∀ b o,s.heap.get? b = some o -> IsD o -> ∃ sl,h3.get? b = some { o with slots:= sl }:= fun b o q dd=> by
   obtain ⟨sl,q2⟩:= k4 b o (ne.keeps b o q) (notF o dd)
   exact ⟨sl,j4 b _ q2 (notF o dd)⟩
  have st3: Step h₀ σ s.heap σ h3:= quiet_step X.w hL (by rw [hbase];exact j1) d3
  have oe3:= j3
  obtain ⟨oe,vs,T0,oT,ts,g1,⟨g2,g2'⟩,g3,g4,g5,g6,g7,g8,g9⟩:= oe3
  have fr3:= X.f.step st3
  have glob: ∀ {s': Shared} {σ': Hp} {x': Str} {pp: Pos} {T': String} {A': Around} {Q': Value -> Shared -> Prop} {E': Value -> Shared -> Prop},W h₀ σ' s'.heap -> FrOk c env own F h₀ σ' s'.heap -> c.sc.lookup x' = some .globalImplicit -> (x' == ("__debug__": Str)) = false -> x' ∈ freeNames -> x' ≠ "__name__" -> bootBuiltins x' = some (.type T') -> Q' (.type T') s' -> wpAny (model prog w) A' (eval (.Name x' pp) env) Q' E' s':=
   fun hw hf hk hdb hm hnn hb hq=> load_glob X.G hw hf hk hdb (.inr ⟨X.NM.fr _ hm,(X.G.boot _ hnn).trans hb⟩) hq
  refine wpAny_handleBy_tup2 (X:= "TypeError") (T1:= "TypeError") (T2:= "AttributeError") (b1:= true) (b2:= false) (by rw [isSubtype_type];kernel_rfl) (by rw [isSubtype_type];kernel_rfl) (by rw [isSubtype_type];kernel_rfl) (by rw [isSubtype_type];kernel_rfl) (by rw [isSubtype_type];kernel_rfl) (by rw [isSubtype_type];kernel_rfl) ?_
  refine wpAny_Tuple_spliced (Calls.spliced_cons (glob (s':= { s with heap:= h3,toks:= tk }) st3.w fr3 kt (by decide) (by decide +kernel) (by decide) TypeError_boot (Calls.spliced_cons (glob (s':= { s with heap:= h3,toks:= tk }) st3.w fr3 ka (by decide) (by decide +kernel) (by decide) AttributeError_boot (Calls.spliced_nil ?_)))))
  refine ⟨by decide,_,rfl,⟨_,Heap.get?_push_size _ rfl,rfl,_,rfl⟩,⟨_,Heap.get?_push_of_some _ g1,by rw [g2,hcl]⟩,?_⟩
  rw [if_pos (show (true || false) = true from rfl)]
  generalize hh4: h3.push { cls:= .type "tuple",data:= .seq [Value.type "TypeError",.type "AttributeError"].toArray } = h4
  have p4: ∀ b o,h3.get? b = some o -> h4.get? b = some o:= fun b o q=> by rw [<- hh4];exact Heap.get?_push_of_some _ q
  refine wpAny_setFlight_noneW (base:= base) (l:= env :: lf) (e:= e) (cls:= ob.cls) (a0:= t0) (fl:= .none) (fun b o q=> p4 b o (j1 b o q)) (j2.of_keeps fun b o q _=> ⟨o,p4 b o q,rfl⟩) ⟨oe,vs,T0,oT,ts,p4 _ _ g1,⟨g2,g2'⟩,g3,g4,g5,g6,p4 _ _ g7,g8,g9⟩ fun h5 i1 i2 i3 i4=> ?_
  have st5: Step h₀ σ s.heap σ h5:= quiet_step X.w hL (by rw [hbase];exact i1) fun b o q dd=> by
   obtain ⟨sl,q2⟩:= d3 b o q dd
   exact ⟨sl,i4 b _ (p4 b _ q2) (notF o dd)⟩
  have all:= st5
  exact wpAny_execs_cons (wpAny_Pass (wpAny_execs_nil ⟨.next,F,σ,trivial,⟨Step.any all,⟨rfl,rfl⟩⟩,X.f.step all,v⟩))
theorem mro_object: mroOf (.type "object") = pure [.type "object"]:= by kernel_rfl
theorem lookup_object_new: typeLookup (.type "object") "__new__" = pure (some (.builtin "object.__new__")):= by rw [typeLookup_type,builtinLookup_eq_fast];kernel_rfl
theorem called_object: TypeCalled "object" "object.__new__" "object.__init__":=
 ⟨by decide +kernel,by decide +kernel,⟨_,_,mro_object⟩,madeBy_type mro_object lookup_object_new (by decide +kernel),by decide +kernel,by rw [isSubtype_type];kernel_rfl,PySem.F.slot_object_init⟩
theorem typeCall_object_0: checkTypeCall "object" ⟨[],[]⟩ = pure ():= by kernel_rfl
theorem newCall_object_1: checkBuiltinCall "object.__new__" ⟨[.type "object"],[]⟩ = pure ():= by kernel_rfl
noncomputable def objO: Obj:= { cls:= .type "object",dict:= none,data:= .plain }
theorem meets_object_new: Meets (Builtin.«object.__new__» ⟨[.type "object"],[]⟩) (fun _ R s=> R (.ok (.ret (.ref s.heap.objs.size))) { s with heap:= s.heap.push objO }):=
 .of_wp fun prog w A R s h=> by
  obtain ⟨hp,g,d,tk,os⟩:= s
  have hsub: isSubtype (.type "object") (.type "object") = pure true:= by rw [isSubtype_type];kernel_rfl
  have hmade:= called_object.made
  have hst: Bind.staticBase (.type "object") = pure (.type "object"):= by first | rfl | kernel_rfl
  have hmh: Bind.madeHere "object.__new__" (.type "object") = pure ():= by
   unfold Bind.madeHere
   rw [hst]
   simp only [pure_bind,hmade]
   rfl
  wp_walk using wpAny_of_eq hmh
  exact ⟨_,rfl,h⟩
theorem object_init_nil {v: Value}: Meets (Builtin.«object.__init__» ⟨[v],[]⟩) (fun _ R s=> R (.ok (.ret .none)) s):= Meets.of_wp fun prog w A R s hs=> wpAny_pure ⟨_,rfl,hs⟩
section
variable {σ: Hp} {Q: V -> Hp -> Prop}
theorem call_object (q: ∀ a,σ a = none -> Q (.obj a) σ): opCall .object [] Q σ:= by
 refine CallS.mk ?_
 intro prog w A s h₀ mg mb n vargs G R ra hw
 obtain rfl:= ra.inil
 refine callType_meets called_object typeCall_object_0 newCall_object_1 PySem.F.objNew.entry PySem.F.entry_object_init meets_object_new (Q₁:= fun obj s₁=> obj = .ref s.heap.objs.size /\ s₁ = { s with heap:= s.heap.push objO }) ⟨rfl,rfl⟩ ?_
 rintro obj s₁ ⟨rfl,rfl⟩
 have st: Step h₀ σ s.heap σ (s.heap.push objO):= hw.extend fun b o e=> Heap.get?_push_of_some _ e
 exact ⟨⟨_,Heap.get?_push_size _ rfl,rfl⟩,by unfold argsOk;kernel_rfl,_,object_init_nil,rfl,_,σ,.obj (Heap.get?_push_size _ rfl) rfl,⟨st,rfl,rfl⟩,q _ (hw.fresh (get_push_none _))⟩
theorem is_int_obj {i: Int} {a: Addr} (q: Q (.bool false) σ): opCmp .Is (.int i) (.obj a) Q σ:= by
 refine CmpS.mk ?_
 intro prog w A s h₀ n va vb R ra rb hw
 obtain ⟨t,rfl⟩:= ra.iint;obtain ⟨o,rfl,_⟩:= rb.iobj
 exact wpAny_pure (PV.same' hw (.bool false) q)
theorem is_func_none {fd: FuncData} (q: Q (.bool false) σ): opCmp .Is (.func fd) .none Q σ:= by
 refine CmpS.mk ?_
 intro prog w A s h₀ n va vb R ra rb hw
 obtain rfl:= rb.inone
 obtain ⟨fa,o,rfl,_⟩:= ra.ifunc
 exact is_ref_none (PV.same' hw (.bool _) q)
end
section
variable {prog: Program} {w: World} {A: Around} {E: Value -> Shared -> Prop} {s: Shared}
theorem nextOf_range_item {it: Addr} {x left step: Int} {Q: Value -> Shared -> Prop} (hit: IsRangeIter s.heap it x left step) (hleft: 0 < left)
  (hQ: ∀ h',IsRangeIter h' it (x + step) (left - 1) step -> Heap.SameBut it s.heap h' -> Q (.int x s.toks) { s with heap:= h',toks:= s.toks + 1 }) :
  wpAny (model prog w) A (Builtin.SmallTypes.nextOf (.ref it)) Q E s:= by
 have hT: s.TypeIs (.ref it) "range_iterator":= ⟨_,hit,rfl⟩
 unfold Builtin.SmallTypes.nextOf
 refine wpAny_bind (wpAny_callSpecial?_slot (name:= Str.ofString "__next__") hT PySem.F.slot_range_iterator_next
  (call_meets PySem.F.slot_range_iterator_next hT PySem.F.entry_range_iterator_next (PySem.F.args_range_iterator_next_1 _) (AutoRange.range_iterator___next___range_iterator_1 it x left step (by exact Int.not_le.mpr hleft)) ⟨hit,?_⟩))
 exact wpAny_pure (hQ _ (Heap.get?_update_self _ (Heap.get?_update_self _ hit rfl) rfl) ((Heap.SameBut.update ..).trans (Heap.SameBut.update ..)))
theorem nextOf_range_end {it: Addr} {x left step: Int} {Q: Value -> Shared -> Prop} (hh: A.handled = none) (hit: IsRangeIter s.heap it x left step) (hleft: left <= 0)
  (hE: ∀ h' e,(∀ b o,s.heap.get? b = some o -> h'.get? b = some o) -> (∃ o,h'.get? e = some o /\ o.cls = .type "StopIteration") -> E (.ref e) { s with heap:= h' }): wpAny (model prog w) A (Builtin.SmallTypes.nextOf (.ref it)) Q E s:= by
 have hT: s.TypeIs (.ref it) "range_iterator":= ⟨_,hit,rfl⟩
 unfold Builtin.SmallTypes.nextOf
 refine wpAny_bind (wpAny_callSpecial?_slot (name:= Str.ofString "__next__") hT PySem.F.slot_range_iterator_next
  (wpAny_call_entry PySem.F.slot_range_iterator_next hT PySem.F.entry_range_iterator_next ?_ (PySem.F.args_range_iterator_next_1 _)))
 show wpAny _ _ (field (.ref it) 0 >>= _) _ _ s
 refine wpAny_bind (wpAny_field hit rfl (x:= rawInt x) rfl ?_)
 show wpAny _ _ (field (.ref it) 1 >>= _) _ _ s
 refine wpAny_bind (wpAny_field hit rfl (x:= rawInt left) rfl ?_)
 show wpAny _ _ (field (.ref it) 2 >>= _) _ _ s
 refine wpAny_bind (wpAny_field hit rfl (x:= rawInt step) rfl ?_)
 show wpAny _ _ (if left <= 0 then _ else _) _ _ s
 rw [if_pos hleft]
 refine wpAny_bind (wpAny_rule (wpAny_bind ?_))
 show wpAny _ _ (newExc (.type "StopIteration") [] >>= _) _ _ _
 refine wpAny_bind ?_
 simp only [newExc,newTuple]
 refine wpAny_bind (wpAny_newObj_type ?_ (by size_fits))
 refine wpAny_bind (m:= firstArgMember _ _) (wpAny_of_eq (a:= Value.none) (by first | rfl | (simp only [firstArgMember];rfl)) ?_)
 refine wpAny_newObj_type ?_ (by size_fits)
 simp only [raiseNew]
 refine wpAny_bind (wpAny_handled ?_)
 first | rw [show A.in1.handled = none from hh] | rw [hh]
 refine wpAny_bind (wpAny_pure (wpAny_throw ?_))
 exact hE _ _ (fun b o e=> Heap.get?_push_of_some _ (Heap.get?_push_of_some _ e)) ⟨_,Heap.get?_push_size _ rfl,rfl⟩
theorem nextOf_list_end' {it l: Addr} {i: Nat} {items: Array Value} {Q: Value -> Shared -> Prop} (hh: A.handled = none)
  (hit: s.heap.IsListIter it l i) (hl: s.heap.IsList l items) (hx: items[i]? = none)
  (hE: ∀ h' e oi,Heap.ExtBut it s.heap h' -> h'.get? it = some oi -> oi.cls = .type "list_iterator" -> oi.data = .fields #[.none,.int i 0] -> (∃ o,h'.get? e = some o /\ o.cls = .type "StopIteration") -> E (.ref e) { s with heap:= h' }) :
  wpAny (model prog w) A (Builtin.SmallTypes.nextOf (.ref it)) Q E s:= by
 obtain ⟨o,ho,hc,hd⟩:= id hit
 obtain ⟨ol,hol,_,nl,hdl⟩:= hl
 unfold Builtin.SmallTypes.nextOf
 refine wpAny_bind (wpAny_callSpecial?_slot (name:= Str.ofString "__next__") hit.typeIs slot_listiter_next
  (wpAny_call_entry slot_listiter_next hit.typeIs entry_listiter_next ?_ (args_listiter_next _)))
 show wpAny _ _ (field (.ref it) 0 >>= _) _ _ s
 refine wpAny_bind (wpAny_field ho hd (x:= .ref l) rfl ?_)
 show wpAny _ _ (if (Value.ref l == Value.none) = true then _ else _) _ _ s
 rw [if_neg (show ¬ ((Value.ref l == Value.none) = true) from Bool.false_ne_true)]
 show wpAny _ _ (field (.ref it) 1 >>= _) _ _ s
 refine wpAny_bind (wpAny_field ho hd (x:= .int i 0) rfl ?_)
 show wpAny _ _ (seqItems? (.ref l) >>= _) _ _ s
 refine wpAny_bind (wpAny_seqItems hol hdl ?_)
 simp only [Int.toNat_natCast,hx]
 refine wpAny_bind (wpAny_rule (wpAny_bind (wpAny_setField ho hd (by simp) ?_)))
 show wpAny _ _ (newExc (.type "StopIteration") [] >>= _) _ _ _
 refine wpAny_bind ?_
 simp only [newExc,newTuple]
 refine wpAny_bind (wpAny_newObj_type ?_ (by size_fits))
 refine wpAny_bind (m:= firstArgMember _ _) (wpAny_of_eq (a:= Value.none) (by first | rfl | (simp only [firstArgMember];rfl)) ?_)
 refine wpAny_newObj_type ?_ (by size_fits)
 simp only [raiseNew]
 refine wpAny_bind (wpAny_handled ?_)
 first | rw [show A.in1.handled = none from hh] | rw [hh]
 refine wpAny_bind (wpAny_pure (wpAny_throw ?_))
 have hd':= Obj.data_mapFields hd (·.setIfInBounds 0 Value.none)
 exact hE _ _ _ (((Heap.SameBut.update ..).extBut.push _).push _) (Heap.get?_push_of_some _ (Heap.get?_push_of_some _ (Heap.get?_update_self _ ho (Obj.isFreed_of_fields hd')))) ((Obj.cls_mapFields ..).trans hc) (by rw [hd'];rfl) ⟨_,Heap.get?_push_size _ rfl,rfl⟩
structure ZipAt (h: Heap) (z TI TO i1 i2: Addr): Prop where
 z: IsZip h z TI TO .none
 ti: IsPair h TI (.ref i1) (.ref i2)
 to: ∃ a b,IsPair h TO a b
structure ZApart (z TI TO i1 i2: Addr): Prop where
 TIz: TI ≠ z
 TOz: TO ≠ z
 i1z: i1 ≠ z
 i2z: i2 ≠ z
 TITO: TI ≠ TO
 TIi1: TI ≠ i1
 TIi2: TI ≠ i2
 TOi1: TO ≠ i1
 TOi2: TO ≠ i2
 i12: i1 ≠ i2
theorem zip_item {z TI TO i1 i2 l: Addr} {x left: Int} {k: Nat} {ys: Array Value} {y: Value} {Q: Option Value -> Shared -> Prop} (D: ZApart z TI TO i1 i2) (Z: ZipAt s.heap z TI TO i1 i2)
  (h1: IsRangeIter s.heap i1 x left 1) (hleft: 0 < left) (h2: s.heap.IsListIter i2 l k) (hl: s.heap.IsList l ys) (hlz: l ≠ z /\ l ≠ TO /\ l ≠ i1) (hy: ys[k]? = some y)
  (hQ: ∀ h' tk t,IsZip h' z TI TO (rawInt s.heap.objs.size) -> IsPair h' TI (.ref i1) (.ref i2) -> IsPair h' TO (.int x t) y -> IsRangeIter h' i1 (x + 1) (left - 1) 1 -> h'.IsListIter i2 l (k + 1) -> IsPair h' s.heap.objs.size (.int x t) y ->
   (∀ c o,c ≠ z -> c ≠ TO -> c ≠ i1 -> c ≠ i2 -> s.heap.get? c = some o -> h'.get? c = some o) -> Q (some (.ref s.heap.objs.size)) { s with heap:= h',toks:= tk }) :
  wpAny (model prog w) A (pyNext (.ref z)) Q E s:= by
 obtain ⟨hz,hTI,a,b,hTO⟩:= Z
 have hT: s.TypeIs (.ref z) "zip":= ⟨_,hz,rfl⟩
 unfold pyNext
 refine wpAny_bind (wpAny_attempt (wpAny_callSpecial?_slot (name:= Str.ofString "__next__") hT PySem.F.slot_zip_next
  (wpAny_call_entry PySem.F.slot_zip_next hT PySem.F.entry_zip_next ?_ (PySem.F.args_zip_next_1 _))))
 show wpAny _ _ (field (.ref z) 2 >>= _) _ _ _
 refine wpAny_bind (wpAny_field hz rfl (x:= .bool false) rfl ?_)
 show wpAny _ _ (field (.ref z) 3 >>= _) _ _ _
 refine wpAny_bind (wpAny_field hz rfl (x:= .ref TI) rfl ?_)
 refine wpAny_bind (wpAny_seqItems hTI rfl ?_)
 show wpAny _ _ (Builtin.SmallTypes.ownedTupleIsFree (.ref z) >>= _) _ _ _
 refine wpAny_bind ?_
 unfold Builtin.SmallTypes.ownedTupleIsFree
 refine wpAny_bind (wpAny_field hz rfl (x:= .none) rfl (wpAny_pure ?_))
 simp only [if_true]
 refine wpAny_bind (wpAny_rule ?_)
 refine wpAny_bind (wpAny_field hz rfl (x:= .ref TO) rfl ?_)
 refine wpAny_bind (wpAny_setField_rec hz (by simp) fun h₁ hz₁ hs₁=> ?_)
 replace hz₁: IsZip h₁ z TI TO .ellipsis:= hz₁
 refine wpAny_bind ?_
 simp only [List.zipIdx_cons,List.zipIdx_nil,List.forIn_cons,List.forIn_nil]
 refine wpAny_bind (wpAny_bind (wpAny_onRaise ?_))
 show wpAny _ _ (Builtin.SmallTypes.nextOf (.ref i1) >>= _) _ _ _
 refine wpAny_bind (nextOf_range_item (s:= { s with heap:= h₁ }) (hs₁.extBut _ _ D.i1z h1) hleft fun h₂ h1₂ hs₂=> wpAny_pure ?_)
 have hTO₂: IsPair h₂ TO a b:= hs₂.extBut _ _ D.TOi1 (hs₁.extBut _ _ D.TOz hTO)
 refine wpAny_bind (wpAny_seqItems hTO₂ rfl ?_)
 refine wpAny_bind (wpAny_updateSeq_pair hTO₂ fun h₃ hTO₃ hs₃=> ?_)
 replace hTO₃: IsPair h₃ TO (.int x s.toks) b:= hTO₃
 refine wpAny_bind (wpAny_letGo (wpAny_pure ?_))
 refine wpAny_bind (wpAny_bind (wpAny_onRaise ?_))
 show wpAny _ _ (Builtin.SmallTypes.nextOf (.ref i2) >>= _) _ _ _
 refine wpAny_bind (wpAny_nextOf_list_item (((h2.extBut hs₁.extBut D.i2z).extBut hs₂.extBut D.i12.symm).extBut hs₃.extBut D.TOi2.symm)
  (((hl.extBut hs₁.extBut hlz.1).extBut hs₂.extBut hlz.2.2).extBut hs₃.extBut hlz.2.1) hy fun h₄ h2₄ hs₄=> wpAny_pure ?_)
 have hTO₄: IsPair h₄ TO (.int x s.toks) b:= hs₄.extBut _ _ D.TOi2 hTO₃
 refine wpAny_bind (wpAny_seqItems hTO₄ rfl ?_)
 refine wpAny_bind (wpAny_updateSeq_pair hTO₄ fun h₅ hTO₅ hs₅=> ?_)
 replace hTO₅: IsPair h₅ TO (.int x s.toks) y:= hTO₅
 refine wpAny_bind (wpAny_letGo (wpAny_pure (wpAny_pure ?_)))
 refine wpAny_bind (wpAny_seqItems hTO₅ rfl ?_)
 refine wpAny_bind (wpAny_newTuple ?_)
 have hsz: h₅.objs.size = s.heap.objs.size:= by rw [hs₅.1,hs₄.1,hs₃.1,hs₂.1,hs₁.1]
 have hz₅: IsZip h₅ z TI TO .ellipsis:= hs₅.extBut _ _ D.TOz.symm (hs₄.extBut _ _ D.i2z.symm (hs₃.extBut _ _ D.TOz.symm (hs₂.extBut _ _ D.i1z.symm hz₁)))
 have hk₅: ∀ c o,c ≠ z -> c ≠ TO -> c ≠ i1 -> c ≠ i2 -> s.heap.get? c = some o -> h₅.get? c = some o:= fun c o c1 c2 c3 c4 e=>
  hs₅.extBut _ _ c2 (hs₄.extBut _ _ c4 (hs₃.extBut _ _ c2 (hs₂.extBut _ _ c3 (hs₁.extBut _ _ c1 e))))
 have h1₅: IsRangeIter h₅ i1 (x + 1) (left - 1) 1:= hs₅.extBut _ _ D.TOi1.symm (hs₄.extBut _ _ D.i12 (hs₃.extBut _ _ D.TOi1.symm h1₂))
 have h2₅: h₅.IsListIter i2 l (k + 1):= h2₄.extBut hs₅.extBut D.TOi2.symm
 have hzlt: z < h₅.objs.size:= Heap.lt_size hz₅
 show wpAny _ _ (Builtin.SmallTypes.ownedTupleHandOut (.ref z) (.ref h₅.objs.size) >>= _) _ _ _
 refine wpAny_bind ?_
 unfold Builtin.SmallTypes.ownedTupleHandOut
 have hz₆: IsZip (h₅.push { cls:= .type "tuple",data:= .seq #[.int x s.toks,y] }) z TI TO .ellipsis:= Heap.get?_push_of_some _ hz₅
 refine wpAny_bind (wpAny_setField_rec hz₆ (by simp) fun h₇ hz₇ hs₇=> ?_)
 replace hz₇: IsZip h₇ z TI TO (rawInt h₅.objs.size):= hz₇
 refine wpAny_setField_rec hz₇ (by simp) fun h₈ hz₈ hs₈=> ?_
 replace hz₈: IsZip h₈ z TI TO (rawInt h₅.objs.size):= hz₈
 have up: ∀ c o,c ≠ z -> h₅.get? c = some o -> h₈.get? c = some o:= fun c o c1 e=> hs₈.extBut _ _ c1 (hs₇.extBut _ _ c1 (Heap.get?_push_of_some _ e))
 have hT₈: IsPair h₈ h₅.objs.size (.int x s.toks) y:= hs₈.extBut _ _ (Nat.ne_of_gt hzlt) (hs₇.extBut _ _ (Nat.ne_of_gt hzlt) (Heap.get?_push_size _ rfl))
 rw [hsz] at hz₈ hT₈
 refine wpAny_pure ⟨_,rfl,?_⟩
 show wpAny _ _ (pure (some (Value.ref h₅.objs.size))) _ _ _
 rw [hsz]
 exact wpAny_pure (hQ h₈ _ _ hz₈ (up _ _ D.TIz (hk₅ _ _ D.TIz D.TITO D.TIi1 D.TIi2 hTI)) (up _ _ D.TOz hTO₅) (up _ _ D.i1z h1₅) (h2₅.at fun o e=> up _ o D.i2z e) hT₈ fun c o c1 c2 c3 c4 e=> up c o c1 (hk₅ c o c1 c2 c3 c4 e))
theorem zip_end1 {z TI TO i1 i2: Addr} {x left: Int} {Q: Option Value -> Shared -> Prop} (hh: A.handled = none) (D: ZApart z TI TO i1 i2) (Z: ZipAt s.heap z TI TO i1 i2)
  (h1: IsRangeIter s.heap i1 x left 1) (hleft: left <= 0) (hQ: ∀ h',(∀ c o,c ≠ z -> s.heap.get? c = some o -> h'.get? c = some o) -> Q none { s with heap:= h' }) :
  wpAny (model prog w) A (pyNext (.ref z)) Q E s:= by
 obtain ⟨hz,hTI,a,b,hTO⟩:= Z
 have hT: s.TypeIs (.ref z) "zip":= ⟨_,hz,rfl⟩
 unfold pyNext
 refine wpAny_bind (wpAny_attempt (wpAny_callSpecial?_slot (name:= Str.ofString "__next__") hT PySem.F.slot_zip_next
  (wpAny_call_entry PySem.F.slot_zip_next hT PySem.F.entry_zip_next ?_ (PySem.F.args_zip_next_1 _))))
 show wpAny _ _ (field (.ref z) 2 >>= _) _ _ _
 refine wpAny_bind (wpAny_field hz rfl (x:= .bool false) rfl ?_)
 show wpAny _ _ (field (.ref z) 3 >>= _) _ _ _
 refine wpAny_bind (wpAny_field hz rfl (x:= .ref TI) rfl ?_)
 refine wpAny_bind (wpAny_seqItems hTI rfl ?_)
 show wpAny _ _ (Builtin.SmallTypes.ownedTupleIsFree (.ref z) >>= _) _ _ _
 refine wpAny_bind ?_
 unfold Builtin.SmallTypes.ownedTupleIsFree
 refine wpAny_bind (wpAny_field hz rfl (x:= .none) rfl (wpAny_pure ?_))
 simp only [if_true]
 refine wpAny_bind (wpAny_rule ?_)
 refine wpAny_bind (wpAny_field hz rfl (x:= .ref TO) rfl ?_)
 refine wpAny_bind (wpAny_setField_rec hz (by simp) fun h₁ hz₁ hs₁=> ?_)
 replace hz₁: IsZip h₁ z TI TO .ellipsis:= hz₁
 refine wpAny_bind ?_
 simp only [List.zipIdx_cons,List.zipIdx_nil,List.forIn_cons,List.forIn_nil]
 refine wpAny_bind (wpAny_bind (wpAny_onRaise ?_))
 show wpAny _ _ (Builtin.SmallTypes.nextOf (.ref i1) >>= _) _ _ _
 refine wpAny_bind (nextOf_range_end (s:= { s with heap:= h₁ }) hh (hs₁.extBut _ _ D.i1z h1) hleft fun h₂ e k₂ he=> ?_)
 obtain ⟨oe,hoe,hce⟩:= he
 have hz₂: IsZip h₂ z TI TO .ellipsis:= k₂ _ _ hz₁
 have hez: e ≠ z:= fun x=> by subst x;rw [hz₂] at hoe;cases hoe;simp at hce
 refine wpAny_setField_rec hz₂ (by simp) fun h₃ _ hs₃=> ?_
 refine wpAny_bind (wpAny_isInstance (T:= "StopIteration") (b:= true) ⟨oe,hs₃.extBut _ _ hez hoe,hce⟩ isSubtype_stop ?_)
 exact wpAny_pure (hQ _ fun c o c1 x=> hs₃.extBut _ _ c1 (k₂ _ _ (hs₁.extBut _ _ c1 x)))
theorem zip_end2 {z TI TO i1 i2 l: Addr} {x left: Int} {k: Nat} {ys: Array Value} {Q: Option Value -> Shared -> Prop} (hh: A.handled = none) (D: ZApart z TI TO i1 i2) (Z: ZipAt s.heap z TI TO i1 i2)
  (h1: IsRangeIter s.heap i1 x left 1) (hleft: 0 < left) (h2: s.heap.IsListIter i2 l k) (hl: s.heap.IsList l ys) (hlz: l ≠ z /\ l ≠ TO /\ l ≠ i1) (hy: ys[k]? = none)
  (hQ: ∀ h' tk oi,h'.get? i2 = some oi -> oi.cls = .type "list_iterator" -> oi.data = .fields #[.none,.int k 0] -> (∀ c o,c ≠ z -> c ≠ TO -> c ≠ i1 -> c ≠ i2 -> s.heap.get? c = some o -> h'.get? c = some o) -> Q none { s with heap:= h',toks:= tk }) :
  wpAny (model prog w) A (pyNext (.ref z)) Q E s:= by
 obtain ⟨hz,hTI,a,b,hTO⟩:= Z
 have hT: s.TypeIs (.ref z) "zip":= ⟨_,hz,rfl⟩
 unfold pyNext
 refine wpAny_bind (wpAny_attempt (wpAny_callSpecial?_slot (name:= Str.ofString "__next__") hT PySem.F.slot_zip_next
  (wpAny_call_entry PySem.F.slot_zip_next hT PySem.F.entry_zip_next ?_ (PySem.F.args_zip_next_1 _))))
 show wpAny _ _ (field (.ref z) 2 >>= _) _ _ _
 refine wpAny_bind (wpAny_field hz rfl (x:= .bool false) rfl ?_)
 show wpAny _ _ (field (.ref z) 3 >>= _) _ _ _
 refine wpAny_bind (wpAny_field hz rfl (x:= .ref TI) rfl ?_)
 refine wpAny_bind (wpAny_seqItems hTI rfl ?_)
 show wpAny _ _ (Builtin.SmallTypes.ownedTupleIsFree (.ref z) >>= _) _ _ _
 refine wpAny_bind ?_
 unfold Builtin.SmallTypes.ownedTupleIsFree
 refine wpAny_bind (wpAny_field hz rfl (x:= .none) rfl (wpAny_pure ?_))
 simp only [if_true]
 refine wpAny_bind (wpAny_rule ?_)
 refine wpAny_bind (wpAny_field hz rfl (x:= .ref TO) rfl ?_)
 refine wpAny_bind (wpAny_setField_rec hz (by simp) fun h₁ hz₁ hs₁=> ?_)
 replace hz₁: IsZip h₁ z TI TO .ellipsis:= hz₁
 refine wpAny_bind ?_
 simp only [List.zipIdx_cons,List.zipIdx_nil,List.forIn_cons,List.forIn_nil]
 refine wpAny_bind (wpAny_bind (wpAny_onRaise ?_))
 show wpAny _ _ (Builtin.SmallTypes.nextOf (.ref i1) >>= _) _ _ _
 refine wpAny_bind (nextOf_range_item (s:= { s with heap:= h₁ }) (hs₁.extBut _ _ D.i1z h1) hleft fun h₂ h1₂ hs₂=> wpAny_pure ?_)
 have hTO₂: IsPair h₂ TO a b:= hs₂.extBut _ _ D.TOi1 (hs₁.extBut _ _ D.TOz hTO)
 refine wpAny_bind (wpAny_seqItems hTO₂ rfl ?_)
 refine wpAny_bind (wpAny_updateSeq_pair hTO₂ fun h₃ hTO₃ hs₃=> ?_)
 refine wpAny_bind (wpAny_letGo (wpAny_pure ?_))
 refine wpAny_bind (wpAny_bind (wpAny_onRaise ?_))
 show wpAny _ _ (Builtin.SmallTypes.nextOf (.ref i2) >>= _) _ _ _
 refine wpAny_bind (nextOf_list_end' hh (((h2.extBut hs₁.extBut D.i2z).extBut hs₂.extBut D.i12.symm).extBut hs₃.extBut D.TOi2.symm)
  (((hl.extBut hs₁.extBut hlz.1).extBut hs₂.extBut hlz.2.2).extBut hs₃.extBut hlz.2.1) hy fun h₄ e oi hs₄ gi ci di he=> ?_)
 obtain ⟨oe,hoe,hce⟩:= he
 have hz₄: IsZip h₄ z TI TO .ellipsis:= hs₄ _ _ D.i2z.symm (hs₃.extBut _ _ D.TOz.symm (hs₂.extBut _ _ D.i1z.symm hz₁))
 have hez: e ≠ z:= fun x=> by subst x;rw [hz₄] at hoe;cases hoe;simp at hce
 refine wpAny_setField_rec hz₄ (by simp) fun h₅ _ hs₅=> ?_
 refine wpAny_bind (wpAny_isInstance (T:= "StopIteration") (b:= true) ⟨oe,hs₅.extBut _ _ hez hoe,hce⟩ isSubtype_stop ?_)
 exact wpAny_pure (hQ _ _ oi (hs₅.extBut _ _ D.i2z gi) ci di fun c o c1 c2 c3 c4 x=> hs₅.extBut _ _ c1 (hs₄ _ _ c4 (hs₃.extBut _ _ c2 (hs₂.extBut _ _ c3 (hs₁.extBut _ _ c1 x)))))
abbrev zH1 (h: Heap) (x n c: Int): Heap:= h.push { cls:= .type "range_iterator",data:= .fields #[rawInt x,rawInt n,rawInt c] }
theorem zip_new (r it: Addr) (b: Int) (t u v: Tok) (hb: Builtin.Range.small 0 b 1 = true) :
  Meets (Builtin.«zip.__new__» ⟨[.type "zip",.ref r,.ref it],[]⟩) (fun _ R s=> IsRange s.heap r 0 b 1 t u v /\ (∃ o,s.heap.get? it = some o /\ o.cls = .type "list_iterator") /\
   ∀ h',h' = (((zH1 s.heap 0 (Builtin.Range.rangeSize 0 b 1) 1).push { cls:= .type "tuple",data:= .seq #[.ref s.heap.objs.size,.ref it] }).push { cls:= .type "tuple",data:= .seq #[.none,.none] }).push { cls:= .type "zip",data:= .fields #[.none,.bool false,.bool false,.ref (s.heap.objs.size + 1),.ref (s.heap.objs.size + 2)] } ->
    R (.ok (.ret (.ref (s.heap.objs.size + 3)))) { s with heap:= h' }):=
 .of_wp fun prog w A R s h=> by
  obtain ⟨hp,g,d,tk,os⟩:= s;obtain ⟨hr,⟨o,ho,hc⟩,h⟩:= h
  have hsub:= sub_zip
  have hR: IsRange (Shared.heap ⟨hp,g,d,tk,os⟩) r 0 b 1 t u v:= hr
  have hT: (⟨zH1 hp 0 (Builtin.Range.rangeSize 0 b 1) 1,g,d,tk,os⟩: Shared).TypeIs (.ref it) "list_iterator":= ⟨o,Heap.get?_push_of_some _ ho,hc⟩
  have hself: ∀ {A: Around} {Q: Value -> Shared -> Prop} {E: Value -> Shared -> Prop},Q (.ref it) ⟨zH1 hp 0 (Builtin.Range.rangeSize 0 b 1) 1,g,d,tk,os⟩ -> wpAny (model prog w) A (pyIter (.ref it)) Q E ⟨zH1 hp 0 (Builtin.Range.rangeSize 0 b 1) 1,g,d,tk,os⟩:= fun q=> by
   refine wpAny_pyIter_slot hT slot_listiter_iter (wpAny_call_entry slot_listiter_iter hT entry_listiter_iter ?_ (args_listiter_iter _))
   show wpAny _ _ (ret (.ref it)) _ _ _
   exact wpAny_pure ⟨_,rfl,"list_iterator",_,hT,slot_listiter_next.lookup,q⟩
  wp_walk using wpAny_pyIter_range hR hb,hself
  refine ⟨_,rfl,?_⟩
  have z1: (zH1 hp 0 (Builtin.Range.rangeSize 0 b 1) 1).objs.size = hp.objs.size + 1:= Heap.size_push ..
  have:= h _ rfl
  simp only [Heap.size_push] at this ⊢
  exact this
end
noncomputable def V.flat: V -> Prop
 | .none=> True | .bool _=> True | .int _=> True | .str _=> True | .ref _=> True | .val _=> True | _=> False
theorem flat_rep {h h': Heap} {v: Value} {x: V} (f: x.flat) (r: Rep h v x): Rep h' v x:= by
 cases r <;> first | exact f.elim | constructor
theorem flat_reps {h h': Heap} {vs: List Value} {xs: List V} (r: Reps h vs xs): (∀ x ∈ xs,x.flat) -> Reps h' vs xs:=
 r.ind (P:= fun vs xs=> (∀ x ∈ xs,x.flat) -> Reps h' vs xs) (fun _=> .nil) fun a _ ih f=> .cons (flat_rep (f _ (.head _)) a) (ih fun y m=> f y (.tail _ m))
theorem reps_of_get {h: Heap}: ∀ {vs: List Value} {xs: List V},vs.length = xs.length -> (∀ (j: Nat) v x,vs[j]? = some v -> xs[j]? = some x -> Rep h v x) -> Reps h vs xs
 | [],[],_,_=> .nil
 | v :: vs,x :: xs,l,g=> .cons (g 0 v x rfl rfl) (reps_of_get (by simpa using l) fun j v x a b=> g (j + 1) v x (by simpa using a) (by simpa using b))
noncomputable def AObj.flat: AObj -> Prop
 | .list xs=> ∀ x ∈ xs,x.flat
 | .flist xs=> ∀ x ∈ xs,x.flat
 | .iter _ _=> True
 | .tab _ _=> True
 | .cell v=> v.flat
noncomputable def NoRec (o: Obj): Prop:= ∀ vs q t,o.data = .fields vs -> vs[1]? ≠ some (.str q t)
theorem Holds.moveF {h h': Heap} {P: Addr -> Prop} (k: ∀ b o,¬ P b -> h.get? b = some o -> h'.get? b = some o) (hP: ∀ b o,P b -> h.get? b = some o -> NoRec o) {a: Addr} {o: AObj} (f: o.flat) (x: Holds h a o) (nP: ¬ P a): Holds h' a o:= by
 cases o with
 | list xs=> obtain ⟨vs,n,e2,rr⟩:= x;exact ⟨vs,n,k _ _ nP e2,flat_reps rr f⟩
 | flist xs=> obtain ⟨vs,⟨o2,e2,r⟩,rr⟩:= x;exact ⟨vs,⟨o2,k _ _ nP e2,r⟩,flat_reps rr f⟩
 | iter l i=> cases l <;> (obtain ⟨o2,e2,r⟩:= x;exact ⟨o2,k _ _ nP e2,r⟩)
 | tab ps q=> exact ⟨k _ _ nP x.1,x.2.1,fun p cv e=> by
   obtain ⟨c,o,vs,t,e1,g,d,s⟩:= x.2.2 p cv e
   exact ⟨c,o,vs,t,e1,k c o (fun p=> hP c o p g vs q t d s) g,d,s⟩⟩
 | cell v=> obtain ⟨w,⟨o2,e2,r⟩,rr⟩:= x;exact ⟨w,⟨o2,k _ _ nP e2,r⟩,flat_rep f rr⟩
theorem StepX.slipIt {own: Addr -> Prop} {as: List Addr} {ita: Addr} {l l': Option Addr} {i i': Nat} {h₀ hs h h': Heap} {σs σ: Hp} (x: StepX own h₀ σs hs σ h) (b: Beside as h₀ σ hs) (fl: ∀ a o,σ a = some o -> o.flat) (m: σ ita = some (.iter l i)) (mb: Mut σs ita) (ni: ∀ a ∈ as,∀ o,h.get? a = some o -> NoRec o)
  (k: ∀ b o,b ∉ as -> b ≠ ita -> h.get? b = some o -> h'.get? b = some o) (hit: Holds h' ita (.iter l' i')): StepX own h₀ σs hs (upd σ ita (.iter l' i')) h':= by
 have hi:= x.w.holds _ _ m
 have old: ∀ a o,hs.get? a = some o -> a ∉ as:= fun a o e m=> by rw [(b a m).1] at e;cases e
 have g0: h₀.get? ita = none:= x.w.above _ ⟨_,m,rfl⟩
 have ne: ∀ {a o},h.get? a = some o -> Imm o -> a ≠ ita:= fun e im q=> holds_not_imm hi (q ▸ e) im
 have hiR: ∀ o,h.get? ita = some o -> NoRec o:= fun o e vs q t d s=> by
  cases l <;> (obtain ⟨o2,e2,c2,d2⟩:= hi;rw [e] at e2;cases e2;rw [d] at d2;cases d2;cases s)
 refine ⟨⟨fun a o e=> k a o (fun q=> by rw [(b a q).2.2] at e;cases e) (by rintro rfl;rw [g0] at e;cases e) (x.w.stays a o e),fun a o e=> ?_,fun a q=> ?_,upd_small x.w.small trivial⟩,fun a o n no d e=> ?_,fun a o n no d e=> ?_,fun a=> ?_,fun a o e im=> ?_,fun a o e=> ?_⟩
 ·unfold upd at e;split at e
  ·rename_i q;subst q;cases e;exact hit
  ·rename_i q
   refine (x.w.holds a o e).moveF (P:= fun b=> b ∈ as \/ b = ita) (fun b o n e=> k b o (fun q=> n (.inl q)) (fun q=> n (.inr q)) e) (fun b o p e=> ?_) (fl a o e) fun p=> ?_
   ·rcases p with p | rfl
    ·exact ni b p o e
    ·exact hiR o e
   ·rcases p with p | p
    ·rw [(b a p).2.1] at e;cases e
    ·exact q p
 ·by_cases q2: a = ita
  ·subst q2;exact g0
  ·obtain ⟨o,e,mm⟩:= q;rw [upd_ne _ _ q2] at e;exact x.w.above a ⟨o,e,mm⟩
 ·exact k a o (old a o e) (fun q=> n (q ▸ mb)) (x.keep a o n no d e)
 ·exact (x.dict a o n no d e).imp fun sl e'=> k a _ (old a o e) (fun q=> n (q ▸ mb)) e'
 ·by_cases q: a = ita
  ·subst q;exact ⟨fun _=> .inl mb,fun _=> .inl (by obtain ⟨o,e,_⟩:= mb;rw [e];simp)⟩
  ·have:= x.grow a
   unfold Mut at this ⊢
   rw [upd_ne _ _ q];exact this
 ·have e':= x.tups a o e im
  exact k a o (old a o e) (ne e' im) e'
 ·obtain ⟨o',e',d⟩:= x.alive a o e
  by_cases q: a = ita
  ·subst q
   obtain ⟨o2,e2⟩:= hit.alive
   exact ⟨o2,e2,fun d1=> absurd (d d1) (holds_notD hi e')⟩
  ·exact ⟨o',k a o' (old a o e) q e',d⟩
theorem compTurn_zip {elt x1e iter: Expr} {scope: Scope} {pos: Pos} {it acc: Value} {env: Env} {prog: Program} {w: World} {A: Around} {R: Result -> Shared -> Prop} {s: Shared} (I: Nat -> Shared -> Prop)
  (turn: ∀ n s,I n s -> wpAny (model prog w) A (pyNext it) (fun r s₁=> match r with
   | none=> R (.ok .next) s₁
   | some v=> wpAny (model prog w) A (letOwnedTupleGo x1e it v) (fun _ s₁'=> wpAny (model prog w) A (assign x1e env v) (fun _ s₂=> wpAny (model prog w) A (eval elt env) (fun x s₄=>
       wpAny (model prog w) A (call (.builtin "list.append") [acc,x]) (fun _ s₅=> ∃ m,m < n /\ I m s₅) E0 s₄) E0 s₂) E0 s₁') E0 s₁) E0 s)
  (n: Nat) (h: I n s): codeAny (model prog w) A (.compLoop (.ListComp elt [⟨x1e,iter,[],0⟩] scope pos) 0 it acc env) R s:= by
 refine compLoop_gen I (fun n s hI=> wpAny_mono (turn n s hI) (fun r s₁ h₁=> ?_) fun _ _ f=> f) n h
 cases r with
 | none=> exact h₁
 | some v=> exact wpAny_mono h₁ (fun _ s₂ h₂=> wpAny_mono h₂ (fun _ s₃ h₃=> wpAny_pure (by simpa using h₃)) fun _ _ f=> f) fun _ _ f=> f
theorem assign_pair {prog: Program} {w: World} {A: Around} {s: Shared} {env: Env} {x1 x2: Str} {p1 p2 tp: Pos} {kk: Nat} {T: Addr} {a b: Value} {m: Str -> Option Value} {Q: Unit -> Shared -> Prop} {E: Value -> Shared -> Prop} (hh: A.handled = none)
  (hT: IsTup s.heap T #[a,b]) (k1: env.kindOf x1 = some .local) (k2: env.kindOf x2 = some .local) (hk: env.scope.kind = .function) (n: s.heap.Ns env.locals m)
  (q: ∀ h' tk,h'.Ns env.locals (fun y=> if y = x2 then some b else if y = x1 then some a else m y) -> (∀ c o,c ≠ env.locals -> s.heap.get? c = some o -> h'.get? c = some o) -> Q () { s with heap:= h',toks:= tk }) :
  wpAny (model prog w) A (assign (.Tuple [.Name x1 p1,.Name x2 p2] kk tp) env (.ref T)) Q E s:= by
 refine wpAny_assign_Tuple hh hT rfl rfl fun h' ext=> ?_
 have n1: h'.Ns env.locals m:= n.at fun o e=> ext _ o (Nat.ne_of_lt (Heap.lt_size e)) e
 show wpAny _ A (do holding [b] (assign (.Name x1 p1) env a);assignInOrder ((assignEach [.Name x2 p2] env).map (·.2)) [b]) _ _ _
 refine wpAny_bind (wpAny_holding (wpAny_assign_Name (wpAny_storeName_local (s:= { s with heap:= h' }) k1 n1 (fun h2 n2 sb2=> ?_) (by rw [hk];rfl))))
 show wpAny _ A (do holding [] (assign (.Name x2 p2) env b);assignInOrder [] []) _ _ _
 refine wpAny_bind (wpAny_holding (wpAny_assign_Name (wpAny_storeName_local k2 n2 (fun h3 n3 sb3=> ?_) (by rw [hk];rfl))))
 exact wpAny_pure (q h3 _ n3 fun c o nc e=> sb3.extBut c o nc (sb2.extBut c o nc (ext c o (Nat.ne_of_lt (Heap.lt_size e)) e)))
structure ZF (h₀ hb: Heap) (σ: Hp) (z TI TO ri ita D C: Addr): Prop where
 w: W h₀ σ hb
 mi: Mut σ ita
 ap: ZApart z TI TO ri ita
 fz: hb.get? z = none
 fTI: hb.get? TI = none
 fTO: hb.get? TO = none
 fri: hb.get? ri = none
 fD: hb.get? D = none
 fC: hb.get? C = none
 D1: D ≠ z /\ D ≠ TI /\ D ≠ TO /\ D ≠ ri /\ D ≠ ita /\ D ≠ C
 C1: C ≠ z /\ C ≠ TI /\ C ≠ TO /\ C ≠ ri /\ C ≠ ita
inductive TupAt (h: Heap) (TO: Addr) (ys: List V) (j: Nat) (r: Value): Prop
 | mk (T: Addr) (us: List Value) (xs: List V) (h1: r = .ref T) (h2: IsTup h T us.toArray) (h3: T ≠ TO) (h4: Reps h us xs) (h5: ∀ x ∈ xs,x.flat) (h6: ys[j]? = some (.tup xs)): TupAt h TO ys j r
structure ZJ (h₀ hb: Heap) (σ: Hp) (z TI TO ri ita D C: Addr) (n: Int) (ys: List V) (i k: Nat) (acc: List Value) (σ': Hp) (h: Heap): Prop where
 st: Step h₀ σ hb σ' h
 dom: ∀ a,σ a = none -> σ' a = none
 za: ZipAt h z TI TO ri ita
 ri: IsRangeIter h ri i (n - i) 1
 ns: ∃ m,h.Ns C m
 d: ∃ k,h.get? D = some (LObj acc k)
 len: acc.length = k
 tp: ∀ (j: Nat) r,acc[j]? = some r -> TupAt h TO ys j r
section
variable {prog: Program} {w: World} {A: Around} {h₀ hb: Heap} {σ σ': Hp} {z TI TO ri ita D C: Addr} {n: Int} {ys: List V} {i k: Nat} {acc: List Value} {h h': Heap}
theorem ZF.bes (c: ZF h₀ hb σ z TI TO ri ita D C) (dom: ∀ a,σ a = none -> σ' a = none): Beside [z,TO,ri,C] h₀ σ' hb:= fun a m=> by
 have f: hb.get? a = none:= by
  rcases List.mem_cons.mp m with rfl | m
  ·exact c.fz
  ·rcases List.mem_cons.mp m with rfl | m
   ·exact c.fTO
   ·rcases List.mem_cons.mp m with rfl | m
    ·exact c.fri
    ·obtain rfl:= List.mem_singleton.mp m;exact c.fC
 exact ⟨f,dom a (c.w.fresh f),(beside_one c.w f).2.2⟩
theorem norec_of {o: Obj} {d: Data} (e: o.data = d) (n: ∀ vs q t,d = .fields vs -> vs[1]? ≠ some (.str q t)): NoRec o:= fun vs q t h=> n vs q t (e.symm.trans h)
theorem ZJ.ni (I: ZJ h₀ hb σ z TI TO ri ita D C n ys i k acc σ' h): ∀ a ∈ [z,TO,ri,C],∀ o,h.get? a = some o -> NoRec o:= fun a m o e=> by
 rcases List.mem_cons.mp m with rfl | m
 ·obtain rfl:= Option.some.inj (I.za.z.symm.trans e)
  exact norec_of rfl fun vs q t h s=> by cases h;cases s
 ·rcases List.mem_cons.mp m with rfl | m
  ·obtain ⟨a,b,q⟩:= I.za.to
   obtain rfl:= Option.some.inj (q.symm.trans e)
   exact norec_of rfl fun vs q t h=> nomatch h
  ·rcases List.mem_cons.mp m with rfl | m
   ·obtain rfl:= Option.some.inj (I.ri.symm.trans e)
    exact norec_of rfl fun vs q t h s=> by cases h;cases s
   ·obtain rfl:= List.mem_singleton.mp m
    obtain ⟨_,o2,es,ep,e2,d2,_⟩:= I.ns
    obtain rfl:= Option.some.inj (e2.symm.trans e)
    exact norec_of d2 fun vs q t h=> nomatch h
theorem tup_ne {T b: Addr} {us: Array Value} {o: Obj} (x: IsTup h T us) (e: h.get? b = some o) (n: o.cls ≠ .type "tuple"): T ≠ b:= by
 rintro rfl
 obtain ⟨o2,e2,c2,_⟩:= x
 rw [e] at e2;cases e2;exact n c2
theorem tup_neD {T b: Addr} {us: Array Value} {m: Str -> Option Value} (x: IsTup h T us) (e: h.Ns b m): T ≠ b:= by
 rintro rfl
 obtain ⟨o2,e2,c2,n2,d2⟩:= x
 obtain ⟨o,es,ep,ho,hd,_⟩:= e
 rw [ho] at e2;cases e2;rw [hd] at d2;cases d2
theorem ZJ.tpk (I: ZJ h₀ hb σ z TI TO ri ita D C n ys i k acc σ' h) {l: Option Addr} {p: Nat} (m: σ' ita = some (.iter l p)) (kk: ∀ b o,b ∉ [z,TO,ri,C] -> b ≠ ita -> h.get? b = some o -> h'.get? b = some o): ∀ (j: Nat) r,acc[j]? = some r -> TupAt h' TO ys j r:= fun j r e=> by
 obtain ⟨T,us,xs,e1,tt,e3,e4,e5,e6⟩:= I.tp j r e
 obtain ⟨mm,nn⟩:= I.ns
 have hi:= I.st.w.holds _ _ m
 have t1:= tup_ne tt I.za.z (by simp)
 have t2:= tup_ne tt I.ri (by simp)
 have t4:= tup_neD tt nn
 have t3: T ≠ ita:= by
  rintro rfl
  obtain ⟨o2,e2,c2,n2,d2⟩:= tt
  exact holds_not_imm hi e2 (.inl ⟨c2,_,_,d2⟩)
 obtain ⟨o,e2,r2⟩:= tt
 refine ⟨T,us,xs,e1,⟨o,kk _ _ (fun m=> ?_) t3 e2,r2⟩,e3,flat_reps e4 e5,e5,e6⟩
 rcases List.mem_cons.mp m with q | m
 ·exact t1 q
 ·rcases List.mem_cons.mp m with q | m
  ·exact e3 q
  ·rcases List.mem_cons.mp m with q | m
   ·exact t2 q
   ·exact t4 (List.mem_singleton.mp m)
theorem ZJ.read (c: ZF h₀ hb σ z TI TO ri ita D C) (I: ZJ h₀ hb σ z TI TO ri ita D C n ys i k acc σ' h) (fl: ∀ a o,σ' a = some o -> o.flat) {l l': Option Addr} {p p': Nat} (m: σ' ita = some (.iter l p)) (kk: ∀ b o,b ∉ [z,TO,ri,C] -> b ≠ ita -> h.get? b = some o -> h'.get? b = some o) (hza: ZipAt h' z TI TO ri ita)
  (hri: IsRangeIter h' ri ((i: Int) + 1) (n - i - 1) 1) (hit: Holds h' ita (.iter l' p')) (nn: ∃ m,h'.Ns C m): ZJ h₀ hb σ z TI TO ri ita D C n ys (i + 1) k acc (upd σ' ita (.iter l' p')) h':= by
 obtain ⟨kd,gd⟩:= I.d
 have nD: D ∉ [z,TO,ri,C]:= fun m=> by
  rcases List.mem_cons.mp m with q | m
  ·exact c.D1.1 q
  ·rcases List.mem_cons.mp m with q | m
   ·exact c.D1.2.2.1 q
   ·rcases List.mem_cons.mp m with q | m
    ·exact c.D1.2.2.2.1 q
    ·exact c.D1.2.2.2.2.2 (List.mem_singleton.mp m)
 refine ⟨I.st.slipIt (c.bes I.dom) fl m c.mi I.ni kk hit,fun a e=> ?_,hza,?_,nn,⟨kd,kk _ _ nD c.D1.2.2.2.2.1 gd⟩,I.len,I.tpk m kk⟩
 ·obtain ⟨o,eo,_⟩:= c.mi
  rw [upd_ne _ _ (by rintro rfl;rw [e] at eo;cases eo)];exact I.dom a e
 ·have a1: ((i + 1: Nat): Int) = (i: Int) + 1:= by exact Nat.ToInt.add_congr rfl rfl
  have a2: n - ((i: Int) + 1) = n - (i: Int) - 1:= by exact Eq.symm (Int.sub_sub n (↑i) 1)
  rw [a1,a2];exact hri
theorem ZJ.run (c: ZF h₀ hb σ z TI TO ri ita D C) (I: ZJ h₀ hb σ z TI TO ri ita D C n ys i k acc σ' h) {σ'': Hp} (st: Step h₀ σ' h σ'' h') (dom: ∀ a,σ a = none -> σ'' a = none): ZJ h₀ hb σ z TI TO ri ita D C n ys i k acc σ'' h':= by
 have no: ∀ {a: Addr},hb.get? a = none -> ¬ Mut σ' a:= fun e=> none_mut (I.dom _ (c.w.fresh e))
 obtain ⟨kd,gd⟩:= I.d
 obtain ⟨mm,nn⟩:= I.ns
 obtain ⟨hz,hTI,a,b,hTO⟩:= I.za
 have kp: ∀ {a: Addr} {o: Obj},hb.get? a = none -> (∀ es k,o.data ≠ .dict es k) -> h.get? a = some o -> h'.get? a = some o:= fun f d e=> st.keeps _ _ (no f) (fun ⟨es,k,q⟩=> d es k q) e
 refine ⟨I.st.trans st,dom,⟨kp c.fz (fun es k q=> by cases q) hz,kp c.fTI (fun es k q=> by cases q) hTI,a,b,kp c.fTO (fun es k q=> by cases q) hTO⟩,kp c.fri (fun es k q=> by cases q) I.ri,⟨mm,st.ns (no c.fC) (fun f=> f) nn⟩,⟨kd,kp c.fD (fun es k q=> by cases q) gd⟩,I.len,fun j r e=> ?_⟩
 obtain ⟨T,us,xs,e1,tt,e3,e4,e5,e6⟩:= I.tp j r e
 exact ⟨T,us,xs,e1,st.tups.tup tt,e3,e4.step st,e5,e6⟩
theorem ZJ.put (c: ZF h₀ hb σ z TI TO ri ita D C) (I: ZJ h₀ hb σ z TI TO ri ita D C n ys i k acc σ' h) {kd: Nat} {T: Addr} {us: List Value} {xs: List V} (gd: h.get? D = some (LObj acc kd)) (tT: IsTup h T us.toArray) (nTO: T ≠ TO) (rT: Reps h us xs) (fT: ∀ x ∈ xs,x.flat) (yT: ys[k]? = some (.tup xs)) :
  ZJ h₀ hb σ z TI TO ri ita D C n ys i (k + 1) (acc ++ [.ref T]) σ' (h.update D (Obj.mapSeq fun x=> x.push (.ref T))):= by
 have up: ∀ b o,b ≠ D -> h.get? b = some o -> (h.update D (Obj.mapSeq fun x=> x.push (.ref T))).get? b = some o:= fun b o nb e=> (Heap.SameBut.update ..).extBut b o nb e
 obtain ⟨kk5,g5⟩:= LObj.update gd (fun x=> x.push (.ref T))
 have e5: ((fun x: Array Value=> x.push (.ref T)) acc.toArray).toList = acc ++ [.ref T]:= by simp
 rw [e5] at g5
 obtain ⟨mm,nn⟩:= I.ns
 obtain ⟨hz,hTI,a,b,hTO⟩:= I.za
 obtain ⟨d1,d2,d3,d4,d5,d6⟩:= c.D1
 have bD: Beside [D] h₀ σ' hb:= fun a m=> by
  obtain rfl:= List.mem_singleton.mp m
  exact ⟨c.fD,I.dom _ (c.w.fresh c.fD),(beside_one c.w c.fD).2.2⟩
 refine ⟨I.st.slip bD (fun a m o e=> ?_) fun b o m e=> up b o (fun q=> m (List.mem_singleton.mpr q)) e,I.dom,⟨up _ _ d1.symm hz,up _ _ d2.symm hTI,a,b,up _ _ d3.symm hTO⟩,up _ _ d4.symm I.ri,⟨mm,nn.at fun o e=> up _ o d6.symm e⟩,⟨kk5,g5⟩,by simp [I.len],fun j r e=> ?_⟩
 ·obtain rfl:= List.mem_singleton.mp m
  obtain rfl:= Option.some.inj (gd.symm.trans e)
  exact seq_not_imm rfl rfl
 ·rcases Nat.lt_or_ge j acc.length with hj | hj
  ·rw [List.getElem?_append_left hj] at e
   obtain ⟨T',us',xs',e1,tt,e3,e4,e5,e6⟩:= I.tp j r e
   have nD: T' ≠ D:= tup_ne tt gd (by simp [LObj])
   obtain ⟨o,e2,r2⟩:= tt
   exact ⟨T',us',xs',e1,⟨o,up _ _ nD e2,r2⟩,e3,flat_reps e4 e5,e5,e6⟩
  ·have hjl: j = acc.length:= by
    have:= (List.getElem?_eq_some_iff.mp e).1
    simp at this;(exact Nat.eq_of_le_of_lt_succ hj this)
   subst hjl
   rw [<- I.len] at yT
   obtain rfl: r = .ref T:= by simpa using e.symm
   have nD: T ≠ D:= tup_ne tT gd (by simp [LObj])
   obtain ⟨o,e2,r2⟩:= tT
   exact ⟨T,us,xs,rfl,⟨o,up _ _ nD e2,r2⟩,nTO,flat_reps rT fT,fT,yT⟩
inductive TurnEnd (h₀: Heap) (σ: Hp) (St: Nat -> Hp -> Prop) (ys: List V) (i: Nat) (s: Shared) (r: Value) (s': Shared): Prop
 | mk (σ': Hp) (T: Addr) (us: List Value) (xs: List V) (h1: Sm s s') (h2: Step h₀ σ s.heap σ' s'.heap) (h3: St (i + 1) σ') (h4: r = .ref T) (h5: IsTup s'.heap T us.toArray) (h6: s.heap.get? T = none) (h7: Reps s'.heap us xs) (h8: ∀ x ∈ xs,x.flat) (h9: ys[i]? = some (.tup xs)): TurnEnd h₀ σ St ys i s r s'
structure RowSt (σ: Hp) (ita l: Addr) (xs: List V) (St: Nat -> Hp -> Prop): Prop where
 it: ∀ i σ',St i σ' -> σ' ita = some (.iter (some l) i)
 row: ∀ i σ',St i σ' -> ∃ zs,listAt σ' l = some zs /\ zs[i]? = xs[i]?
 dom: ∀ i σ',St i σ' -> ∀ a,σ a = none -> σ' a = none
inductive ZDone (σ: Hp) (ita: Addr) (xs: List V) (n: Int) (St: Nat -> Hp -> Prop) (i: Nat) (σ'': Hp): Prop
 | rng (h1: n <= i) (h2: St i σ''): ZDone σ ita xs n St i σ''
 | lst (σ': Hp) (h1: (i: Int) < n) (h2: i = xs.length) (h3: St i σ') (h4: σ'' = upd σ' ita (.iter none i)): ZDone σ ita xs n St i σ''
inductive ZTurn (h₀ hb: Heap) (σ: Hp) (z TI TO ri ita D C: Addr) (n: Int) (ys xs: List V) (St: Nat -> Hp -> Prop) (s₀: Shared) (k: Nat) (s': Shared): Prop
 | mk (i: Nat) (acc: List Value) (σ': Hp) (h1: k = xs.length - i) (h2: Sm s₀ s') (h3: i <= xs.length) (h4: (i: Int) <= n \/ i = 0) (h5: St i σ') (h6: ZJ h₀ hb σ z TI TO ri ita D C n ys i i acc σ' s'.heap): ZTurn h₀ hb σ z TI TO ri ita D C n ys xs St s₀ k s'
theorem ZJ.out (c: ZF h₀ hb σ z TI TO ri ita D C) (I: ZJ h₀ hb σ z TI TO ri ita D C n ys i i acc σ' h) (hl: ys.length = i \/ i <= ys.length) {l: Option Addr} {p: Nat} (m: σ' ita = some (.iter l p)) (kk: ∀ b o,b ∉ [z,TO,ri,C] -> b ≠ ita -> h.get? b = some o -> h'.get? b = some o): Reps h' acc (ys.take i):= by
 have hi: i <= ys.length:= by lia
 refine reps_of_get (by rw [I.len,List.length_take];(exact Eq.symm (Nat.min_eq_left hi))) fun j r y e ey=> ?_
 obtain ⟨T,us,xs,rfl,tt,_,rr,_,ej⟩:= I.tpk m kk j r e
 rw [List.getElem?_take,ej] at ey
 split at ey
 ·cases ey;exact .tup tt rr
 ·cases ey
theorem listAt_ne {σ: Hp} {l: Addr} {zs: List V} (e: listAt σ l = some zs): σ l ≠ none:= fun q=> by unfold listAt at e;rw [q] at e;cases e
theorem listAt_fl {σ: Hp} {l: Addr} {zs: List V} (e: listAt σ l = some zs) (fl: ∀ a o,σ a = some o -> o.flat): ∀ x ∈ zs,x.flat:= by
 unfold listAt at e
 split at e
 ·rename_i q;cases e;exact fl _ _ q
 ·rename_i q;cases e;exact fl _ _ q
 ·cases e
theorem mut_ne {σ: Hp} {a b: Addr} (m: Mut σ b) (e: σ a = none): a ≠ b:= fun q=> by obtain ⟨o,eo,_⟩:= m;rw [<- q,e] at eo;cases eo
theorem get_ne {h: Heap} {a b: Addr} {o: Obj} (q: h.get? b = some o) (f: h.get? a = none): a ≠ b:= fun e=> by rw [<- e,f] at q;cases q
theorem not4 {a b c d e: Addr} (h: e ∉ [a,b,c,d]): e ≠ a /\ e ≠ b /\ e ≠ c /\ e ≠ d:= by
 simp only [List.mem_cons,List.not_mem_nil,or_false,not_or] at h;exact h
theorem zip_turns (c: ZF h₀ hb σ z TI TO ri ita D C) (hh: A.handled = none) {elt iter: Expr} {x1 x2: Str} {p1 p2 tp: Pos} {kk: Nat} {scope: Scope} {pos: Pos} {env: Env} (hC: env.locals = C) (k1: env.kindOf x1 = some .local) (k2: env.kindOf x2 = some .local) (hne: x1 ≠ x2) (hk: env.scope.kind = .function)
  {l: Addr} {xs: List V} {St: Nat -> Hp -> Prop} (RS: RowSt σ ita l xs St) (fl: ∀ i σ',St i σ' -> ∀ a o,σ' a = some o -> o.flat) (hys: ys.length = xs.length) (hbig: xs.length <= BIG)
  (hel: ∀ (i: Nat) (v: Value) (x: V) (t: Tok) (s: Shared) (m: Str -> Option Value) (σ': Hp),(i: Int) < n -> xs[i]? = some x -> St i σ' -> Rep s.heap v x -> s.heap.Ns C m -> m x1 = some (.int i t) -> m x2 = some v -> Step h₀ σ hb (upd σ' ita (.iter (some l) (i + 1))) s.heap ->
   wpAny (model prog w) A (eval elt env) (TurnEnd h₀ (upd σ' ita (.iter (some l) (i + 1))) St ys i s) E0 s)
  {s₀: Shared} {R: Result -> Shared -> Prop}
  (hR: ∀ s' i σ'' acc,Sm s₀ s' -> ZDone σ ita xs n St i σ'' -> i <= xs.length -> ((i: Int) <= n \/ i = 0) -> Step h₀ σ hb σ'' s'.heap -> (∀ a,σ a = none -> σ'' a = none) -> (∃ m,s'.heap.Ns C m) -> (∃ k,s'.heap.get? D = some (LObj acc k)) -> Reps s'.heap acc (ys.take i) -> R (.ok .next) s')
  {s: Shared} {acc: List Value} (m₀: Sm s₀ s) (hi: i <= xs.length) (hin: (i: Int) <= n \/ i = 0) (h0: St i σ') (I: ZJ h₀ hb σ z TI TO ri ita D C n ys i i acc σ' s.heap) :
  codeAny (model prog w) A (.compLoop (.ListComp elt [⟨.Tuple [.Name x1 p1,.Name x2 p2] kk tp,iter,[],0⟩] scope pos) 0 (.ref z) (.ref D) env) R s:= by
 subst hC
 refine compTurn_zip (ZTurn h₀ hb σ z TI TO ri ita D env.locals n ys xs St s₀) (fun k s' hI=> ?_) _ ⟨i,acc,σ',rfl,m₀,hi,hin,h0,I⟩
 obtain ⟨i,acc,σ',rfl,mI,hi,hin,h0,I⟩:= hI
 have eit:= RS.it i σ' h0
 obtain ⟨zs,el,ez⟩:= RS.row i σ' h0
 have fli:= fl i σ' h0
 obtain ⟨ws,hl',rw'⟩:= I.st.w.list el
 have nl: ∀ {a: Addr},hb.get? a = none -> l ≠ a:= fun e q=> listAt_ne el (q ▸ I.dom _ (c.w.fresh e))
 obtain ⟨C1,C2,C3,C4,C5⟩:= c.C1
 obtain ⟨mm,nn⟩:= I.ns
 have hit: s'.heap.IsListIter ita l i:= I.st.w.holds _ _ eit
 by_cases hrange: n - (i: Int) <= 0
 ·refine zip_end1 hh c.ap I.za I.ri hrange fun h' kk'=> ?_
  have kc: ∀ b o,b ∉ [z,TO,ri,env.locals] -> b ≠ ita -> s'.heap.get? b = some o -> h'.get? b = some o:= fun b o m _ e=> kk' b o (fun q=> m (q ▸ .head _)) e
  have st2:= I.st.slipIt (l':= some l) (i':= i) (c.bes I.dom) fli eit c.mi I.ni kc (hit.at fun o e=> kk' _ o c.ap.i2z e)
  rw [upd_id eit] at st2
  obtain ⟨kd,gd⟩:= I.d
  exact hR _ i σ' acc (mI.trans ⟨rfl,rfl⟩) (.rng (by exact Int.le_of_sub_nonpos hrange) h0) hi hin st2 I.dom ⟨mm,nn.at fun o e=> kk' _ o C1 e⟩ ⟨kd,kk' _ _ c.D1.1 gd⟩ (I.out c (.inr (by rw [hys];exact hi)) eit kc)
 ·by_cases hlist: i < xs.length
  ·obtain ⟨x,ex⟩: ∃ x,xs[i]? = some x:= ⟨_,List.getElem?_eq_getElem hlist⟩
   obtain ⟨y,ey,ry⟩:= rw'.get (ez.trans ex)
   have fx:= listAt_fl el fli x (List.mem_of_getElem? (ez.trans ex))
   refine zip_item c.ap I.za I.ri (by exact Int.lt_of_not_ge hrange) hit hl' ⟨nl c.fz,nl c.fTO,nl c.fri⟩ (y:= y) (by simpa using ey) fun h1 tk t hz1 hTI1 hTO1 hri1 hit1 hpair1 kk1=> ?_
   refine wpAny_letOwnedTupleGo_zip hz1 fun h2 hz2 sb2=> ?_
   have sz: s'.heap.objs.size ≠ z:= Nat.ne_of_gt (Heap.lt_size I.za.z)
   refine assign_pair hh ⟨_,sb2.extBut _ _ sz hpair1,rfl,_,rfl⟩ k1 k2 hk (nn.at fun o e=> sb2.extBut _ o C1 (kk1 _ o C1 C3 C4 C5 e)) fun h3 tk3 n3 kk3=> ?_
   have kc: ∀ b o,b ∉ [z,TO,ri,env.locals] -> b ≠ ita -> s'.heap.get? b = some o -> h3.get? b = some o:= fun b o m c4 e=> by
    have m:= not4 m
    exact kk3 b o m.2.2.2 (sb2.extBut b o m.1 (kk1 b o m.1 m.2.1 m.2.2.1 c4 e))
   have hit3: h3.IsListIter ita l (i + 1):= (hit1.extBut sb2.extBut c.ap.i2z).at fun o e=> kk3 _ o C5.symm e
   have I3:= ZJ.read c I fli eit kc ⟨kk3 _ _ C1.symm hz2,kk3 _ _ C2.symm (sb2.extBut _ _ c.ap.TIz hTI1),_,_,kk3 _ _ C3.symm (sb2.extBut _ _ c.ap.TOz hTO1)⟩ (kk3 _ _ C4.symm (sb2.extBut _ _ c.ap.i1z hri1)) (l':= some l) (p':= i + 1) hit3 ⟨_,n3⟩
   clear hz1 hTI1 hTO1 hri1 hit1 hpair1 kk1 hz2 sb2 kk3 kc
   refine wpAny_mono (hel i y x t { s' with heap:= h3,toks:= tk3 } _ σ' (by lia) ex h0 (flat_rep fx ry) n3 (by simp [hne]) (by simp) I3.st) (fun r s4 te=> ?_) fun _ _ f=> f
   obtain ⟨σ4,T,us,xs4,m4,st4,h4,er,tT,fT,rT,flT,yT⟩:= te
   subst er
   have I4:= ZJ.run c I3 st4 (RS.dom _ _ h4)
   obtain ⟨kd,gd4⟩:= I4.d
   have hlen:= I4.len
   have nTO: T ≠ TO:= by obtain ⟨_,_,q⟩:= I3.za.to;exact get_ne q fT
   refine call_meets PySem.F.slot_list_append ⟨_,gd4,rfl⟩ PySem.F.entry_list_append (PySem.F.args_list_append_2 _ _) (AutoListH.list_append_list_val_0 _ acc.toArray kd _ (by simp;exact big_line (by lia))) ⟨gd4,?_⟩
   exact ⟨xs.length - (i + 1),by exact Nat.sub_succ_lt_self xs.length i hlist,i + 1,acc ++ [.ref T],σ4,rfl,mI.trans (m4.trans ⟨rfl,rfl⟩),by exact Nat.succ_le_of_lt hlist,.inl (by exact ar_i11 hrange),h4,ZJ.put c I4 gd4 tT nTO rT flT yT⟩
  ·have hie: i = xs.length:= Nat.le_antisymm hi (Nat.le_of_not_lt hlist)
   have ey: ws[i]? = none:= by
    rw [List.getElem?_eq_none_iff,rw'.length]
    exact List.getElem?_eq_none_iff.mp (ez.trans (List.getElem?_eq_none_iff.mpr (Nat.le_of_eq hie.symm)))
   refine zip_end2 hh c.ap I.za I.ri (by exact Int.lt_of_not_ge hrange) hit hl' ⟨nl c.fz,nl c.fTO,nl c.fri⟩ (by simpa using ey) fun h' tk oi gi ci di kk'=> ?_
   have kc: ∀ b o,b ∉ [z,TO,ri,env.locals] -> b ≠ ita -> s'.heap.get? b = some o -> h'.get? b = some o:= fun b o m c4 e=> by
    have m:= not4 m
    exact kk' b o m.1 m.2.1 m.2.2.1 c4 e
   have st2:= I.st.slipIt (l':= none) (i':= i) (c.bes I.dom) fli eit c.mi I.ni kc ⟨oi,gi,ci,di⟩
   obtain ⟨kd,gd⟩:= I.d
   refine hR _ i _ acc (mI.trans ⟨rfl,rfl⟩) (.lst σ' (by lia) hie h0 rfl) hi hin st2 (fun a e=> ?_) ⟨mm,nn.at fun o e=> kk' _ o C1 C3 C4 C5 e⟩ ⟨kd,kk' _ _ c.D1.1 c.D1.2.2.1 c.D1.2.2.2.1 c.D1.2.2.2.2.1 gd⟩ (I.out c (.inr (by rw [hys];exact hi)) eit kc)
   rw [upd_ne _ _ (mut_ne c.mi e)];exact I.dom a e
end
theorem set_cases {F: Frm} {j i: Nat} {v u: V} (e: (F.set j (some u))[i]? = some (some v)): (i = j /\ v = u) \/ (i ≠ j /\ F[i]? = some (some v)):= by
 by_cases q: i = j
 ·subst q
  rw [List.getElem?_set_self'] at e
  cases q2: F[i]? with
  | none=> rw [q2] at e;cases e
  | some z=> rw [q2] at e;simp at e;exact .inl ⟨rfl,e.symm⟩
 ·rw [List.getElem?_set_ne (fun h=> q h.symm)] at e;exact .inr ⟨q,e⟩
section
variable {prog: Program} {w: World} {A: Around} {s: Shared} {c: Cfg} {env: Env} {own: Addr -> Prop} {iv: Value} {F: Frm} {h₀: Heap} {σ: Hp} {hb: Heap}
theorem comp_setupZ {elt t it: Expr} {ifs: List Expr} {rest: List Comprehension} {scope: Scope} {pos: Pos}
  (ok: scOk c scope.names = true) (hk: scope.kind = .function) (noc: scope.names.all (fun x=> x.2 != .cell) = true)
  (hwb: W h₀ σ hb) (hf: FrOk c env own F h₀ σ hb) (ko: ∀ b o,hb.get? b = some o -> s.heap.get? b = some o)
  {RR: Value -> Addr -> Result -> Shared -> Prop}
  (self: ∀ (A: Around) (s': Shared) (Q: Value -> Shared -> Prop) (E: Value -> Shared -> Prop),(∀ b o,s.heap.get? b = some o -> s'.heap.get? b = some o) -> Q iv s' -> wpAny (model prog w) A (pyIter iv) Q E s')
  (turns: ∀ env' D s₃,Sm s s₃ -> (∀ b o,s.heap.get? b = some o -> s₃.heap.get? b = some o) -> s₃.heap.get? D = some (LObj [] 0) -> s₃.heap.Ns env'.locals (fun _=> none) -> s.heap.get? D = none -> s.heap.get? env'.locals = none -> D ≠ env'.locals ->
   FrOk { sc:= scope.names,fns:= c.fns } env' (fun a=> a = env'.locals) (frOf (fmapOf c scope.names) F) h₀ σ s₃.heap ->
   (∀ y a,env'.cells.lookup y = some a -> (y,NameKind.free) ∈ scope.names /\ a = (env.cells.lookup y).getD 0) ->
   codeAny (model prog w) A (.compLoop (.ListComp elt (⟨t,it,ifs,0⟩ :: rest) scope pos) 0 iv (.ref D) env') (RR (.ref D) env'.locals) s₃) :
  wpAny (model prog w) A (newList []) (fun acc s₃=> wpAny (model prog w) A (newFunctionEnv scope env.globals (clGo env scope.names []) [] env.qual none .none (some env)) (fun cenv s₄=>
   codeAny (model prog w) A (.compStart (.ListComp elt (⟨t,it,ifs,0⟩ :: rest) scope pos) 0 iv acc { cenv with scope:= relabel scope env }) (RR acc cenv.locals) s₄) E0 s₃) E0 s:= by
 refine wpAny_newObj_type (newEnv_cells (fun h₁ Ac hns₁ old₁ own₁=> ?_))
 dsimp only at hns₁ old₁ own₁ ⊢
 generalize hH2: s.heap.push { cls:= .type "list",dict:= none,data:= .seq ([]: List Value).toArray } = H2 at hns₁ old₁ own₁ ⊢
 have hAc: Ac = []:= by
  cases Ac with
  | nil=> rfl
  | cons p r=>
   have:= (own₁.mem p.1 p.2 (.head _)).1
   rw [List.all_eq_true] at noc
   have:= noc _ this
   simp at this
 subst hAc
 have hC: H2.objs.size = s.heap.objs.size + 1:= by rw [<- hH2,Heap.size_push]
 have hDC: s.heap.objs.size ≠ H2.objs.size:= by rw [hC];exact Nat.ne_of_lt (Nat.lt_succ_self _)
 have old2: ∀ b o,s.heap.get? b = some o -> H2.get? b = some o:= fun b o e=> hH2 ▸ Heap.get?_push_of_some _ e
 have old: ∀ b o,s.heap.get? b = some o -> h₁.get? b = some o:= fun b o e=> old₁ b o (old2 b o e)
 have gD2: H2.get? s.heap.objs.size = some (LObj [] 0):= hH2 ▸ Heap.get?_push_size _ rfl
 have hacc: h₁.get? s.heap.objs.size = some (LObj [] 0):= old₁ _ _ gD2
 have sD: s.heap.get? s.heap.objs.size = none:= get_push_none _
 have back: ∀ a,s.heap.get? a = none -> hb.get? a = none:= fun a e=> by
  cases q: hb.get? a with
  | none=> rfl
  | some o=> rw [ko a o q] at e;cases e
 have back2: ∀ a,H2.get? a = none -> s.heap.get? a = none:= fun a e=> by
  cases q: s.heap.get? a with
  | none=> rfl
  | some o=> rw [old2 a o q] at e;cases e
 have sC: s.heap.get? H2.objs.size = none:= back2 _ (get_push_none _)
 have own1: OwnCells scope.names H2.objs.size hb h₁ []:= ⟨own₁.all,fun x a m=> by simp at m,own₁.apart⟩
 have fr1: FrOk { sc:= scope.names,fns:= c.fns } (compEnvC scope ([] ++ clGo env scope.names []) H2.objs.size env) (fun a=> a ∈ H2.objs.size :: ([]: List (Str × Addr)).map (·.2)) (frOf (fmapOf c scope.names) F) h₀ σ h₁:=
  inner_ok hf ok hk rfl own1 (fun a e=> (beside_one hwb e).2) (fun b o e=> old b o (ko b o e)) (back _ sC) hns₁
 have fr2: FrOk { sc:= scope.names,fns:= c.fns } (compEnvC scope ([] ++ clGo env scope.names []) H2.objs.size env) (fun a=> a = H2.objs.size) (frOf (fmapOf c scope.names) F) h₀ σ h₁:= by
  have e: (fun a=> a ∈ H2.objs.size :: ([]: List (Str × Addr)).map (·.2)) = (fun a=> a = H2.objs.size):= by funext a;simp
  rw [<- e];exact fr1
 have loop: ∀ s₃: Shared,s₃.heap = h₁ -> Sm s s₃ ->
   codeAny (model prog w) A (.compLoop (.ListComp elt (⟨t,it,ifs,0⟩ :: rest) scope pos) 0 iv (.ref s.heap.objs.size) (compEnvC scope ([] ++ clGo env scope.names []) H2.objs.size env)) (RR (.ref s.heap.objs.size) H2.objs.size) s₃:=
  fun s₃ e₃ m₃=> turns _ _ s₃ m₃ (by rw [e₃];exact old) (by rw [e₃];exact hacc) (by rw [e₃];exact hns₁) sD sC hDC (by rw [e₃];exact fr2) (fun y a e=> by
   have e': (clGo env scope.names []).lookup y = some a:= e
   rcases clGo_some _ _ e' with q | q
   ·cases q
   ·exact q)
 exact codeAny_compStart_list (loop _ rfl ⟨Eq.refl _,Eq.refl _⟩) (self _ _ _ _ old (loop _ rfl ⟨Eq.refl _,Eq.refl _⟩))
theorem inner_now {scope: Scope} {env': Env} {h1 h: Heap} {σ0: Hp} {i1 i2: Nat} {x1 x2: Str} {k: Nat} {t: Tok} {v: Value} {x: V} {m: Str -> Option Value}
  (ok: scOk c scope.names = true) (noc: scope.names.all (fun x=> x.2 != .cell) = true)
  (hf: FrOk c env own F h₀ σ h) (f1: FrOk { sc:= scope.names,fns:= c.fns } env' (fun a=> a = env'.locals) (frOf (fmapOf c scope.names) F) h₀ σ0 h1)
  (hcl: ∀ y a,env'.cells.lookup y = some a -> (y,NameKind.free) ∈ scope.names /\ a = (env.cells.lookup y).getD 0)
  (n1: (Cfg.mk scope.names c.fns Option.none).names[i1]? = some x1) (n2: (Cfg.mk scope.names c.fns Option.none).names[i2]? = some x2)
  (hn: h.Ns env'.locals m) (m1: m x1 = some (.int k t)) (m2: m x2 = some v) (rv: Rep h v x) (nf1: scope.names.lookup x1 ≠ some .free) (nf2: scope.names.lookup x2 ≠ some .free) (hl: σ env'.locals = none) :
  FrOk { sc:= scope.names,fns:= c.fns } env' (fun a=> a = env'.locals) (((frOf (fmapOf c scope.names) F).set i1 (some (.int k))).set i2 (some x)) h₀ σ h:= by
 have nd:= (show scOk c scope.names = true from ok)
 simp only [scOk,Bool.and_eq_true,decide_eq_true_eq,List.all_eq_true] at nd
 have nc: ∀ y,scope.names.lookup y ≠ some .cell:= fun y q=> by
  have:= mem_of_lookup q
  rw [List.all_eq_true] at noc
  have:= noc _ this
  simp at this
 refine ⟨f1.kind,f1.glob,f1.bi,f1.gk,f1.vk,⟨m,hn,fun i y u e1 e2 e3=> ?_⟩,fun i y e1 e2=> ?_,f1.inj,⟨f1.loc.1,hl,f1.loc.2.2⟩,f1.nd,fun a q=> ?_,f1.code⟩
 ·rcases set_cases e3 with ⟨rfl,rfl⟩ | ⟨q2,e4⟩
  ·rw [n2] at e1;cases e1
   exact ⟨v,m2,rv⟩
  ·rcases set_cases e4 with ⟨rfl,rfl⟩ | ⟨q1,e5⟩
   ·rw [n1] at e1;cases e1
    exact ⟨_,m1,.int _ _⟩
   ·exfalso
    refine inner_free_at (F:= F) ok e1 (fun q=> ?_) u e5
    rcases f1.vk i y e1 with ⟨z,_⟩ | ⟨_,z⟩ | ⟨_,z | z⟩
    ·rw [show (Cfg.mk scope.names c.fns Option.none).sc.lookup y = _ from q] at z;cases z
    ·rw [e2] at z;cases z
    ·rw [e2] at z;cases z
    ·rw [e2] at z;cases z
 ·obtain ⟨a,cv,g1,g2,g3,g4,g5,g6⟩:= f1.cell i y e1 e2
  obtain ⟨mem,ea⟩:= hcl y a g1
  have o:= nd.2 _ mem
  simp at o
  have hlt:= List.idxOf_lt_length_iff.mpr o.1.1
  have e': c.names[c.names.idxOf y]? = some y:= by rw [List.getElem?_eq_getElem hlt,List.getElem_idxOf hlt]
  have nl: env.kindOf y ≠ some .local:= by
   rcases hf.vk _ _ e' with ⟨q,_⟩ | ⟨_,q⟩ | ⟨_,q | q⟩
   ·exact absurd q o.1.2
   all_goals rw [q];simp
  obtain ⟨a',cv',k1,k2,k3,k4,k5,k6⟩:= hf.cell _ _ e' nl
  rw [k1] at ea;simp at ea;subst ea
  refine ⟨a,cv',g1,k2,k3,g4,fun q=> absurd q (nc y),fun u hu=> ?_⟩
  have lf: scope.names.lookup y = some .free:= lookup_of_nodup nd.1 mem
  have h0: (frOf (fmapOf c scope.names) F)[i]? = some (some u):= by
   rcases set_cases hu with ⟨rfl,rfl⟩ | ⟨q2,e4⟩
   ·rw [n2] at e1;cases e1;exact absurd lf nf2
   ·rcases set_cases e4 with ⟨rfl,rfl⟩ | ⟨q1,e5⟩
    ·rw [n1] at e1;cases e1;exact absurd lf nf1
    ·exact e5
  obtain ⟨kk,g,mm,ll⟩:= names_mem e1
  have lk: scope.names.lookup y = some kk:= lookup_of_nodup nd.1 mm
  rw [lf] at lk;cases lk
  unfold frOf fmapOf at h0
  rw [List.getElem?_map,List.getElem?_map,g] at h0
  simp at h0
  exact k6 u (by cases q: F[List.idxOf y c.names]? with | none=> rw [q] at h0;cases h0 | some z=> rw [q] at h0;simp at h0;rw [h0])
 ·obtain ⟨o,es,ep,ho,_⟩:= hn
  subst q;exact ⟨o,ho⟩
end
inductive ZipK (Φ: Fns) (fm: List (Option Nat)) (i1 i2: Nat) (es: List PE) (F: Frm) (Q: V -> Hp -> Prop) (vs: List V) (σ: Hp): Prop
 | mk (n: Int) (ita l: Addr) (xs ys: List V) (St: Nat -> Hp -> Prop) (h1: vs = [.rng 0 n 1,.ref ita]) (h2: Builtin.Range.small 0 n 1 = true) (h3: RowSt σ ita l xs St) (h4: ∀ i σ',St i σ' -> ∀ a o,σ' a = some o -> o.flat) (h5: St 0 σ) (h6: ys.length = xs.length) (h7: xs.length <= BIG)
  (h8: ∀ (i: Nat) x σ',xs[i]? = some x -> (i: Int) < n -> St i σ' -> vEs Φ es (fun vs τ=> ys[i]? = some (.tup vs) /\ vs.length <= BIG /\ (∀ y ∈ vs,y.flat) /\ St (i + 1) τ) (((frOf fm F).set i1 (some (.int i))).set i2 (some x)) (upd σ' ita (.iter (some l) (i + 1))))
  (h9: ∀ i σ',ZDone σ ita xs n.toNat St i σ' -> i = min n.toNat xs.length -> newL (ys.take i) Q σ'): ZipK Φ fm i1 i2 es F Q vs σ
noncomputable def PS.zipc (r: Nat) (fm: List (Option Nat)) (i1 i2: Nat) (es: List PE) (pr pit: PE): PS:= fun Φ R F σ=> vEs Φ [pr,pit] (ZipK Φ fm i1 i2 es F (fun v σ=> R .next (F.set r (some v)) σ)) F σ
theorem s_zipc (Φ: Fns) (R: Fl -> Frm -> Hp -> Prop) (F: Frm) (σ: Hp) (r: Nat) (fm: List (Option Nat)) (i1 i2: Nat) (es: List PE) (pr pit: PE) :
 vS Φ (.zipc r fm i1 i2 es pr pit) R F σ = vEs Φ [pr,pit] (ZipK Φ fm i1 i2 es F (fun v σ=> R .next (F.set r (some v)) σ)) F σ:= rfl
theorem rangeSize_nat (n: Int): Builtin.Range.rangeSize 0 n 1 = n.toNat:= by
 rw [rangeSize_one]
 split
 ·rename_i h;rw [Int.sub_zero];exact (Int.toNat_of_nonneg (Int.le_of_lt h)).symm
 ·rename_i h;rw [Int.toNat_of_nonpos (Int.not_lt.mp h)];rfl
structure ZipOk (c: Cfg) (es: List Expr) (x1 x2 zn: Str) (e1 e2: Expr) (scope: Scope) (ps: List PE) (pr pit: PE) (i1 i2: Nat) (fm: List (Option Nat)): Prop where
 ok: scOk c scope.names = true
 kind: scope.kind = .function
 noc: scope.names.all (fun x=> x.2 != .cell) = true
 fm: fm = fmapOf c scope.names
 n1: (Cfg.mk scope.names c.fns Option.none).names[i1]? = some x1
 n2: (Cfg.mk scope.names c.fns Option.none).names[i2]? = some x2
 l1: scope.names.lookup x1 = some .local
 l2: scope.names.lookup x2 = some .local
 ne: x1 ≠ x2
 hz: zn = "zip"
 zk: c.sc.lookup zn = some .globalImplicit
 args: CEs c [e1,e2] [pr,pit]
 ce: CEs { sc:= scope.names,fns:= c.fns } es ps
theorem zip_boot: bootBuiltins ("zip": Str) = some (.type "zip"):= by decide +kernel
section
variable {prog: Program} {w: World} {h₀: Heap} {mg mb: Str -> Option Value} {Φ: Fns} {n: Nat} {c: Cfg} {A: Around} {s: Shared} {σ: Hp} {env: Env} {own: Addr -> Prop} {F: Frm}
theorem zipc_core {es: List Expr} {x1 x2 zn: Str} {e1 e2: Expr} {scope: Scope} {ps: List PE} {pr pit: PE} {i1 i2: Nat} {fm: List (Option Nat)} {k1 k2: Nat} {ep tp p1 p2 zp cp pos: Pos} (C: ZipOk c es x1 x2 zn e1 e2 scope ps pr pit i1 i2 fm)
  (X: Here prog w h₀ mg mb Φ n c A s σ env own F) {Q: V -> Hp -> Prop} (v: vEs Φ [pr,pit] (ZipK Φ fm i1 i2 ps F Q) F σ) {RR: Value -> Addr -> Result -> Shared -> Prop}
  (hRR: ∀ σ₁ s₁ s₂,Step h₀ σ s.heap σ₁ s₁.heap -> Sm s s₁ -> Sm s₁ s₂ -> CompEnd h₀ σ₁ s₁.heap s₂ Q RR) :
  wpAny (model prog w) A (eval (.Call (.Name zn zp) [e1,e2] [] cp) env) (fun x s₁=> wpAny (model prog w) A (pyIter x) (fun iv s₂=>
   wpAny (model prog w) A (newList []) (fun acc s₃=> wpAny (model prog w) A (newFunctionEnv scope env.globals (clGo env scope.names []) [] env.qual none .none (some env)) (fun cenv s₄=>
    codeAny (model prog w) A (.compStart (.ListComp (.Tuple es k1 ep) [⟨.Tuple [.Name x1 p1,.Name x2 p2] k2 tp,.Call (.Name zn zp) [e1,e2] [] cp,[],0⟩] scope pos) 0 iv acc { cenv with scope:= relabel scope env }) (RR acc cenv.locals) s₄) E0 s₃) E0 s₂) E0 s₁) E0 s:= by
 obtain ⟨ok,kind,noc,hfm,n1,n2,l1,l2,hne,hzn,zk,args,ce⟩:= C
 subst hzn hfm
 refine Call_Name rfl (load_glob X.G X.w X.f zk (by decide) (.inr ⟨X.NM.fr _ (by decide +kernel),(X.G.boot _ (by decide)).trans zip_boot⟩) ?_)
 refine PyProof.Rows.callWith_type (star_plain args) (evalArgs_ces args (wpAny_mono (sEs args X v) (fun vs s₁=> PVs.on fun xs' σ₁ rs st m₁ q=> ?_) fun _ _ f=> f))
 obtain ⟨N,ita,l,xs,ys,St,rfl,hsm,RS,hfl,h0,hyl,hbig,hf,hnew⟩:= q
 obtain ⟨vr,vi,rfl,r1,r2⟩:= two_rep rs
 obtain rfl:= r2.iref
 obtain ⟨rg,tk1,tk2,tk3,rfl,hr⟩:= r1.irng
 have hwb:= st.w
 have eit:= RS.it _ _ h0
 have hit: s₁.heap.IsListIter ita l 0:= hwb.holds _ _ eit
 obtain ⟨oi,gi,ci,di⟩:= id hit
 have hfr:= X.f.step st
 have hfs:= X.fs.step st
 refine callType_new PySem.F.called_zip (by decide) (PySem.F.typeCall_zip_2 _ _) (PySem.F.newCall_zip_2 _ _) (fun obj=> PySem.F.args_object_init_3 obj _ _) PySem.F.entry_zip_new
  (zip_new rg ita N tk1 tk2 tk3 hsm) ⟨hr,⟨oi,gi,ci⟩,fun h' eh'=> ?_⟩
 generalize hZ: s₁.heap.objs.size = Z at eh' ⊢
 have lo: ∀ b o,s₁.heap.get? b = some o -> b < Z:= fun b o e=> hZ ▸ Heap.lt_size e
 have z1: (zH1 s₁.heap 0 (Builtin.Range.rangeSize 0 N 1) 1).objs.size = Z + 1:= by rw [<- hZ];exact Heap.size_push ..
 generalize hh1: zH1 s₁.heap 0 (Builtin.Range.rangeSize 0 N 1) 1 = h1 at z1 eh'
 have g1: h1.get? Z = some { cls:= .type "range_iterator",data:= .fields #[rawInt 0,rawInt (Builtin.Range.rangeSize 0 N 1),rawInt 1] }:= by rw [<- hh1,<- hZ];exact Heap.get?_push_size _ rfl
 have z2: (h1.push { cls:= .type "tuple",data:= .seq #[.ref Z,.ref ita] }).objs.size = Z + 2:= by rw [Heap.size_push,z1]
 have g2: (h1.push { cls:= .type "tuple",data:= .seq #[.ref Z,.ref ita] }).get? (Z + 1) = some { cls:= .type "tuple",data:= .seq #[.ref Z,.ref ita] }:= by rw [<- z1];exact Heap.get?_push_size _ rfl
 generalize hh2: h1.push { cls:= .type "tuple",data:= .seq #[.ref Z,.ref ita] } = h2 at z2 eh' g2
 have z3: (h2.push { cls:= .type "tuple",data:= .seq #[.none,.none] }).objs.size = Z + 3:= by rw [Heap.size_push,z2]
 have g3: (h2.push { cls:= .type "tuple",data:= .seq #[.none,.none] }).get? (Z + 2) = some { cls:= .type "tuple",data:= .seq #[.none,.none] }:= by rw [<- z2];exact Heap.get?_push_size _ rfl
 generalize hh3: h2.push { cls:= .type "tuple",data:= .seq #[.none,.none] } = h3 at z3 eh' g3
 have g4: h'.get? (Z + 3) = some { cls:= .type "zip",data:= .fields #[.none,.bool false,.bool false,.ref (Z + 1),.ref (Z + 2)] }:= by rw [eh',<- z3];exact Heap.get?_push_size _ rfl
 have up3: ∀ b o,h3.get? b = some o -> h'.get? b = some o:= fun b o e=> by rw [eh'];exact Heap.get?_push_of_some _ e
 have up2: ∀ b o,h2.get? b = some o -> h'.get? b = some o:= fun b o e=> up3 b o (by rw [<- hh3];exact Heap.get?_push_of_some _ e)
 have up1: ∀ b o,h1.get? b = some o -> h'.get? b = some o:= fun b o e=> up2 b o (by rw [<- hh2];exact Heap.get?_push_of_some _ e)
 have up: ∀ b o,s₁.heap.get? b = some o -> h'.get? b = some o:= fun b o e=> up1 b o (by rw [<- hh1];exact Heap.get?_push_of_some _ e)
 refine ⟨⟨_,g4,rfl⟩,?_⟩
 have hz: IsZip h' (Z + 3) (Z + 1) (Z + 2) .none:= g4
 refine wpAny_pyIter_zip hz ?_
 have none_of: ∀ a,Z <= a -> s₁.heap.get? a = none:= fun a q=> by
  cases e: s₁.heap.get? a with
  | none=> rfl
  | some o=> exact absurd (lo _ _ e) (Nat.not_lt_of_le q)
 have iZ: @LT.lt Nat _ ita Z:= lo _ _ gi
 refine comp_setupZ (hb:= s₁.heap) ok kind noc hwb hfr up (fun A s' Q E k q=> wpAny_pyIter_zip (k _ _ g4) q) fun env' D s₃ m₃ old gD hns nD nC hDC f1 hcl=> ?_
 have lo': ∀ {b o},h'.get? b = some o -> b ≠ D /\ b ≠ env'.locals:= fun {b o} e=> ⟨(by rintro rfl;rw [show h'.get? b = none from nD] at e;cases e),(by rintro rfl;rw [show h'.get? env'.locals = none from nC] at e;cases e)⟩
 have gi':= up _ _ gi
 have nDb: s₁.heap.get? D = none:= by
  cases e: s₁.heap.get? D with
  | none=> rfl
  | some o=> have:= up _ _ e;rw [show h'.get? D = none from nD] at this;cases this
 have nCb: s₁.heap.get? env'.locals = none:= by
  cases e: s₁.heap.get? env'.locals with
  | none=> rfl
  | some o=> have:= up _ _ e;rw [show h'.get? env'.locals = none from nC] at this;cases this
 have ap: ZApart (Z + 3) (Z + 1) (Z + 2) Z ita:= ⟨by simp,by simp,by simp,Nat.ne_of_lt (Nat.lt_of_lt_of_le iZ (Nat.le_add_right _ _)),by simp,by simp,Nat.ne_of_gt (Nat.lt_of_lt_of_le iZ (Nat.le_add_right _ _)),by simp,Nat.ne_of_gt (Nat.lt_of_lt_of_le iZ (Nat.le_add_right _ _)),Nat.ne_of_gt iZ⟩
 have cz: ZF h₀ s₁.heap σ₁ (Z + 3) (Z + 1) (Z + 2) Z ita D env'.locals:=
  ⟨hwb,⟨_,eit,rfl⟩,ap,none_of _ (by exact Nat.le_add_right Z 3),none_of _ (by exact Nat.le_add_right Z 1),none_of _ (by exact Nat.le_add_right Z 2),none_of _ (by exact Nat.le_refl Z),nDb,nCb,
   ⟨(lo' g4).1.symm,(lo' (up2 _ _ g2)).1.symm,(lo' (up3 _ _ g3)).1.symm,(lo' (up1 _ _ g1)).1.symm,(lo' gi').1.symm,hDC⟩,
   ⟨(lo' g4).2.symm,(lo' (up2 _ _ g2)).2.symm,(lo' (up3 _ _ g3)).2.symm,(lo' (up1 _ _ g1)).2.symm,(lo' gi').2.symm⟩⟩
 have kloc: ∀ (i: Nat) y,(Cfg.mk scope.names c.fns Option.none).names[i]? = some y -> scope.names.lookup y = some .local -> env'.kindOf y = some .local:= fun i y e1 e2=> by
  rcases f1.vk i y e1 with ⟨_,q⟩ | ⟨q,_⟩ | ⟨q,_⟩
  ·exact q
  ·rw [show (Cfg.mk scope.names c.fns Option.none).sc.lookup y = _ from e2] at q;cases q
  ·rw [show (Cfg.mk scope.names c.fns Option.none).sc.lookup y = _ from e2] at q;cases q
 have st0: Step h₀ σ₁ s₁.heap σ₁ s₃.heap:= hwb.extend fun b o e=> old b o (up b o e)
 refine zip_turns (n:= N.toNat) (ys:= ys) (i:= 0) (acc:= []) cz X.R.handled rfl (kloc _ _ n1 l1) (kloc _ _ n2 l2) hne f1.kind RS hfl hyl hbig (fun i v x t s5 m σ' hi ex hs rv hn mm1 mm2 st5=> ?_) (fun s' i σ'' acc mS zd hle hin st' dom hC hD rr=> ?_) (s₀:= s₃) .rfl (Nat.zero_le _) (.inr rfl) h0
  ⟨st0,fun _ e=> e,⟨old _ _ g4,old _ _ (up2 _ _ g2),⟨_,_,old _ _ (up3 _ _ g3)⟩⟩,?_,⟨_,hns⟩,⟨_,gD⟩,rfl,fun j r e=> by simp at e⟩
 ·have hv:= hf i x σ' ex (Int.lt_toNat.mp (Int.ofNat_lt.mp hi)) hs
  have l0: upd σ' ita (.iter (some l) (i + 1)) env'.locals = none:= by
   rw [upd_ne _ _ (lo' gi').2.symm];exact RS.dom _ _ hs _ (hwb.fresh nCb)
  have fr5:= inner_now ok noc (hfr.step st5) f1 hcl n1 n2 hn mm1 mm2 rv (by rw [l1];simp) (by rw [l2];simp) l0
  have X5: Here prog w h₀ mg mb Φ n { sc:= scope.names,fns:= c.fns } A s5 _ env' (fun a=> a = env'.locals) (((frOf (fmapOf c scope.names) F).set i1 (some (.int i))).set i2 (some x)):= ⟨X.G,X.NM,X.R,st5.w,fr5,hfs.step st5⟩
  refine wpAny_Tuple_spliced (wpAny_mono (sEs ce X5 hv) (fun vs s6=> PVs.on fun xs6 σ6 rs6 st6 m6 ⟨e6,b6,fl6,h6⟩=> ?_) fun _ _ f=> f)
  have hl6:= rs6.length
  have st7:= st6.w.extend (h':= s6.heap.push { cls:= .type "tuple",data:= .seq vs.toArray }) fun b o e=> Heap.get?_push_of_some _ e
  refine ⟨big_line (by rw [hl6];exact b6),σ6,_,vs,xs6,m6.trans ⟨Eq.refl _,Eq.refl _⟩,st6.trans st7,h6,rfl,⟨_,Heap.get?_push_size _ rfl,rfl,0,rfl⟩,?_,rs6.step st7,fl6,e6⟩
  cases e: s5.heap.get? s6.heap.objs.size with
  | none=> rfl
  | some o=>
   obtain ⟨o',e',_⟩:= st6.alive _ _ e
   exact absurd (Heap.lt_size e') (Nat.lt_irrefl _)
 ·obtain ⟨mm,nn⟩:= hC
  obtain ⟨kd,gD'⟩:= hD
  have hiN: i = min N.toNat xs.length:= by
   cases zd with
   | rng q _=>
    have:= Int.ofNat_le.mp q
    rcases hin with q2 | q2
    ·have:= Int.ofNat_le.mp q2;lia
    ·lia
   | lst _ q q2 _ _=> have:= Int.ofNat_lt.mp q;lia
  exact hRR σ₁ s₁ { s₁ with heap:= h' } st m₁ ⟨rfl,rfl⟩ D env'.locals s' _ _ acc kd mm (Sm.trans m₃ mS) (hnew i σ'' zd hiN) gD' rr nn st' nDb nCb hDC (dom _ (hwb.fresh nDb)) (dom _ (hwb.fresh nCb))
 ·have e1: (((N.toNat: Nat): Int) - ((0: Nat): Int)) = Builtin.Range.rangeSize 0 N 1:= by rw [rangeSize_nat];simp
  rw [e1]
  exact old _ _ (up1 _ _ g1)
theorem CS.zipc {es: List Expr} {x x1 x2 zn: Str} {e1 e2: Expr} {scope: Scope} {ps: List PE} {pr pit: PE} {r i1 i2: Nat} {fm: List (Option Nat)} {k1 k2: Nat} {ep tp p1 p2 zp cp pos q p: Pos} (hx: c.names[r]? = some x) (nf: c.sc.lookup x ≠ some .free) (C: ZipOk c es x1 x2 zn e1 e2 scope ps pr pit i1 i2 fm) :
  CS c (.Assign [.Name x q] (.ListComp (.Tuple es k1 ep) [⟨.Tuple [.Name x1 p1,.Name x2 p2] k2 tp,.Call (.Name zn zp) [e1,e2] [] cp,[],0⟩] scope pos) p) (.zipc r fm i1 i2 ps pr pit):= by
 intro prog w h₀ mg mb Φ n A s σ env own F Q X T v
 have cov: ∀ env y,foldedSetIterable (.Call (.Name zn zp) [e1,e2] [] cp) env y = pure y:= fun _ _=> rfl
 obtain ⟨bb,hb⟩: ∃ bb,swapsWith (.ListComp (.Tuple es k1 ep) [⟨.Tuple [.Name x1 p1,.Name x2 p2] k2 tp,.Call (.Name zn zp) [e1,e2] [] cp,[],0⟩] scope pos) (some (.Name x q)) p.line env = pure bb:= ⟨_,rfl⟩
 cases bb with
 | false=>
  refine wpAny_Assign_Name (value:= .ListComp (.Tuple es k1 ep) [⟨.Tuple [.Name x1 p1,.Name x2 p2] k2 tp,.Call (.Name zn zp) [e1,e2] [] cp,[],0⟩] scope pos) ?_ hb
  rw [eval_ListComp]
  have key:= zipc_core (k1:= k1) (k2:= k2) (ep:= ep) (tp:= tp) (p1:= p1) (p2:= p2) (zp:= zp) (cp:= cp) (pos:= pos) C X v (RR:= fun acc Cc=> compPost (model prog w) A E0 none (PV h₀ σ s (fun v σ=> Q .next (F.set r (some v)) σ)) acc Cc)
   (fun σ₁ s₁ s₂ st m₁ m₂=> rr_none st.w (fun _ s' pv m₃=> PVh.lift pv st (m₁.trans (m₂.trans m₃))))
  refine wpAny_mono (wpAny_comprehension_free (use:= .none) rfl (cov env) (clos_ok C.ok X.f) C.kind (scOk_names C.ok) key) (fun y s₁=> PV.on fun z σ₁ rz st m₁ q=> ?_) fun _ _ f=> f
  exact (X.f.step st).store st.w hx nf rz fun s' m' st' hf'=> .next ((Step.any st).trans st') (m₁.trans m') hf' q
 | true=>
  rw [exec_Assign_Name_used _ _ _ _ hb]
  refine wpAny_bind (wpAny_standAt (wpAny_bind ?_))
  show wpAny _ A (do let _ <- comprehension (.ListComp (.Tuple es k1 ep) [⟨.Tuple [.Name x1 p1,.Name x2 p2] k2 tp,.Call (.Name zn zp) [e1,e2] [] cp,[],0⟩] scope pos) scope env _ (newList []) false (eval (.Call (.Name zn zp) [e1,e2] [] cp) env) (some (PySem.assign (.Name x q) env))) _ _ s
  have key: wpAny (model prog w) A (comprehension (.ListComp (.Tuple es k1 ep) [⟨.Tuple [.Name x1 p1,.Name x2 p2] k2 tp,.Call (.Name zn zp) [e1,e2] [] cp,[],0⟩] scope pos) scope env (firstIterPos [⟨.Tuple [.Name x1 p1,.Name x2 p2] k2 tp,.Call (.Name zn zp) [e1,e2] [] cp,[],0⟩] pos) (newList []) false (eval (.Call (.Name zn zp) [e1,e2] [] cp) env) (some (PySem.assign (.Name x q) env))) (fun _ s'=> PSt c env own h₀ σ s Q .next s') E0 s:= by
   refine wpAny_comprehension_free (use:= some (PySem.assign (.Name x q) env)) rfl (cov env) (clos_ok C.ok X.f) C.kind (scOk_names C.ok) ?_
   exact zipc_core (k1:= k1) (k2:= k2) (ep:= ep) (tp:= tp) (p1:= p1) (p2:= p2) (zp:= zp) (cp:= cp) (pos:= pos) C X v (RR:= fun acc Cc=> compPost (model prog w) A E0 (some (PySem.assign (.Name x q) env)) (fun _ s'=> PSt c env own h₀ σ s Q .next s') acc Cc)
    (fun σ₁ s₁ s₂ st m₁ m₂=> rr_some (Q:= Q) hx nf X.R.handled m₂ st.w (X.f.step st) (fun _ _ pv=> pv.back (Step.any st) m₁))
  exact wpAny_bind (wpAny_mono key (fun _ s' hq=> wpAny_pure (wpAny_pure hq)) fun _ _ e=> e)
end
theorem sortedHeap_get {h: Heap} {a: Addr} {vs: List Value} {n: Nat} (ho: h.get? a = some (LObj vs n)) (out: List Value): ∃ nn,(sortedHeap h a vs out.toArray).get? a = some (LObj out nn):= by
 have ha:= Heap.lt_size ho
 unfold sortedHeap
 obtain ⟨e1,ho6⟩: ∃ e1,(((h.update a (Obj.mapSeq fun _=> #[])).push (seqObj "tuple" vs.toArray 0)).push (seqObj "list" #[] 0)).get? a = some (seqObj "list" #[] e1):= by
  rw [Heap.get?_push_ne _ _ _ (by rw [size_push',Heap.size_update];exact Nat.ne_of_lt (Nat.lt_succ_of_lt ha)),Heap.get?_push_ne _ _ _ (by rw [Heap.size_update];exact Nat.ne_of_lt ha)]
  exact ⟨_,get?_update_seq ho (fun _=> #[])⟩
 exact ⟨_,get?_update_seq ho6 (fun _=> out.toArray)⟩
theorem sortedHeap_keep (h: Heap) (a: Addr) (vs: List Value) (out: Array Value): Heap.ExtBut a h (sortedHeap h a vs out):= fun b o nb e=> by
 have hlt: b < h.objs.size:= Heap.lt_size e
 unfold sortedHeap
 rw [Heap.get?_update_ne _ _ _ _ nb,Heap.get?_push_ne _ _ _ (by rw [size_push',Heap.size_update];exact Nat.ne_of_lt (Nat.lt_succ_of_lt hlt)),Heap.get?_push_ne _ _ _ (by rw [Heap.size_update];exact Nat.ne_of_lt hlt),Heap.get?_update_ne _ _ _ _ nb]
 exact e
theorem reps_pick {h: Heap} {vs: List Value} {xs: List V} (r: Reps h vs xs) (l: List Nat) (hl: ∀ i ∈ l,i < xs.length): Reps h (l.map fun i=> vs.getD i Value.none) (l.map fun i=> xs.getD i .none):= by
 induction l with
 | nil=> exact .nil
 | cons i l ih=>
  refine .cons ?_ (ih fun j m=> hl j (.tail _ m))
  have hi:= hl i (.head _)
  obtain ⟨v,e1,rv⟩:= r.get (List.getElem?_eq_getElem hi)
  dsimp only
  rw [List.getD_eq_getElem?_getD,List.getD_eq_getElem?_getD,e1,List.getElem?_eq_getElem hi];exact rv
theorem pre_lt {N: Nat} {p: Array Nat} (hp: Pre N p N): ∀ i ∈ p.toList,i < N:= fun i m=> by
 have:= hp.perm.mem_iff.mp m
 simpa using this
theorem m_sort {σ: Hp} {Q: V -> Hp -> Prop} {a: Addr} {xs: List V} {lt: Nat -> Nat -> Bool} (Wk: Weak lt) (e: σ a = some (.list xs)) (h2: 2 <= xs.length) (h64: xs.length < 128)
  (hs: ∀ (h₀: Heap) (h: Heap) (vs: List Value),W h₀ σ h -> Reps h vs xs -> Sorts (· ≠ a) h vs lt)
  (q: ∀ p: Array Nat,Pre xs.length p xs.length -> Up lt p xs.length -> Q .none (upd σ a (.list (p.toList.map fun i=> xs.getD i .none)))): opMeth .sort (.ref a) [] Q σ:= by
 refine opMeth.mk ?_
 intro prog w A s h₀ mg mb n0 vo vargs G R ro ra hw
 obtain rfl:= ra.inil;obtain rfl:= ro.iref
 obtain ⟨vs,n,g,r⟩:= hw.mlist e
 have hlen:= r.length
 have hb:= hw.len (listAt_list e)
 obtain ⟨κ,hk⟩:= hs h₀ s.heap vs hw r
 have imm: ∀ {h': Heap},(∀ b o,b ≠ a -> s.heap.get? b = some o -> h'.get? b = some o) -> ∀ b o,s.heap.get? b = some o -> (Imm o \/ b ≠ a) -> h'.get? b = some o:= fun k b o e' i=> k b o (i.elim (fun im q=> holds_not_imm (hw.holds _ _ e) (q ▸ e') im) id) e'
 have hu2: A.in1.units <= 9100:= by have:= R.units;show A.units + 1 <= 9100;(exact ar_u3 this)
 refine wpAny_call_entry slot_list_sort ⟨_,g,rfl⟩ entry_list_sort (list_sort_any (κ:= κ) Wk g (by exact le_of_le_of_eq h2 (id (Eq.symm hlen))) (by exact lt_of_eq_of_lt hlen h64) (fun h' Q k q=> (hk prog w _ { s with heap:= h' } hu2 (imm k)).1 Q q)
  (fun h' i j C k hi hj hc=> (hk prog w _ { s with heap:= h' } hu2 (imm k)).2 i j C hi hj hc) fun p hp hu=> ⟨_,rfl,?_⟩) (args_list_sort _)
 rw [hlen] at hp hu
 obtain ⟨nn,gg⟩:= sortedHeap_get g (p.toList.map fun i=> vs.getD i Value.none)
 refine ⟨_,_,.none,⟨hw.change (o:= .list (p.toList.map fun i=> xs.getD i .none)) ⟨_,e,rfl⟩ (sortedHeap_keep _ _ _ _) (fun k=> ⟨_,nn,gg,(reps_pick r _ (pre_lt hp)).tups (tup_keep hw k)⟩) ?_,Eq.refl _,Eq.refl _⟩,q p hp hu⟩
 show (List.map _ _).length <= BIG
 have:= hp.size
 simp [this];exact hb
section
variable {prog: Program} {w: World} {A: Around} {E: Value -> Shared -> Prop} {s: Shared}
noncomputable def Stable (hb: Heap) (J: Nat -> Heap -> Prop): Prop:= ∀ i h h' a,J i h -> hb.get? a = none -> (∀ o,h.get? a = some o -> ¬ Imm o) -> Heap.ExtBut a h h' -> J i h'
noncomputable def Priv (hb h h': Heap): Prop:= ∀ b o,hb.get? b = none -> ¬ IsD o -> h.get? b = some o -> h'.get? b = some o
noncomputable def KeyGo (prog: Program) (w: World) (A: Around) (hb: Heap) (f: Value) (vs: List Value) (J: Nat -> Heap -> Prop) (kp: Nat -> Value -> Prop): Prop:=
 ∀ (i: Nat) (v: Value) (s: Shared),vs[i]? = some v -> J i s.heap ->
  wpAny (model prog w) A (call f [v]) (fun k s'=> Sm s s' /\ J (i + 1) s'.heap /\ Priv hb s.heap s'.heap /\ kp i k) (fun _ _=> False) s
theorem notD_seq {xs: Array Value} {n: Nat}: ¬ IsD (seqObj "list" xs n):= fun ⟨es,k,q⟩=> by cases q
theorem notImm_seq {xs: Array Value} {n: Nat}: ¬ Imm (seqObj "list" xs n):= seq_not_imm rfl rfl
theorem list_sort_key {hb: Heap} {J: Nat -> Heap -> Prop} {a: Addr} {f: Value} {vs: List Value} {n: Nat} {P: PySem.Fin -> Shared -> Prop} {lt: Nat -> Nat -> Bool} {kp: Nat -> Value -> Prop} (Wk: Weak lt) (ho: s.heap.get? a = some (LObj vs n)) (h2: 2 <= vs.length) (h64: vs.length < 128)
  (hba: hb.get? a = none) (kb: ∀ b o,hb.get? b = some o -> s.heap.get? b = some o) (hJ: Stable hb J) (J0: J 0 s.heap)
  (go: KeyGo prog w A hb f vs J kp)
  (srt: ∀ (ks: List Value) (h: Heap),ks.length = vs.length -> (∀ (i: Nat) k,ks[i]? = some k -> kp i k) -> Sorts (fun _=> True) h ks lt) (hu: A.units <= 9000)
  (h: ∀ p s' nn,Pre vs.length p vs.length -> Up lt p vs.length -> Sm s s' -> J vs.length s'.heap -> s'.heap.get? a = some (LObj (p.toList.map fun i=> vs.getD i Value.none) nn) -> P (.done (.ret .none)) s') :
  wpAny (model prog w) A (ksk_tree a f false) P E s:= by
 have ha: a < s.heap.objs.size:= Heap.lt_size ho
 obtain ⟨e1,ho1⟩: ∃ e1,(s.heap.update a (Obj.mapSeq fun _=> (#[]: Array Value))).get? a = some (seqObj "list" #[] e1):= ⟨_,get?_update_seq ho fun _=> #[]⟩
 have s1:= Heap.SameBut.update s.heap a (Obj.mapSeq fun _=> (#[]: Array Value))
 unfold ksk_tree
 refine wpAny_bind (listItems_at ho rfl ?_)
 refine wpAny_bind (listUpdate_at ho rfl ?_ (by rw [List.size_toArray,sizeLine_eq];(exact ar_v3 h64)) (Nat.zero_le _))
 refine wpAny_bind (seqEpoch_at ho1 rfl ?_)
 refine wpAny_bind (wpAny_newTuple ?_ (by show vs.length <= _;rw [sizeLine_eq];(exact ar_v3 h64)))
 refine wpAny_bind (wpAny_newList ?_ (Nat.zero_le _))
 refine wpAny_holding ?_
 have hkS: ((s.heap.update a (Obj.mapSeq fun _=> (#[]: Array Value))).push (seqObj "tuple" vs.toArray 0)).objs.size = s.heap.objs.size + 1:= by rw [size_push',Heap.size_update]
 have gk: (((s.heap.update a (Obj.mapSeq fun _=> (#[]: Array Value))).push (seqObj "tuple" vs.toArray 0)).push (seqObj "list" #[] 0)).get? ((s.heap.update a (Obj.mapSeq fun _=> (#[]: Array Value))).push (seqObj "tuple" vs.toArray 0)).objs.size = some (seqObj "list" #[] 0):= Heap.get?_push_size _ rfl
 have ga: (((s.heap.update a (Obj.mapSeq fun _=> (#[]: Array Value))).push (seqObj "tuple" vs.toArray 0)).push (seqObj "list" #[] 0)).get? a = some (seqObj "list" #[] e1):= Heap.get?_push_of_some _ (Heap.get?_push_of_some _ ho1)
 have J3: J 0 (((s.heap.update a (Obj.mapSeq fun _=> (#[]: Array Value))).push (seqObj "tuple" vs.toArray 0)).push (seqObj "list" #[] 0)):= by
  have q:= hJ 0 _ _ a J0 hba (fun o e=> by obtain rfl:= Option.some.inj (ho.symm.trans e);exact seq_not_imm rfl rfl) s1.extBut
  have n1: hb.get? s.heap.objs.size = none:= by
   cases e: hb.get? s.heap.objs.size with
   | none=> rfl
   | some o=> have:= Heap.lt_size (kb _ _ e);exact absurd this (Nat.lt_irrefl _)
  have n2: hb.get? (s.heap.objs.size + 1) = none:= by
   cases e: hb.get? (s.heap.objs.size + 1) with
   | none=> rfl
   | some o=> have:= Heap.lt_size (kb _ _ e);exact absurd this (Nat.not_lt_of_le (Nat.le_succ _))
  have q2:= hJ 0 _ (a:= s.heap.objs.size) q n1 (fun o e=> by have:= Heap.lt_size e;rw [Heap.size_update] at this;exact absurd this (Nat.lt_irrefl _)) (h':= (s.heap.update a (Obj.mapSeq fun _=> (#[]: Array Value))).push (seqObj "tuple" vs.toArray 0)) fun b o _ e=> Heap.get?_push_of_some _ e
  exact hJ 0 _ _ (s.heap.objs.size + 1) q2 n2 (fun o e=> by have:= Heap.lt_size e;rw [hkS] at this;exact absurd this (Nat.lt_irrefl _)) fun b o _ e=> Heap.get?_push_of_some _ e
 have kk: ∀ b o,hb.get? b = some o -> (((s.heap.update a (Obj.mapSeq fun _=> (#[]: Array Value))).push (seqObj "tuple" vs.toArray 0)).push (seqObj "list" #[] 0)).get? b = some o:= fun b o e=>
  Heap.get?_push_of_some _ (Heap.get?_push_of_some _ (s1.extBut b o (by rintro rfl;rw [hba] at e;cases e) (kb b o e)))
 show wpAny (model prog w) A (ksk_rest a f false vs.toArray e1 (.ref ((s.heap.update a (Obj.mapSeq fun _=> (#[]: Array Value))).push (seqObj "tuple" vs.toArray 0)).objs.size)) P E { s with heap:= (((s.heap.update a (Obj.mapSeq fun _=> (#[]: Array Value))).push (seqObj "tuple" vs.toArray 0)).push (seqObj "list" #[] 0)) }
 generalize ((s.heap.update a (Obj.mapSeq fun _=> (#[]: Array Value))).push (seqObj "tuple" vs.toArray 0)).push (seqObj "list" #[] 0) = H3 at gk ga kk J3 ⊢
 generalize ((s.heap.update a (Obj.mapSeq fun _=> (#[]: Array Value))).push (seqObj "tuple" vs.toArray 0)).objs.size = kS at gk hkS ⊢
 have hka: kS ≠ a:= by rw [hkS];exact Nat.ne_of_gt (Nat.lt_succ_of_lt ha)
 have hbk: hb.get? kS = none:= by
  cases e: hb.get? kS with
  | none=> rfl
  | some o=> have:= Heap.lt_size (kb _ _ e);rw [hkS] at this;exact absurd this (Nat.not_lt_of_le (Nat.le_succ _))
 unfold ksk_rest
 refine wpAny_bind (wpAny_rule ?_)
 first
  | rw [List.forIn_toArray]
  | (rw [<- Array.forIn_toList];simp only [List.toList_toArray])
  | rw [<- Array.forIn_toList]
 refine wpAny_bind (ksk_fold (fun i s'=> ∃ kA e,Sm s s' /\ J i s'.heap /\ s'.heap.get? kS = some (seqObj "list" kA e) /\ s'.heap.get? a = some (seqObj "list" #[] e1) /\ kA.size = i /\ ∀ (j: Nat) k,kA[j]? = some k -> kp j k) vs 0 _
  ⟨#[],0,⟨rfl,rfl⟩,J3,gk,ga,rfl,fun j k e=> by simp at e⟩ ?step ?done)
 case step=>
  rintro j x s' hx ⟨kA,e,m',kp',gk',ga',hz,hk⟩
  simp only [Nat.zero_add] at hz kp' ⊢
  have hj: j < vs.length:= (List.getElem?_eq_some_iff.mp hx).1
  refine wpAny_bind (wpAny_attempt (wpAny_mono (go j x s' hx kp') (fun v s'' he=> ?_) fun _ _ hF=> hF.elim))
  obtain ⟨m2,k2,p2,hv⟩:= he
  dsimp only
  have gk2:= p2 _ _ hbk notD_seq gk'
  have ga2:= p2 _ _ hba notD_seq ga'
  have s2:= Heap.SameBut.update s''.heap kS (Obj.mapSeq (·.push v))
  obtain ⟨c2,hc2⟩: ∃ c2,(s''.heap.update kS (Obj.mapSeq (·.push v))).get? kS = some (seqObj "list" (kA.push v) c2):= ⟨_,get?_update_seq gk2 (·.push v)⟩
  refine wpAny_bind (listUpdate_at gk2 rfl ?_ (by rw [sizeLine_eq];(exact ar_v4 h64 hz hj)) (Nat.le_trans (Nat.le_of_eq (Array.size_push ..)) (by rw [sizeLine_eq];lia)))
  refine wpAny_pure ⟨rfl,kA.push v,c2,m'.trans (m2.trans ⟨rfl,rfl⟩),hJ _ _ _ kS k2 hbk (fun o e=> by obtain rfl:= Option.some.inj (gk2.symm.trans e);exact notImm_seq) s2.extBut,hc2,(s2.2 a hka.symm).trans ga2,by rw [Array.size_push,hz],fun i k e=> ?_⟩
  rw [Array.getElem?_push] at e
  split at e
  ·rename_i q;cases e;rw [hz] at q;subst q;exact hv
  ·exact hk i k e
 case done=>
  rintro s' ⟨kA,e,m',kp',gk',ga',hz,hk⟩
  simp only [Nat.zero_add] at hz kp'
  try dsimp only
  refine wpAny_bind (listItems_at gk' rfl ?_)
  obtain ⟨ks,rfl⟩: ∃ ks: List Value,kA = ks.toArray:= ⟨kA.toList,by simp⟩
  have hkl: ks.length = vs.length:= by simpa using hz
  have hks: ∀ (i: Nat) k,ks[i]? = some k -> kp i k:= fun i k e=> hk i k (by simpa using e)
  unfold ksk_end
  have hn2: ¬ vs.toArray.size < 2:= by rw [List.size_toArray];(exact Nat.not_lt.mpr h2)
  dsimp only
  simp only [Bool.false_eq_true,if_false]
  rw [if_neg hn2,if_neg hn2]
  obtain ⟨κ,hκ⟩:= srt ks s'.heap hkl hks
  refine wpAny_bind (wpAny_mono ((hκ prog w A s' (Nat.le_trans hu (by decide)) fun _ _ e _=> e).1 (fun k s''=> k = κ /\ s'' = s') ⟨rfl,rfl⟩) ?_ fun _ _ x=> x.elim)
  rintro k s'' ⟨rfl,rfl⟩
  refine wpAny_bind (wpAny_mono (sort_run (Q:= fun st' s3=> s3 = s'' /\ ∃ p: Array Nat,Pre vs.length p vs.length /\ Up lt p vs.length /\ (arrOf st').map (·.2) = outOf vs p /\ failedOf st' = none) Wk hkl h2 h64 (fun i j C hi hj hc=> (hκ prog w A s'' (Nat.le_trans hu (by decide)) fun _ _ e _=> e).2 i j C (by exact Nat.lt_of_lt_of_eq hi (id (Eq.symm hz))) (by exact Nat.lt_of_lt_of_eq hj (id (Eq.symm hz))) hc) fun p st' a1 a2 a3 a4=> ⟨rfl,p,a1,a2,kat_snds hkl a3,a4⟩) ?_ fun _ _ e=> e)
  rintro ⟨⟨⟩,st'⟩ s3 ⟨rfl,p,hp,hu,hout,hf⟩
  dsimp only
  have hzz: (outOf vs p).size = vs.length:= by unfold outOf;rw [List.size_toArray,List.length_map,Array.length_toList,hp.size]
  have s4:= Heap.SameBut.update s3.heap kS (Obj.mapSeq fun _=> (#[]: Array Value))
  have ga4: (s3.heap.update kS (Obj.mapSeq fun _=> (#[]: Array Value))).get? a = some (seqObj "list" #[] e1):= (s4.2 a hka.symm).trans ga'
  have s5:= Heap.SameBut.update (s3.heap.update kS (Obj.mapSeq fun _=> (#[]: Array Value))) a (Obj.mapSeq fun _=> outOf vs p)
  obtain ⟨c5,hc5⟩: ∃ c5,((s3.heap.update kS (Obj.mapSeq fun _=> (#[]: Array Value))).update a (Obj.mapSeq fun _=> outOf vs p)).get? a = some (seqObj "list" (outOf vs p) c5):= ⟨_,get?_update_seq ga4 fun _=> outOf vs p⟩
  unfold ksk_tail
  dsimp only
  refine wpAny_bind (listUpdate_at gk' rfl ?_ (by rw [List.size_toArray,sizeLine_eq];lia) (Nat.zero_le _))
  refine wpAny_bind (wpAny_letGo ?_)
  refine wpAny_bind (seqEpoch_at ga4 rfl ?_)
  simp only [Bool.false_eq_true,if_false]
  rw [hout]
  refine wpAny_bind (listUpdate_at ga4 rfl ?_ (Nat.zero_le _) (Nat.le_trans (Nat.le_of_eq hzz) (by rw [sizeLine_eq];lia)))
  rw [hf]
  simp only [bne_self_eq_false,Bool.false_eq_true,if_false]
  exact wpAny_pure (h p _ c5 hp hu (m'.trans ⟨rfl,rfl⟩) (hJ _ _ _ a (hJ _ _ _ kS kp' hbk (fun o e=> by obtain rfl:= Option.some.inj (gk'.symm.trans e);exact notImm_seq) s4.extBut) hba (fun o e=> by obtain rfl:= Option.some.inj (ga4.symm.trans e);exact notImm_seq) s5.extBut) hc5)
theorem sorted_key {J: Nat -> Heap -> Prop} {l fa: Addr} {vs: List Value} {Q: Value -> Shared -> Prop} {lt: Nat -> Nat -> Bool} {kp: Nat -> Value -> Prop} (Wk: Weak lt) (hl: s.heap.IsList l vs.toArray) (h2: 2 <= vs.length) (h64: vs.length < 128)
  (hJ: Stable s.heap J) (J0: J 0 s.heap)
  (go: KeyGo prog w A.in1.in1 s.heap (.ref fa) vs J kp)
  (srt: ∀ (ks: List Value) (h: Heap),ks.length = vs.length -> (∀ (i: Nat) k,ks[i]? = some k -> kp i k) -> Sorts (fun _=> True) h ks lt) (hu: A.in1.in1.units <= 9000)
  (h: ∀ p s' D nn,Pre vs.length p vs.length -> Up lt p vs.length -> Sm s s' -> J vs.length s'.heap -> s.heap.get? D = none -> s'.heap.get? D = some (LObj (p.toList.map fun i=> vs.getD i Value.none) nn) -> Q (.ref D) s') :
  wpAny (model prog w) A (call (.builtin "sorted") [.ref l] [(Str.ofString "key",.ref fa)]) Q E s:= by
 refine call_function_entry_kw kind_sorted plain_sorted entry_sorted (ksk_s1 _ _) ?_
 unfold Builtin.«sorted»
 refine wpAny_bind (m:= checkCount "sorted" 1 1 _) (wpAny_pure ?_)
 refine wpAny_bind (collect_list hl ?_)
 refine wpAny_bind (wpAny_newList ?_)
 have hsz: ((s.heap.push (seqObj "list" #[] 0)).update s.heap.objs.size (Obj.mapSeq (· ++ vs.toArray))).objs.size = s.heap.objs.size + 1:= by
  rw [Heap.size_update,size_push']
 have hoL: (((s.heap.push (seqObj "list" #[] 0)).update s.heap.objs.size (Obj.mapSeq (· ++ vs.toArray))).push (seqObj "list" vs.toArray 0)).get? (s.heap.objs.size + 1) = some (seqObj "list" vs.toArray 0):= by
  rw [<- hsz];exact Heap.get?_push_size _ rfl
 have keep: ∀ b o,s.heap.get? b = some o -> (((s.heap.push (seqObj "list" #[] 0)).update s.heap.objs.size (Obj.mapSeq (· ++ vs.toArray))).push (seqObj "list" vs.toArray 0)).get? b = some o:= fun b o q=> by
  have hlt: b < s.heap.objs.size:= Heap.lt_size q
  rw [Heap.get?_push_ne _ _ _ (by rw [hsz];exact Nat.ne_of_lt (Nat.lt_succ_of_lt hlt)),Heap.get?_update_ne _ _ _ _ (Nat.ne_of_lt hlt),Heap.get?_push_ne _ _ _ (Nat.ne_of_lt hlt)]
  exact q
 have nD: s.heap.get? (s.heap.objs.size + 1) = none:= by
  cases q: s.heap.get? (s.heap.objs.size + 1) with
  | none=> rfl
  | some o=> exact absurd (Heap.lt_size q) (Nat.not_lt_of_le (Nat.le_succ _))
 have n0: s.heap.get? s.heap.objs.size = none:= get_push_none _
 have J1:= hJ 0 _ (a:= s.heap.objs.size) J0 n0 (fun o e=> by rw [n0] at e;cases e) (h':= s.heap.push (seqObj "list" #[] 0)) fun b o _ e=> Heap.get?_push_of_some _ e
 have J2:= hJ 0 _ _ s.heap.objs.size J1 n0 (fun o e=> by obtain rfl:= Option.some.inj ((Heap.get?_push_size _ rfl).symm.trans e);exact notImm_seq) (Heap.SameBut.update (s.heap.push (seqObj "list" #[] 0)) s.heap.objs.size (Obj.mapSeq (· ++ vs.toArray))).extBut
 have J3:= hJ 0 _ (a:= s.heap.objs.size + 1) J2 nD (fun o e=> by have:= Heap.lt_size e;rw [hsz] at this;exact absurd this (Nat.lt_irrefl _)) (h':= ((s.heap.push (seqObj "list" #[] 0)).update s.heap.objs.size (Obj.mapSeq (· ++ vs.toArray))).push (seqObj "list" vs.toArray 0)) fun b o _ e=> Heap.get?_push_of_some _ e
 show wpAny _ _ _ _ _ { s with heap:= ((s.heap.push (seqObj "list" #[] 0)).update s.heap.objs.size (Obj.mapSeq (· ++ vs.toArray))).push (seqObj "list" vs.toArray 0) }
 rw [hsz]
 refine wpAny_bind (wpAny_holding (wpAny_call_entry_kw slot_list_sort ⟨_,hoL,rfl⟩ entry_list_sort ?_ (ksk_l1 _ _)))
 show wpAny (model prog w) A.in1.in1 (Builtin.«list.sort» ⟨[.ref (s.heap.objs.size + 1)],[(Str.ofString "key",.ref fa)]⟩) _ _ _
 rw [ksk_t1]
 refine list_sort_key Wk hoL h2 h64 nD keep hJ J3 go srt hu fun p s' nn hp hu ms jj g=> ⟨_,rfl,?_⟩
 exact wpAny_pure ⟨_,rfl,h p s' _ nn hp hu (Sm.trans ⟨rfl,rfl⟩ ms) jj nD g⟩
end
theorem frs_in1 {A: Around} {h₀: Heap} {σ: Hp} {h: Heap} (f: Frs A h₀ σ h): Frs A.in1 h₀ σ h:= ⟨f.go⟩
theorem Room.in1 {A: Around} {n: Nat} (r: Room A n): RoomW A.in1 n:= ⟨r.handled,r.depth,by have:= r.units;show A.units + 1 + 8 * n <= 9000;(exact ar_u6 this),r.env⟩
theorem Room.in2 {A: Around} {n: Nat} (r: Room A n): RoomW A.in1.in1 n:= ⟨r.handled,r.depth,by have:= r.units;show A.units + 1 + 1 + 8 * n <= 9000;(exact ar_u6' this),r.env⟩
noncomputable def JAt (h₀ hb: Heap) (σ: Hp) (St: Nat -> Hp -> Prop) (i: Nat) (h: Heap): Prop:= ∃ σ',St i σ' /\ Step h₀ σ hb σ' h
theorem JAt.stable {h₀ hb: Heap} {σ: Hp} {St: Nat -> Hp -> Prop} (hw: W h₀ σ hb) (dom: ∀ i σ',St i σ' -> ∀ a,σ a = none -> σ' a = none): Stable hb (JAt h₀ hb σ St):= fun i h h' a ⟨σ',hs,st⟩ na ni eb=>
 ⟨σ',hs,st.slip (as:= [a]) (fun b m=> by obtain rfl:= List.mem_singleton.mp m;exact ⟨na,dom i σ' hs _ (hw.fresh na),(beside_one hw na).2.2⟩) (fun b m o e=> by obtain rfl:= List.mem_singleton.mp m;exact ni o e) fun b o m e=> eb b o (fun q=> m (List.mem_singleton.mpr q)) e⟩
theorem key_call {prog: Program} {w: World} {h₀ hb: Heap} {mg: Str -> Option Value} {fns: List Str} {Φ: Fns} {n: Nat} {A: Around} {s: Shared} {σ σ': Hp} {fa: Addr} {o: Obj} {fd: FuncData} {v: Value} {x: V} {Q: V -> Hp -> Prop} (NM: NamesOk prog w h₀ mg n fns Φ) (hw: W h₀ σ hb) (st: Step h₀ σ hb σ' s.heap) (dom: ∀ a,σ a = none -> σ' a = none) (fs: Frs A h₀ σ hb) (R: RoomW A n)
  (e1: hb.get? fa = some o) (e2: o.data = .func fd) (cr: hb.CodeRec fd.code fd.qualname) (rv: Rep s.heap v x) (q: Φ 1000 [.func fd,x] Q σ') :
  wpAny (model prog w) A (call (.ref fa) [v]) (fun k s'=> Sm s s' /\ Priv hb s.heap s'.heap /\ ∃ y σ'',Rep s'.heap k y /\ Step h₀ σ' s.heap σ'' s'.heap /\ Q y σ'') (fun _ _=> False) s:= by
 refine wpAny_mono (NM.cv fd A s σ' fa o ⟨[v],[]⟩ [v] [x] Q (st.tups _ _ e1 (.inr (.inr (.inl ⟨_,e2⟩)))) e2 (st.tups.code cr) (fun _ h=> h) R (fs.step st) st.w (.cons rv .nil) q) (fun k s' ⟨z,σ'',rz,⟨st2,m⟩,qz⟩=> ?_) fun _ _ f=> f
 exact ⟨m,fun b o nb d e=> st2.keeps b o (none_mut (dom _ (hw.fresh nb))) d e,z,σ'',rz,st2,qz⟩
inductive SortK (Φ: Fns) (Q: V -> Hp -> Prop) (x k: V) (σ: Hp): Prop
 | mk (a: Addr) (xs ks: List V) (lt: Nat -> Nat -> Bool) (fd: FuncData) (St: Nat -> Hp -> Prop) (h1: x = .ref a) (h2: listAt σ a = some xs) (h3: Weak lt) (h4: 2 <= xs.length) (h5: xs.length < 128) (h6: k = .func fd) (h7: ks.length = xs.length) (h8: ∀ y ∈ ks,y.flat) (h9: St 0 σ) (h10: ∀ i σ',St i σ' -> ∀ a,σ a = none -> σ' a = none)
   (h11: ∀ (i: Nat) x y σ',xs[i]? = some x -> ks[i]? = some y -> St i σ' -> Φ 1000 [.func fd,x] (fun v τ=> v = y /\ St (i + 1) τ) σ') (h12: ∀ (h: Heap) (vs: List Value),Reps h vs ks -> Sorts (fun _=> True) h vs lt)
   (h13: ∀ p: Array Nat,Pre xs.length p xs.length -> Up lt p xs.length -> ∀ σ',St xs.length σ' -> newL (p.toList.map fun i=> xs.getD i .none) Q σ'): SortK Φ Q x k σ
noncomputable def PE.sortk (a k: PE): PE:= .of fun Φ Q F σ=> vE Φ a (fun x σ=> vE Φ k (fun kv σ=> SortK Φ Q x kv σ) F σ) F σ
theorem e_sortk (Φ: Fns) (Q: V -> Hp -> Prop) (F: Frm) (σ: Hp) (a k: PE): vE Φ (.sortk a k) Q F σ = vE Φ a (fun x σ=> vE Φ k (fun kv σ=> SortK Φ Q x kv σ) F σ) F σ:= rfl
theorem sorted_boot: bootBuiltins ("sorted": Str) = some (.builtin "sorted"):= by decide +kernel
theorem CE.sortk {c: Cfg} {p q kp: Pos} {x: Str} {e1 e2: Expr} {a k: PE} (hx: x = "sorted") (hk: c.sc.lookup x = some .globalImplicit) (h1: CE c e1 a) (hst: ∀ env,starEach [e1] env = [(false,eval e1 env)]) (h2: CE c e2 k): CE c (.Call (.Name x p) [e1] [⟨some "key",e2,kp⟩] q) (.sortk a k):= by
 intro prog w h₀ mg mb Φ n A s σ env own F Q X v
 subst hx
 refine Call_NameK (load_glob (v:= Value.builtin "sorted") X.G X.w X.f hk (by decide) (.inr ⟨X.NM.fr _ (by decide +kernel),(X.G.boot _ (by decide)).trans sorted_boot⟩) ?_)
 refine callWith_builtin_kwB (first:= []) ?_ rfl ?_
 ·rw [hst env];rfl
 rw [hst env]
 refine evalArgs_kwB rfl (Calls.spliced_cons (wpAny_mono (h1 X v) (fun vx s₁=> PV.on fun x σ₁ rx st m₁ v2=> Calls.spliced_nil ?_) fun _ _ f=> f))
 refine kws_cons (wpAny_mono (h2 (X.step st) v2) (fun vk s₂=> PV.on fun kv σ₂ rk st₂ m₂ q₂=> kws_nil ?_) fun _ _ f=> f)
 obtain ⟨b,xs,ks,lt,fd,St,rfl,el,Wk,hl2,h64,rfl,hkl,hfl,h0,dom,hc,hs,hn⟩:= q₂
 obtain rfl:= (rx.step st₂).iref
 have hw:= st₂.w
 obtain ⟨vs,hl,r⟩:= hw.list el
 have hlen:= r.length
 have X2:= (X.step st).step st₂
 obtain ⟨fa,o,rfl,e1,e2,cr⟩:= rk.ifunc
 show wpAny (model prog w) A (PySem.call (.builtin "sorted") [.ref b] [(Str.ofString "key",.ref fa)]) _ _ _
 refine wpAny_mono (Q:= PV h₀ σ₂ s₂ Q) ?_ (fun _ _ pv=> pv.back (st.trans st₂) (m₁.trans m₂)) fun _ _ f=> f
 have kr: ∀ (ws: List Value),ws.length = vs.length -> (∀ (i: Nat) k,ws[i]? = some k -> ∃ y,ks[i]? = some y /\ ∀ h,Rep h k y) -> ∀ h,Reps h ws ks:= fun ws hz hg h=> reps_of_get (by lia) fun j v x ev ex=> by
  obtain ⟨y,ey,ry⟩:= hg j v ev
  rw [ex] at ey;cases ey;exact ry _
 refine sorted_key (J:= JAt h₀ s₂.heap σ₂ St) (lt:= lt) (kp:= fun i k=> ∃ y,ks[i]? = some y /\ ∀ h,Rep h k y) Wk hl (by exact le_of_le_of_eq hl2 (id (Eq.symm hlen))) (by exact lt_of_eq_of_lt hlen h64) (JAt.stable hw dom) ⟨σ₂,h0,.refl hw⟩ (fun i v s3 ev ⟨σ3,h3,st3⟩=> ?_) (fun ws h hz hg=> hs h ws (kr ws hz hg h)) (by have:= X.R.units;show A.units + 1 + 1 <= 9000;(exact ar_u5 this)) fun p s3 D nn hp hu ms ⟨σ3,h3,st3⟩ nD g=> ?_
 ·obtain ⟨x,ex,rx⟩:= r.getRev ev
  have hi:= (List.getElem?_eq_some_iff.mp ex).1
  obtain ⟨y,ey⟩: ∃ y,ks[i]? = some y:= ⟨_,List.getElem?_eq_getElem (by exact Nat.lt_of_lt_of_eq hi (id (Eq.symm hkl)))⟩
  refine wpAny_mono (key_call X.NM hw st3 (dom _ _ h3) (frs_in1 (frs_in1 X2.fs)) X.R.in2 e1 e2 cr (rx.step st3) (hc i x y σ3 ex ey h3)) (fun k s4 ⟨m4,p4,z,σ4,rz,st4,ez,h4⟩=> ?_) fun _ _ f=> f
  subst ez
  exact ⟨m4,⟨σ4,h4,st3.trans st4⟩,p4,z,ey,fun h=> flat_rep (hfl z (List.mem_of_getElem? ey)) rz⟩
 ·rw [hlen] at hp hu h3
  have qq:= hn p hp hu σ3 h3
  have hD: Holds s3.heap D (.list (p.toList.map fun i=> xs.getD i .none)):= ⟨_,nn,g,(reps_pick r _ (pre_lt hp)).step st3⟩
  have wD:= st3.w.adopt (beside_one hw nD).2.2 hD qq.1
  refine ⟨_,_,.ref D,⟨⟨wD,st3.keep,st3.dict,fun a=> ?_,st3.tups,st3.alive⟩,ms⟩,qq.2 D (dom _ _ h3 _ (hw.fresh nD))⟩
  by_cases qa: a = D
  ·subst qa;exact ⟨fun _=> .inr nD,fun _=> .inr nD⟩
  ·have:= st3.grow a
   unfold Mut at this ⊢
   rw [upd_ne _ _ qa];exact this
theorem RowSt.itS {σ: Hp} {ita l: Addr} {xs: List V} {St: Nat -> Hp -> Prop} (RS: RowSt σ ita l xs St) {i: Nat} {σ': Hp} {x: V} (h: St i σ') (e: xs[i]? = some x): itStep σ' ita = some (some x,upd σ' ita (.iter (some l) (i + 1))):= by
 obtain ⟨zs,e1,e2⟩:= RS.row i σ' h
 unfold itStep
 rw [RS.it i σ' h]
 simp only [e1,e2,e]
theorem RowSt.itN {σ: Hp} {ita l: Addr} {xs: List V} {St: Nat -> Hp -> Prop} (RS: RowSt σ ita l xs St) {i: Nat} {σ': Hp} (h: St i σ') (e: xs[i]? = none): itStep σ' ita = some (none,upd σ' ita (.iter none i)):= by
 obtain ⟨zs,e1,e2⟩:= RS.row i σ' h
 unfold itStep
 rw [RS.it i σ' h]
 simp only [e1,e2,e]
section
variable {prog: Program} {w: World} {A: Around} {R: Result -> Shared -> Prop}
structure MinS (h₀ hb: Heap) (σ: Hp) (St: Nat -> Hp -> Prop) (S: Addr) (j: Nat) (best: List Value) (h: Heap): Prop where
 j: JAt h₀ hb σ St j h
 best: ∃ c,h.get? S = some (bestObj best c)
theorem MinS.put {h₀ hb: Heap} {σ: Hp} {St: Nat -> Hp -> Prop} {S: Addr} {j: Nat} {best best': List Value} {h: Heap} (hJ: Stable hb (JAt h₀ hb σ St)) (bS: hb.get? S = none) (x: MinS h₀ hb σ St S j best h): MinS h₀ hb σ St S j best' (h.update S (Obj.mapSeq fun _=> best'.toArray)):= by
 obtain ⟨c,eS⟩:= x.best
 exact ⟨hJ _ _ _ S x.j bS (fun o e=> by obtain rfl:= Option.some.inj (eS.symm.trans e);exact seq_not_imm rfl rfl) (Heap.SameBut.update ..).extBut,LObj.update eS fun _=> best'.toArray⟩
structure MinP (prog: Program) (w: World) (A: Around) (h₀ hb: Heap) (σ: Hp) (ita l S fa: Addr) (xs: List V) (St: Nat -> Hp -> Prop) (kp: Nat -> Value -> Prop) (lt: Nat -> Nat -> Bool): Prop where
 hh: A.in1.handled = none
 wb: W h₀ σ hb
 RS: RowSt σ ita l xs St
 bS: hb.get? S = none
 fl: ∀ x ∈ xs,x.flat
 key: ∀ (i: Nat) (x: V) (σ': Hp) (v: Value) (s: Shared),xs[i]? = some x -> St i σ' -> Step h₀ σ hb (upd σ' ita (.iter (some l) (i + 1))) s.heap -> Rep s.heap v x ->
  wpAny (model prog w) A.in1 (call (.ref fa) [v]) (fun k s'=> Sm s s' /\ JAt h₀ hb σ St (i + 1) s'.heap /\ Priv hb s.heap s'.heap /\ kp i k) (fun _ _=> False) s
 cmp: ∀ (s': Shared) (i j: Nat) (ki kj: Value),kp i ki -> kp j kj -> LtAt A.in1 s' ki kj (lt i j)
theorem min_loop {h₀ hb: Heap} {σ: Hp} {ita l S fa: Addr} {xs: List V} {St: Nat -> Hp -> Prop} {kw: List (Str × Value)} {kp: Nat -> Value -> Prop} {lt: Nat -> Nat -> Bool} (P: MinP prog w A h₀ hb σ ita l S fa xs St kp lt) :
  ∀ (k j: Nat) (s: Shared) (vb kb: Value) (xb: V),xs.length - (j + 1) = k -> j + 1 <= xs.length -> MinS h₀ hb σ St S (j + 1) [vb,kb] s.heap -> xs[argBest lt j]? = some xb -> (∀ h,Rep h vb xb) -> kp (argBest lt j) kb ->
  (∀ v x σ' s',xs[argBest lt (xs.length - 1)]? = some x -> (∀ h,Rep h v x) -> St xs.length σ' -> Sm s s' -> Step h₀ σ hb (upd σ' ita (.iter none xs.length)) s'.heap -> R (.ok (.ret v)) s') ->
  codeAny (model prog w) A (.builtin "min.loop" ⟨[.ref ita,.ref fa,.ref S],kw⟩) R s:= by
 have hname: (toString "min" ++ toString ".loop": String) = "min.loop":= by decide
 have hJ:= JAt.stable P.wb P.RS.dom
 intro k
 induction k with
 | zero=>
  intro j s vb kb xb hk hj M hvb rvb hkb hR
  have hin: j + 1 = xs.length:= by exact ar_k25 hk hj
  obtain ⟨c,gS⟩:= M.best
  obtain ⟨σ',h',st⟩:= M.j
  refine codeAny_builtin PySem.F.entry_min_loop ?_
  rw [Around.under_plainId PySem.F.plain_min_loop _]
  show wpAny _ A.in1 (seqItems? (.ref S) >>= _) _ _ s
  refine wpAny_bind (wpAny_seqItems gS rfl ?_)
  show wpAny _ A.in1 (tryCatch (pyNext (.ref ita)) _ >>= _) _ _ s
  refine wpAny_bind (wpAny_tryCatch (itStep_none P.hh st.w (P.RS.itN h' (List.getElem?_eq_none_iff.mpr (Nat.le_of_eq hin.symm))) fun s1 st1 m1=> ?_))
  have nS: σ' S = none:= P.RS.dom _ _ h' _ (P.wb.fresh P.bS)
  have hS': s1.heap.get? S = some (bestObj [vb,kb] c):= st1.keeps S _ (none_mut nS) (fun ⟨es,k,q⟩=> by cases q) gS
  show wpAny _ A.in1 (updateSeq S (fun _=> #[]) >>= _) _ _ _
  refine wpAny_bind ?_
  refine wpAny_updateSeq hS' rfl (wpAny_bind (wpAny_letGo (wpAny_pure ?_)))
  have nS2: upd σ' ita (.iter Option.none (j + 1)) S = none:= by
   rw [upd_ne _ _ (by rintro rfl;rw [P.RS.it _ _ h'] at nS;cases nS)];exact nS
  have st2:= (st.trans st1).slip (as:= [S]) (h':= s1.heap.update S (Obj.mapSeq fun _=> (#[]: Array Value))) (fun b m=> by obtain rfl:= List.mem_singleton.mp m;exact ⟨P.bS,nS2,(beside_one P.wb P.bS).2.2⟩) (fun b m o e=> by obtain rfl:= List.mem_singleton.mp m;obtain rfl:= Option.some.inj (hS'.symm.trans e);exact seq_not_imm rfl rfl) fun b o m e=> (Heap.SameBut.update ..).extBut b o (fun q=> m (List.mem_singleton.mpr q)) e
  rw [hin] at st2 h'
  exact hR vb xb σ' _ (by rw [<- hin];exact hvb) rvb h' (m1.trans ⟨rfl,rfl⟩) st2
 | succ k ih=>
  intro j s vb kb xb hk hj M hvb rvb hkb hR
  have hlt: j + 1 < xs.length:= by exact Nat.lt_of_sub_eq_succ hk
  obtain ⟨c,gS⟩:= M.best
  obtain ⟨σ',h',st⟩:= M.j
  refine codeAny_builtin PySem.F.entry_min_loop ?_
  rw [Around.under_plainId PySem.F.plain_min_loop _]
  show wpAny _ A.in1 (seqItems? (.ref S) >>= _) _ _ s
  refine wpAny_bind (wpAny_seqItems gS rfl ?_)
  show wpAny _ A.in1 (tryCatch (pyNext (.ref ita)) _ >>= _) _ _ s
  obtain ⟨x,ex⟩: ∃ x,xs[j + 1]? = some x:= ⟨_,List.getElem?_eq_getElem hlt⟩
  have fx:= P.fl x (List.mem_of_getElem? ex)
  refine wpAny_bind (wpAny_tryCatch (itStep_some st.w (P.RS.itS h' ex) fun v s1 rv st1 m1=> ?_))
  have nS: σ' S = none:= P.RS.dom _ _ h' _ (P.wb.fresh P.bS)
  have gS1: s1.heap.get? S = some (bestObj [vb,kb] c):= st1.keeps S _ (none_mut nS) (fun ⟨es,k,q⟩=> by cases q) gS
  show wpAny _ A.in1 (tryCatch (holding [v] (call (.ref fa) [v])) _ >>= _) _ _ _
  refine wpAny_bind (wpAny_tryCatch (wpAny_holding (wpAny_mono (P.key (j + 1) x σ' v s1 ex h' (st.trans st1) rv) (fun val s'' ⟨m2,j2,p2,hval⟩=> ?_) fun _ _ f=> f.elim)))
  have gS2:= p2 _ _ P.bS (fun ⟨es,k,q⟩=> by cases q) gS1
  have M2: MinS h₀ hb σ St S (j + 1 + 1) [vb,kb] s''.heap:= ⟨j2,c,gS2⟩
  show wpAny _ A.in1 (tryCatch (holding [v,val] (richCompare .Lt val kb >>= _)) _ >>= _) _ _ _
  refine wpAny_bind (wpAny_tryCatch (wpAny_holding (wpAny_bind (P.cmp s'' (j + 1) (argBest lt j) _ _ hval hkb prog w _ _ ?_))))
  refine wpAny_bind (wpAny_holding (wpAny_truthy_bool ?_))
  refine wpAny_bind (wpAny_letGo (wpAny_pure ?_))
  cases hg: lt (j + 1) (argBest lt j) with
  | true=>
   simp only [if_true]
   refine wpAny_bind ?_
   refine wpAny_updateSeq gS2 rfl (wpAny_bind (wpAny_letGo ?_))
   rw [hname]
   exact wpAny_pure ⟨plainId_quiet PySem.F.plain_min_loop _,ih (j + 1) _ v val x (by exact ar_step hk) hlt (M2.put (best':= [v,val]) hJ P.bS) (by simp only [argBest,hg,if_true];exact ex) (fun h=> flat_rep fx rv) (by simp only [argBest,hg,if_true];exact hval) fun v' x' σ3 s3 a1 a2 a3 a4 a5=> hR v' x' σ3 s3 a1 a2 a3 ((m1.trans m2).trans (Sm.trans ⟨rfl,rfl⟩ a4)) a5⟩
  | false=>
   simp only [Bool.false_eq_true,if_false]
   refine wpAny_bind (wpAny_letGo ?_)
   rw [hname]
   exact wpAny_pure ⟨plainId_quiet PySem.F.plain_min_loop _,ih (j + 1) _ vb kb xb (by exact ar_step hk) hlt M2 (by simp only [argBest,hg,Bool.false_eq_true,if_false];exact hvb) rvb (by simp only [argBest,hg,Bool.false_eq_true,if_false];exact hkb) fun v' x' σ3 s3 a1 a2 a3 a4 a5=> hR v' x' σ3 s3 a1 a2 a3 ((m1.trans m2).trans a4) a5⟩
theorem min_first {h₀ hb: Heap} {σ: Hp} {ita l S fa: Addr} {xs: List V} {St: Nat -> Hp -> Prop} {kw: List (Str × Value)} {kp: Nat -> Value -> Prop} {lt: Nat -> Nat -> Bool} (P: MinP prog w A h₀ hb σ ita l S fa xs St kp lt)
  {s: Shared} (hlt: 0 < xs.length) (M: MinS h₀ hb σ St S 0 [] s.heap)
  (hR: ∀ v x σ' s',xs[argBest lt (xs.length - 1)]? = some x -> (∀ h,Rep h v x) -> St xs.length σ' -> Sm s s' -> Step h₀ σ hb (upd σ' ita (.iter none xs.length)) s'.heap -> R (.ok (.ret v)) s') :
  codeAny (model prog w) A (.builtin "min.loop" ⟨[.ref ita,.ref fa,.ref S],kw⟩) R s:= by
 have hname: (toString "min" ++ toString ".loop": String) = "min.loop":= by decide
 have hJ:= JAt.stable P.wb P.RS.dom
 obtain ⟨c,gS⟩:= M.best
 obtain ⟨σ',h',st⟩:= M.j
 refine codeAny_builtin PySem.F.entry_min_loop ?_
 rw [Around.under_plainId PySem.F.plain_min_loop _]
 show wpAny _ A.in1 (seqItems? (.ref S) >>= _) _ _ s
 refine wpAny_bind (wpAny_seqItems gS rfl ?_)
 show wpAny _ A.in1 (tryCatch (pyNext (.ref ita)) _ >>= _) _ _ s
 obtain ⟨x,ex⟩: ∃ x,xs[0]? = some x:= ⟨_,List.getElem?_eq_getElem hlt⟩
 have fx:= P.fl x (List.mem_of_getElem? ex)
 refine wpAny_bind (wpAny_tryCatch (itStep_some st.w (P.RS.itS h' ex) fun v s1 rv st1 m1=> ?_))
 have nS: σ' S = none:= P.RS.dom _ _ h' _ (P.wb.fresh P.bS)
 have gS1: s1.heap.get? S = some (bestObj [] c):= st1.keeps S _ (none_mut nS) (fun ⟨es,k,q⟩=> by cases q) gS
 show wpAny _ A.in1 (tryCatch (holding [v] (call (.ref fa) [v])) _ >>= _) _ _ _
 refine wpAny_bind (wpAny_tryCatch (wpAny_holding (wpAny_mono (P.key 0 x σ' v s1 ex h' (st.trans st1) rv) (fun val s'' ⟨m2,j2,p2,hval⟩=> ?_) fun _ _ f=> f.elim)))
 have gS2:= p2 _ _ P.bS (fun ⟨es,k,q⟩=> by cases q) gS1
 have M2: MinS h₀ hb σ St S (0 + 1) [] s''.heap:= ⟨j2,c,gS2⟩
 show wpAny _ A.in1 (updateSeq S (fun _=> #[v,val]) >>= _) _ _ _
 refine wpAny_bind ?_
 refine wpAny_updateSeq gS2 rfl ?_
 rw [hname]
 exact wpAny_pure ⟨plainId_quiet PySem.F.plain_min_loop _,min_loop P _ 0 _ v val x rfl (by exact Nat.succ_le_of_lt hlt) (M2.put (best':= [v,val]) hJ P.bS) ex (fun h=> flat_rep fx rv) hval fun v' x' σ3 s3 a1 a2 a3 a4 a5=> hR v' x' σ3 s3 a1 a2 a3 ((m1.trans m2).trans (Sm.trans ⟨rfl,rfl⟩ a4)) a5⟩
end
theorem args_min_dk (a d k: Value): argsOk "min" ⟨[a],[(Str.ofString "default",d),(Str.ofString "key",k)]⟩:= by unfold argsOk;kernel_rfl
inductive MinK (Φ: Fns) (Q: V -> Hp -> Prop) (x k: V) (σ: Hp): Prop
 | mk (ita l: Addr) (xs ks: List V) (lt: Nat -> Nat -> Bool) (fd: FuncData) (St: Nat -> Hp -> Prop) (h1: x = .ref ita) (h2: RowSt σ ita l xs St) (h3: St 0 σ) (h4: 0 < xs.length) (h5: k = .func fd) (h6: ks.length = xs.length) (h7: ∀ x ∈ xs,x.flat) (h8: ∀ y ∈ ks,y.flat)
   (h9: ∀ (i: Nat) x y σ',xs[i]? = some x -> ks[i]? = some y -> St i σ' -> Φ 1000 [.func fd,x] (fun v τ=> v = y /\ St (i + 1) τ) (upd σ' ita (.iter (some l) (i + 1))))
   (h10: ∀ (A: Around) (s': Shared) (i j: Nat) (ki kj: Value) (yi yj: V),A.units <= 9100 -> ks[i]? = some yi -> ks[j]? = some yj -> (∀ h,Rep h ki yi) -> (∀ h,Rep h kj yj) -> LtAt A s' ki kj (lt i j))
   (h11: ∀ y σ',xs[argBest lt (xs.length - 1)]? = some y -> St xs.length σ' -> Q y (upd σ' ita (.iter none xs.length))): MinK Φ Q x k σ
noncomputable def PE.mink (a d k: PE): PE:= .of fun Φ Q F σ=> vE Φ a (fun x σ=> vE Φ d (fun _ σ=> vE Φ k (fun kv σ=> MinK Φ Q x kv σ) F σ) F σ) F σ
theorem e_mink (Φ: Fns) (Q: V -> Hp -> Prop) (F: Frm) (σ: Hp) (a d k: PE): vE Φ (.mink a d k) Q F σ = vE Φ a (fun x σ=> vE Φ d (fun _ σ=> vE Φ k (fun kv σ=> MinK Φ Q x kv σ) F σ) F σ) F σ:= rfl
theorem min_boot: bootBuiltins ("min": Str) = some (.builtin "min"):= by decide +kernel
theorem CE.mink {c: Cfg} {p q kp1 kp2: Pos} {x: Str} {e1 e2 e3: Expr} {a d k: PE} (hx: x = "min") (hk: c.sc.lookup x = some .globalImplicit) (h1: CE c e1 a) (hst: ∀ env,starEach [e1] env = [(false,eval e1 env)]) (h2: CE c e2 d) (h3: CE c e3 k) :
  CE c (.Call (.Name x p) [e1] [⟨some "default",e2,kp1⟩,⟨some "key",e3,kp2⟩] q) (.mink a d k):= by
 intro prog w h₀ mg mb Φ n A s σ env own F Q X v
 subst hx
 refine Call_NameK (load_glob (v:= Value.builtin "min") X.G X.w X.f hk (by decide) (.inr ⟨X.NM.fr _ (by decide +kernel),(X.G.boot _ (by decide)).trans min_boot⟩) ?_)
 refine callWith_builtin_kwB (first:= []) ?_ rfl ?_
 ·rw [hst env];rfl
 rw [hst env]
 refine evalArgs_kwB rfl (Calls.spliced_cons (wpAny_mono (h1 X v) (fun vx s₁=> PV.on fun x σ₁ rx st m₁ v2=> Calls.spliced_nil ?_) fun _ _ f=> f))
 refine kws_cons (wpAny_mono (h2 (X.step st) v2) (fun vd s₂=> PV.on fun dv σ₂ rd st₂ m₂ v3=> ?_) fun _ _ f=> f)
 refine kws_cons (wpAny_mono (h3 ((X.step st).step st₂) v3) (fun vk s₃=> PV.on fun kv σ₃ rk st₃ m₃ q₃=> kws_nil ?_) fun _ _ f=> f)
 obtain ⟨ita,l,xs,ks,lt,fd,St,rfl,RS,h0,hpos,rfl,hkl,hfx,hfl,hc,hs,hq⟩:= q₃
 obtain rfl:= (rx.step (st₂.trans st₃)).iref
 have hw:= st₃.w
 have X3:= ((X.step st).step st₂).step st₃
 have ei:= RS.it _ _ h0
 obtain ⟨fa,o,rfl,e1,e2,cr⟩:= rk.ifunc
 have hname: (toString "min" ++ toString ".loop": String) = "min.loop":= by decide
 show wpAny (model prog w) A (PySem.call (.builtin "min") [.ref ita] [(Str.ofString "default",vd),(Str.ofString "key",.ref fa)]) _ _ _
 refine wpAny_mono (Q:= PV h₀ σ₃ s₃ Q) ?_ (fun _ _ pv=> pv.back ((st.trans st₂).trans st₃) ((m₁.trans m₂).trans m₃)) fun _ _ f=> f
 have hu: A.units <= 9000:= by have:= X.R.units;(exact ar_u2 this)
 refine kmk_tree PySem.F.kind_min PySem.F.plain_min PySem.F.entry_min (args_min_dk _ _ _) ?_
 show wpAny _ A.in1 (Builtin.Builtins.bindParams "min" ["key","default"] 0 ⟨[],[(Str.ofString "default",vd),(Str.ofString "key",.ref fa)]⟩ >>= _) _ _ s₃
 refine wpAny_bind (wpAny_of_eq (show Builtin.Builtins.bindParams "min" ["key","default"] 0 ⟨[],[(Str.ofString "default",vd),(Str.ofString "key",.ref fa)]⟩ = pure [some (.ref fa),some vd] from rfl) ?_)
 refine wpAny_bind (wpAny_pure ?_)
 refine wpAny_bind (iter_self hw ei ?_)
 refine wpAny_bind (wpAny_newList ?_ (Nat.zero_le _))
 rw [hname]
 refine wpAny_pure ⟨plainId_quiet PySem.F.plain_min_loop _,?_⟩
 have bS: s₃.heap.get? s₃.heap.objs.size = Option.none:= get_push_none _
 have P: MinP prog w A h₀ s₃.heap σ₃ ita l s₃.heap.objs.size fa xs St (fun i k=> ∃ y,ks[i]? = some y /\ ∀ h,Rep h k y) lt:= by
  refine ⟨X.R.handled,hw,RS,bS,hfx,fun i x σ' v s4 ex h' st4 rv=> ?_,fun s' i j ki kj ⟨yi,b1,b2⟩ ⟨yj,b3,b4⟩=> hs A.in1 s' i j ki kj yi yj (by show A.units + 1 <= 9100;lia) b1 b3 b2 b4⟩
  have hi:= (List.getElem?_eq_some_iff.mp ex).1
  obtain ⟨y,ey⟩: ∃ y,ks[i]? = some y:= ⟨_,List.getElem?_eq_getElem (by exact Nat.lt_of_lt_of_eq hi (id (Eq.symm hkl)))⟩
  have dom: ∀ a,σ₃ a = Option.none -> upd σ' ita (.iter (some l) (i + 1)) a = Option.none:= fun a e=> by
   rw [upd_ne _ _ (by rintro rfl;rw [ei] at e;cases e)];exact RS.dom _ _ h' _ e
  refine wpAny_mono (key_call X.NM hw st4 dom (frs_in1 X3.fs) X.R.in1 e1 e2 cr rv (hc i x y σ' ex ey h')) (fun k s5 ⟨m4,p4,z,σ4,rz,st5,ez,h5⟩=> ?_) fun _ _ f=> f
  subst ez
  exact ⟨m4,⟨σ4,h5,st4.trans st5⟩,p4,z,ey,fun h=> flat_rep (hfl z (List.mem_of_getElem? ey)) rz⟩
 refine min_first P hpos ⟨(JAt.stable hw RS.dom) 0 s₃.heap _ s₃.heap.objs.size ⟨σ₃,h0,.refl hw⟩ bS (fun o e=> by rw [bS] at e;cases e) fun b o _ e=> Heap.get?_push_of_some _ e,⟨0,Heap.get?_push_size _ rfl⟩⟩ fun v x σ' s' hv rv h' hm st4=> ?_
 exact ⟨x,_,rv _,⟨st4,Sm.trans ⟨rfl,rfl⟩ hm⟩,hq x σ' hv h'⟩
noncomputable def ps_ns: List PS:= [.ifs (.cmp .Eq (.var 0) (.int 1)) [.assign (.name 3) (.call .iter [(.var 1)]),.assign (.name 4) (.call .object []),.assign (.name 5) (.mink (.var 3) (.var 4) (.var 2)),.ret (.ite (.cmp .Is (.var 5) (.var 4)) (.list []) (.list [(.var 5)]))] [],.tryLen 6 1 [.ifs (.cmp .GtE (.var 0) (.var 6)) [.ret (.slice (.sortk (.var 1) (.var 2)) none (some (.var 0)) none)] []],.ifs (.cmp .Is (.var 2) .none) [.assign (.name 3) (.call .iter [(.var 1)]),.zipc 5 [none,none,none] 1 2 [(.var 2),(.var 1)] (.call .range [(.var 0)]) (.var 3),.ifs (.not (.var 5)) [.ret (.var 5)] [],.expr (.ucall 3 [(.var 5)]),.assign (.name 8) (.sub (.sub (.var 5) (.int 0)) (.int 0)),.assign (.name 9) (.var 0),.assign (.name 10) (.gfn 2),.forx 7 (.var 3) [.ifs (.cmp .Lt (.var 7) (.var 8)) [.expr (.vcall 10 [(.var 5),(.tuple [(.var 7),(.var 9)])]),.assign (.tup [8,11]) (.sub (.var 5) (.int 0)),.aug 9 .Add (.int 1)] []],.expr (.meth .sort (.var 5) []),.ret (.comp [none,none,none] (.var 1) (.tup [1,2]) .plain (.var 5) [])] [],.assign (.name 3) (.call .iter [(.var 1)]),.zipc 5 [none,none,none,some 2] 1 2 [(.vcall 3 [(.var 2)]),(.var 1),(.var 2)] (.call .range [(.var 0)]) (.var 3),.ifs (.not (.var 5)) [.ret (.var 5)] [],.expr (.ucall 3 [(.var 5)]),.assign (.name 8) (.sub (.sub (.var 5) (.int 0)) (.int 0)),.assign (.name 9) (.var 0),.assign (.name 10) (.gfn 2),.forx 7 (.var 3) [.assign (.name 12) (.vcall 2 [(.var 7)]),.ifs (.cmp .Lt (.var 12) (.var 8)) [.expr (.vcall 10 [(.var 5),(.tuple [(.var 12),(.var 9),(.var 7)])]),.assign (.tup [8,11,13]) (.sub (.var 5) (.int 0)),.aug 9 .Add (.int 1)] []],.expr (.meth .sort (.var 5) []),.ret (.comp [none,none,none,none] (.var 3) (.tup [1,2,3]) .plain (.var 5) [])]
section
variable {α: Type}
noncomputable def upF (lt: α -> α -> Bool) (s: Nat) (x: α) (ns: List α) (p: Nat): List α:=
 if h: s < p then
  if lt (ns.getD ((p - 1) / 2) x) x then upF lt s x (ns.set p (ns.getD ((p - 1) / 2) x)) ((p - 1) / 2) else ns.set p x
 else ns.set p x
termination_by p
decreasing_by exact ar_par h
noncomputable def kid (lt: α -> α -> Bool) (x: α) (ns: List α) (p: Nat): Nat:=
 if 2 * p + 2 < ns.length /\ lt (ns.getD (2 * p + 2) x) (ns.getD (2 * p + 1) x) = false then 2 * p + 2 else 2 * p + 1
theorem kid_gt (lt: α -> α -> Bool) (x: α) (ns: List α) (p: Nat): p < kid lt x ns p:= by
 unfold kid;split
 ·exact ar_kid (.inr rfl)
 ·exact ar_kid (.inl rfl)
theorem kid_lt (lt: α -> α -> Bool) (x: α) (ns: List α) (p: Nat) (h: 2 * p + 1 < ns.length): kid lt x ns p < ns.length:= by
 unfold kid;split
 ·rename_i q;exact q.1
 ·exact h
noncomputable def downF (lt: α -> α -> Bool) (x: α) (ns: List α) (p: Nat): List α × Nat:=
 if h: 2 * p + 1 < ns.length then downF lt x (ns.set p (ns.getD (kid lt x ns p) x)) (kid lt x ns p) else (ns,p)
termination_by ns.length - p
decreasing_by
 have:= kid_gt lt x ns p
 simp only [List.length_set];(exact ar_kd h this)
noncomputable def siftF (lt: α -> α -> Bool) (ns: List α) (p: Nat) (x: α): List α:=
 upF lt p x ((downF lt x ns p).1.set (downF lt x ns p).2 x) (downF lt x ns p).2
theorem upF_length (lt: α -> α -> Bool) (s: Nat) (x: α): ∀ (p: Nat) (ns: List α),(upF lt s x ns p).length = ns.length:= by
 intro p
 induction p using Nat.strongRecOn with
 | ind p ih=>
  intro ns
  rw [upF];split
  ·split
   ·rw [ih _ (by (expose_names;exact ar_par h))];simp
   ·simp
  ·simp
theorem downF_length (lt: α -> α -> Bool) (x: α): ∀ (k: Nat) (ns: List α) (p: Nat),ns.length - p <= k -> (downF lt x ns p).1.length = ns.length /\ (p < ns.length -> (downF lt x ns p).2 < ns.length) /\ p <= (downF lt x ns p).2:= by
 intro k
 induction k with
 | zero=>
  intro ns p h
  rw [downF];split
  ·rename_i h2;exact absurd h2 (ar_end2 h)
  ·exact ⟨rfl,fun h=> h,Nat.le_refl _⟩
 | succ k ih=>
  intro ns p h
  have g:= kid_gt lt x ns p
  rw [downF];split
  ·rename_i hc
   have l:= kid_lt lt x ns p hc
   have:= ih (ns.set p (ns.getD (kid lt x ns p) x)) (kid lt x ns p) (by simp only [List.length_set];(exact ar_down h g))
   simp only [List.length_set] at this
   exact ⟨this.1,fun _=> this.2.1 l,by lia⟩
  ·exact ⟨rfl,fun h=> h,Nat.le_refl _⟩
theorem getD_mem {ns: List α} {k: Nat} {x: α} (h: k < ns.length): ns.getD k x ∈ ns:= by
 rw [List.getD_eq_getElem?_getD,List.getElem?_eq_getElem h];exact List.getElem_mem h
theorem mem_set {ns: List α} {k: Nat} {x y: α} (h: y ∈ ns.set k x): y ∈ ns \/ y = x:= List.mem_or_eq_of_mem_set h
noncomputable def LtOn (σ: Hp) (a: Addr) (f: α -> V) (lt: α -> α -> Bool) (P: α -> Prop): Prop:=
 ∀ x y,P x -> P y -> ∀ (ys: List V) (Q: V -> Hp -> Prop),Q (.bool (lt x y)) (upd σ a (.list ys)) -> opCmp .Lt (f x) (f y) Q (upd σ a (.list ys))
theorem LtOn.upd {σ: Hp} {a: Addr} {f: α -> V} {lt: α -> α -> Bool} {P: α -> Prop} (h: LtOn σ a f lt P) (xs: List V): LtOn (upd σ a (.list xs)) a f lt P:= fun x y hx hy ys Q q=> by
 rw [upd_upd] at q ⊢;exact h x y hx hy ys Q q
end
inductive siftdownC (args: List V) (Q: V -> Hp -> Prop) (σ: Hp): Prop
 | mk (α: Type) (f: α -> V) (lt: α -> α -> Bool) (P: α -> Prop) (a: Addr) (ns: List α) (s p: Nat) (x: α) (h1: args = [.ref a,.int s,.int p]) (h2: σ a = some (.list (ns.map f))) (h3: ns[p]? = some x) (h4: (∀ y ∈ ns,P y)) (h5: LtOn σ a f lt P) (h6: Q .none (upd σ a (.list ((upF lt s x ns p).map f)))): siftdownC args Q σ
inductive siftupC (args: List V) (Q: V -> Hp -> Prop) (σ: Hp): Prop
 | mk (α: Type) (f: α -> V) (lt: α -> α -> Bool) (P: α -> Prop) (a: Addr) (ns: List α) (p: Nat) (x: α) (h1: args = [.ref a,.int p]) (h2: σ a = some (.list (ns.map f))) (h3: ns[p]? = some x) (h4: (∀ y ∈ ns,P y)) (h5: LtOn σ a f lt P) (h6: ns.length <= BIG) (h7: Q .none (upd σ a (.list ((siftF lt ns p x).map f)))): siftupC args Q σ
noncomputable def ps_siftdown: List PS:= [.assign (.name 3) (.sub (.var 0) (.var 2)),
 .whil (.cmp .Gt (.var 2) (.var 1)) [.assign (.name 4) (.bin .RShift (.bin .Sub (.var 2) (.int 1)) (.int 1)),.assign (.name 5) (.sub (.var 0) (.var 4)),.ifs (.cmp .Lt (.var 5) (.var 3)) [.setitem (.var 0) (.var 2) (.var 5),.assign (.name 2) (.var 4),.cont] [],.brk],
 .setitem (.var 0) (.var 2) (.var 3)]
noncomputable def ps_siftup (i: Nat): List PS:= [.assign (.name 2) (.call .len [(.var 0)]),
 .assign (.name 3) (.var 1),
 .assign (.name 4) (.sub (.var 0) (.var 1)),
 .assign (.name 5) (.bin .Add (.bin .Mult (.int 2) (.var 1)) (.int 1)),
 .whil (.cmp .Lt (.var 5) (.var 2)) [.assign (.name 6) (.bin .Add (.var 5) (.int 1)),.ifs (.and (.cmp .Lt (.var 6) (.var 2)) (.not (.cmp .Lt (.sub (.var 0) (.var 6)) (.sub (.var 0) (.var 5))))) [.assign (.name 5) (.var 6)] [],.setitem (.var 0) (.var 1) (.sub (.var 0) (.var 5)),.assign (.name 1) (.var 5),.assign (.name 5) (.bin .Add (.bin .Mult (.int 2) (.var 1)) (.int 1))],
 .setitem (.var 0) (.var 1) (.var 4),
 .expr (.ucall i [(.var 0),(.var 3),(.var 1)])]
theorem nth_nat {xs: List V} {k: Nat}: nth xs (k: Int) = xs[k]?:= by unfold nth;simp
theorem opSub_list {σ: Hp} {a: Addr} {xs: List V} {k: Nat} {x: V} {Q: V -> Hp -> Prop} (h: σ a = some (.list xs)) (e: xs[k]? = some x) (q: Q x σ): opSub (.ref a) (.int k) Q σ:=
 sub_list (listAt_list h) (by rw [nth_nat];exact e) q
theorem opSet_list {σ: Hp} {a: Addr} {xs: List V} {k: Nat} {v: V} {Q: Hp -> Prop} (h: σ a = some (.list xs)) (e: k < xs.length) (q: Q (upd σ a (.list (xs.set k v)))): opSet (.ref a) (.int k) v Q σ:=
 set_list h (by exact Int.natCast_nonneg k) (by exact Int.ofNat_lt.mpr e) (by simpa using q)
inductive Desc: Nat -> Nat -> Prop
 | refl (p: Nat): Desc p p
 | left {p q: Nat}: Desc p q -> Desc p (2 * q + 1)
 | right {p q: Nat}: Desc p q -> Desc p (2 * q + 2)
theorem Desc.le {p q: Nat} (h: Desc p q): p <= q:= by induction h <;> lia
theorem Desc.trans {p q r: Nat} (h: Desc p q) (g: Desc q r): Desc p r:= by
 induction g with
 | refl=> exact h
 | left _ ih=> exact .left ih
 | right _ ih=> exact .right ih
section
variable {α: Type} (lt: α -> α -> Bool)
noncomputable def HB (ns: List α) (p: Nat): Prop:= ∀ q c a b,Desc p q -> q ≠ p -> (c = 2 * q + 1 \/ c = 2 * q + 2) -> ns[q]? = some a -> ns[c]? = some b -> lt a b = false
noncomputable def sinkF (v: α) (ns: List α) (p: Nat): List α:=
 if h: 2 * p + 1 < ns.length then
  if lt (ns.getD (kid lt v ns p) v) v then ns.set p v else sinkF v (ns.set p (ns.getD (kid lt v ns p) v)) (kid lt v ns p)
 else ns.set p v
termination_by ns.length - p
decreasing_by
 have:= kid_gt lt v ns p
 simp only [List.length_set];(exact ar_kd h this)
variable {lt}
theorem kid_cases (v: α) (ns: List α) (p: Nat): kid lt v ns p = 2 * p + 1 \/ kid lt v ns p = 2 * p + 2:= by unfold kid;split <;> simp
theorem kid_par (v: α) (ns: List α) (p: Nat): (kid lt v ns p - 1) / 2 = p:= ar_kup (kid_cases (lt:= lt) v ns p)
theorem kid_desc (v: α) (ns: List α) (p: Nat): Desc p (kid lt v ns p):= by
 rcases kid_cases (lt:= lt) v ns p with h | h <;> rw [h]
 ·exact .left (.refl p)
 ·exact .right (.refl p)
theorem upF_set (s: Nat) (v w: α) (ns: List α) (p: Nat): upF lt s v (ns.set p w) p = upF lt s v ns p:= by
 rw [upF.eq_def lt s v (ns.set p w),upF.eq_def lt s v ns]
 split
 ·rename_i h
  have e: (ns.set p w).getD ((p - 1) / 2) v = ns.getD ((p - 1) / 2) v:= by
   simp only [List.getD_eq_getElem?_getD];rw [List.getElem?_set_ne (by exact ar_par5 h)]
  rw [e,List.set_set,List.set_set]
 ·rw [List.set_set]
theorem getD_some {ns: List α} {k: Nat} {v: α} (h: k < ns.length): ns[k]? = some (ns.getD k v):= by
 simp [List.getElem?_eq_getElem h]
theorem HB.sub {ns: List α} {p c: Nat} {w: α} (h: HB lt ns p) (hc: Desc p c) (hp: p < c): HB lt (ns.set p w) c:= fun q d a b hq hn hd ea eb=> by
 have:= hq.le
 rw [List.getElem?_set_ne (by lia)] at ea
 rw [List.getElem?_set_ne (by rcases hd with rfl | rfl <;> lia)] at eb
 exact h q d a b (hc.trans hq) (by lia) hd ea eb
theorem up_back (htr: ∀ a b c,lt a b = false -> lt a c = true -> lt b c = true) (v: α) (s: Nat): ∀ (k: Nat) (ns: List α) (p: Nat),ns.length - p <= k -> s <= p -> p < ns.length -> HB lt ns p ->
  (2 * p + 1 < ns.length -> lt (ns.getD (kid lt v ns p) v) v = true) ->
  upF lt s v ((downF lt v ns p).1.set (downF lt v ns p).2 v) (downF lt v ns p).2 = upF lt s v (ns.set p v) p:= by
 intro k
 induction k with
 | zero=> intro ns p h hs hp;exact ar_abs h hp
 | succ k ih=>
  intro ns p h hs hp hb hl
  by_cases hc: 2 * p + 1 < ns.length
  ·have g:= kid_gt lt v ns p
   have l:= kid_lt lt v ns p hc
   have hv:= hl hc
   have kp:= kid_par (lt:= lt) v ns p
   have kd:= kid_desc (lt:= lt) v ns p
   rw [downF.eq_def lt v ns p,dif_pos hc]
   generalize hcc: kid lt v ns p = c at *
   have hnc: (ns.set p (ns.getD c v)).getD c v = ns.getD c v:= by
    simp only [List.getD_eq_getElem?_getD];rw [List.getElem?_set_ne (Nat.ne_of_lt g)]
   rw [ih (ns.set p (ns.getD c v)) c (by simp only [List.length_set];(exact ar_down h g)) (Nat.le_trans hs (Nat.le_of_lt g)) (by simpa using l) (hb.sub kd g) ?_]
   ·rw [upF,dif_pos (Nat.lt_of_le_of_lt hs g),kp]
    have e1: ((ns.set p (ns.getD c v)).set c v).getD p v = ns.getD c v:= by
     simp only [List.getD_eq_getElem?_getD]
     rw [List.getElem?_set_ne (Nat.ne_of_gt g),List.getElem?_set_self hp];rfl
    rw [e1,if_pos hv,List.set_set]
    have e2: (ns.set p (ns.getD c v)).set c (ns.getD c v) = ns.set p (ns.getD c v):= by
     apply List.ext_getElem? ;intro i
     by_cases hi: i = c
     ·subst hi;rw [List.getElem?_set_self (by simpa using l),List.getElem?_set_ne (Nat.ne_of_lt g)];exact (getD_some l).symm
     ·rw [List.getElem?_set_ne (Ne.symm hi)]
    rw [e2,upF_set,upF_set]
   ·intro hd
    have l2:= kid_lt lt v (ns.set p (ns.getD c v)) c hd
    have g2:= kid_gt lt v (ns.set p (ns.getD c v)) c
    have kk:= kid_cases (lt:= lt) v (ns.set p (ns.getD c v)) c
    generalize kid lt v (ns.set p (ns.getD c v)) c = d at *
    simp only [List.length_set] at l2
    have e3: (ns.set p (ns.getD c v)).getD d v = ns.getD d v:= by
     simp only [List.getD_eq_getElem?_getD];rw [List.getElem?_set_ne (Nat.ne_of_lt (Nat.lt_trans g g2))]
    rw [e3]
    exact htr _ _ _ (hb c d _ _ kd (Nat.ne_of_gt g) kk (getD_some l) (getD_some l2)) hv
  ·rw [downF.eq_def lt v ns p,dif_neg hc]
theorem sift_sink_aux (htr: ∀ a b c,lt a b = false -> lt a c = true -> lt b c = true) (v: α) (s: Nat): ∀ (k: Nat) (ns: List α) (p: Nat),ns.length - p <= k -> s <= p -> p < ns.length -> HB lt ns p ->
  (s < p -> lt (ns.getD ((p - 1) / 2) v) v = false) ->
  upF lt s v ((downF lt v ns p).1.set (downF lt v ns p).2 v) (downF lt v ns p).2 = sinkF lt v ns p:= by
 intro k
 induction k with
 | zero=> intro ns p h hs hp;exact ar_abs h hp
 | succ k ih=>
  intro ns p h hs hp hb hl
  have fin: upF lt s v (ns.set p v) p = ns.set p v:= by
   rw [upF_set,upF]
   split
   ·rename_i hh;rw [if_neg];rw [hl hh];simp
   ·rfl
  by_cases hc: 2 * p + 1 < ns.length
  ·have g:= kid_gt lt v ns p
   have l:= kid_lt lt v ns p hc
   have kp:= kid_par (lt:= lt) v ns p
   have kd:= kid_desc (lt:= lt) v ns p
   rw [sinkF,dif_pos hc]
   split
   ·rename_i hv
    rw [up_back htr v s (k + 1) ns p h hs hp hb (fun _=> hv),fin]
   ·rename_i hv
    rw [downF.eq_def lt v ns p,dif_pos hc]
    generalize hcc: kid lt v ns p = c at *
    refine ih (ns.set p (ns.getD c v)) c (by simp only [List.length_set];(exact ar_down h g)) (by lia) (by simpa using l) (hb.sub kd (by exact Nat.lt_of_succ_le g)) (fun _=> ?_)
    rw [kp]
    simp only [List.getD_eq_getElem?_getD]
    rw [List.getElem?_set_self (by exact Nat.lt_trans g l)]
    simpa using hv
  ·rw [downF.eq_def lt v ns p,dif_neg hc,sinkF,dif_neg hc,fin]
theorem sift_sink (htr: ∀ a b c,lt a b = false -> lt a c = true -> lt b c = true) (v: α) (ns: List α) (p: Nat) (hp: p < ns.length) (hb: HB lt ns p): siftF lt ns p v = sinkF lt v ns p:=
 sift_sink_aux htr v p _ ns p (Nat.le_refl _) (Nat.le_refl _) hp hb (fun h=> absurd h (Nat.lt_irrefl _))
end
section
variable {α: Type} {lt: α -> α -> Bool}
structure SW (lt: α -> α -> Bool): Prop where
 asym: ∀ a b,lt a b = true -> lt b a = false
 neg: ∀ a b c,lt a c = true -> lt a b = true \/ lt b c = true
theorem SW.irr (h: SW lt) (a: α): lt a a = false:= by
 cases q: lt a a with
 | false=> rfl
 | true=> have:= h.asym _ _ q;rw [q] at this;cases this
theorem SW.le (h: SW lt) {a b c: α} (x: lt a b = false) (y: lt b c = false): lt a c = false:= by
 cases q: lt a c with
 | false=> rfl
 | true=>
  rcases h.neg a b c q with e | e
  ·rw [x] at e;cases e
  ·rw [y] at e;cases e
theorem SW.htr (h: SW lt): ∀ a b c,lt a b = false -> lt a c = true -> lt b c = true:= fun a b c x y=> by
 rcases h.neg a b c y with e | e
 ·rw [x] at e;cases e
 ·exact e
noncomputable def siftAt (lt: α -> α -> Bool) (m: List α) (i: Nat): List α:= match m[i]? with | some x=> siftF lt m i x | none=> m
noncomputable def heapifyF (lt: α -> α -> Bool) (ns: List α): List α:= ((List.range (ns.length / 2)).reverse).foldl (siftAt lt) ns
noncomputable def HF (lt: α -> α -> Bool) (ns: List α) (p: Nat): Prop:= ∀ q c a b,p <= q -> (c = 2 * q + 1 \/ c = 2 * q + 2) -> ns[q]? = some a -> ns[c]? = some b -> lt a b = false
theorem HF.hb {ns: List α} {p: Nat} (h: HF lt ns (p + 1)): HB lt ns p:= fun q c a b d n e=> h q c a b (by have:= d.le;lia) e
theorem set_swap_perm {ns: List α} {p k: Nat} (v x: α) (hp: p < ns.length) (hk: k < ns.length) (hne: p ≠ k) (hx: ns[k]? = some x): ((ns.set p x).set k v).Perm (ns.set p v):= by
 classical
 rw [List.perm_iff_count]
 intro b
 have hxk: ns[k] = x:= by rw [List.getElem?_eq_getElem hk] at hx;exact Option.some.inj hx
 have c1: 0 < List.count ns[k] ns:= List.count_pos_iff.mpr (List.getElem_mem hk)
 have c2: 0 < List.count ns[p] ns:= List.count_pos_iff.mpr (List.getElem_mem hp)
 rw [List.count_set (by simpa using hk),List.count_set hp,List.count_set hp]
 rw [List.getElem_set_ne hne]
 rw [hxk]
 have: (if (x == b) = true then 1 else 0) <= (List.count b ns - if (ns[p] == b) = true then 1 else 0) + (if (x == b) = true then 1 else 0):= by exact Nat.le_add_left (if (x == b) = true then 1 else 0) (List.count b ns - if (ns[p] == b) = true then 1 else 0)
 lia
theorem sinkF_perm (v: α): ∀ (k: Nat) (ns: List α) (p: Nat),ns.length - p <= k -> p < ns.length -> (sinkF lt v ns p).Perm (ns.set p v):= by
 intro k
 induction k with
 | zero=> intro ns p h hp;exact ar_abs h hp
 | succ k ih=>
  intro ns p h hp
  rw [sinkF]
  split
  ·rename_i hc
   split
   ·exact .refl _
   ·have g:= kid_gt lt v ns p
    have l:= kid_lt lt v ns p hc
    exact (ih _ _ (by simp only [List.length_set];(exact ar_down h g)) (by simpa using l)).trans (set_swap_perm v _ hp l (by exact Nat.ne_of_lt g) (getD_some l))
  ·exact .refl _
theorem kid_ne {q c: Nat} (h: c = 2 * q + 1 \/ c = 2 * q + 2): c ≠ q:= Nat.ne_of_gt (ar_kid h)
theorem kid_over {q c: Nat} (h: c = 2 * q + 1 \/ c = 2 * q + 2): q < c:= by exact ar_kid h
theorem kid_up {q c: Nat} (h: c = 2 * q + 1 \/ c = 2 * q + 2): (c - 1) / 2 = q:= by exact ar_kup h
theorem sinkF_hf (S: SW lt) (v: α) (p0: Nat): ∀ (k: Nat) (ns: List α) (p: Nat),ns.length - p <= k -> p < ns.length -> p0 <= p ->
  (∀ q c a b,p0 <= q -> q ≠ p -> c ≠ p -> (c = 2 * q + 1 \/ c = 2 * q + 2) -> ns[q]? = some a -> ns[c]? = some b -> lt a b = false) ->
  (∀ a,p0 < p -> ns[(p - 1) / 2]? = some a -> lt a v = false /\ ∀ c b,(c = 2 * p + 1 \/ c = 2 * p + 2) -> ns[c]? = some b -> lt a b = false) -> p0 <= (p - 1) / 2 \/ p = p0 ->
  HF lt (sinkF lt v ns p) p0:= by
 intro k
 induction k with
 | zero=> intro ns p h hp;exact ar_abs h hp
 | succ k ih=>
  intro ns p h hp h0 ha hb hpp
  have fin: (∀ c b,(c = 2 * p + 1 \/ c = 2 * p + 2) -> ns[c]? = some b -> lt v b = false) -> HF lt (ns.set p v) p0:= by
   intro hv q c a b hq hc ea eb
   by_cases e1: q = p
   ·subst e1
    rw [List.getElem?_set_self hp] at ea
    rw [List.getElem?_set_ne (kid_ne hc).symm] at eb
    cases ea
    exact hv c b hc eb
   ·rw [List.getElem?_set_ne (Ne.symm e1)] at ea
    by_cases e2: c = p
    ·subst e2
     rw [List.getElem?_set_self hp] at eb
     cases eb
     exact (hb a (Nat.lt_of_le_of_lt hq (kid_over hc)) (by rw [kid_up hc];exact ea)).1
    ·rw [List.getElem?_set_ne (Ne.symm e2)] at eb
     exact ha q c a b hq e1 e2 hc ea eb
  rw [sinkF]
  split
  ·rename_i hc
   have g:= kid_gt lt v ns p
   have l:= kid_lt lt v ns p hc
   have kp:= kid_par (lt:= lt) v ns p
   have kc:= kid_cases (lt:= lt) v ns p
   -- the kid is the greatest below
   have kmax: ∀ c b,(c = 2 * p + 1 \/ c = 2 * p + 2) -> ns[c]? = some b -> lt (ns.getD (kid lt v ns p) v) b = false:= by
    intro c b hcc eb
    have hcl:= lt_len eb
    have eb': ns.getD c v = b:= by rw [List.getD_eq_getElem?_getD,eb];rfl
    subst eb'
    unfold kid
    by_cases hr: 2 * p + 2 < ns.length /\ lt (ns.getD (2 * p + 2) v) (ns.getD (2 * p + 1) v) = false
    ·rw [if_pos hr]
     rcases hcc with rfl | rfl
     ·exact hr.2
     ·exact S.irr _
    ·rw [if_neg hr]
     rcases hcc with rfl | rfl
     ·exact S.irr _
     ·have: lt (ns.getD (2 * p + 2) v) (ns.getD (2 * p + 1) v) = true:= by
       cases q: lt (ns.getD (2 * p + 2) v) (ns.getD (2 * p + 1) v) with
       | true=> rfl
       | false=> exact absurd ⟨hcl,q⟩ hr
      exact S.asym _ _ this
   split
   ·rename_i hv
    refine fin fun c b hcc eb=> ?_
    exact S.le (S.asym _ _ hv) (kmax c b hcc eb)
   ·rename_i hv
    have hv: lt (ns.getD (kid lt v ns p) v) v = false:= by simpa using hv
    generalize kid lt v ns p = kk at *
    refine ih (ns.set p (ns.getD kk v)) kk (by simp only [List.length_set];(exact ar_down2 h kc)) (by simpa using l) (Nat.le_trans h0 (Nat.le_of_lt g)) ?_ ?_ (.inl (by rw [kp];exact h0))
    ·intro q c a b hq h1 h2 hcc ea eb
     by_cases e1: q = p
     ·subst e1
      rw [List.getElem?_set_self hp] at ea
      cases ea
      rw [List.getElem?_set_ne (kid_ne hcc).symm] at eb
      exact kmax c b hcc eb
     ·rw [List.getElem?_set_ne (Ne.symm e1)] at ea
      by_cases e2: c = p
      ·subst e2
       rw [List.getElem?_set_self hp] at eb
       cases eb
       exact (hb a (Nat.lt_of_le_of_lt hq (kid_over hcc)) (by rw [kid_up hcc];exact ea)).2 kk _ kc (getD_some l)
      ·rw [List.getElem?_set_ne (Ne.symm e2)] at eb
       exact ha q c a b hq e1 e2 hcc ea eb
    ·intro a _ ea
     rw [kp,List.getElem?_set_self hp] at ea
     cases ea
     refine ⟨hv,fun c b hcc eb=> ?_⟩
     have pc:= Nat.lt_trans g (kid_over hcc)
     rw [List.getElem?_set_ne (Nat.ne_of_lt pc)] at eb
     exact ha kk c _ b (Nat.le_trans h0 (Nat.le_of_lt g)) (Nat.ne_of_gt g) (Nat.ne_of_gt pc) hcc (getD_some l) eb
  ·rename_i hc
   refine fin fun c b hcc eb=> ?_
   exact absurd (lt_len eb) (fun l=> hc (Nat.lt_of_le_of_lt (by rcases hcc with rfl | rfl <;> simp) l))
where
 lt_len {ns: List α} {c: Nat} {b: α} (e: ns[c]? = some b): c < ns.length:= (List.getElem?_eq_some_iff.mp e).1
theorem sift_hf (S: SW lt) {ns: List α} {p: Nat} {v: α} (hp: p < ns.length) (h: HF lt ns (p + 1)): HF lt (siftF lt ns p v) p:= by
 rw [sift_sink S.htr v ns p hp h.hb]
 exact sinkF_hf S v p _ ns p (Nat.le_refl _) hp (Nat.le_refl _) (fun q c a b hq h1 h2 hc ea eb=> h q c a b (by lia) hc ea eb) (fun a hh=> absurd hh (Nat.lt_irrefl _)) (.inr rfl)
theorem sift_perm (S: SW lt) {ns: List α} {p: Nat} {v: α} (hp: p < ns.length) (h: HF lt ns (p + 1)): (siftF lt ns p v).Perm (ns.set p v):= by
 rw [sift_sink S.htr v ns p hp h.hb];exact sinkF_perm v _ ns p (Nat.le_refl _) hp
theorem siftF_length (ns: List α) (p: Nat) (x: α): (siftF lt ns p x).length = ns.length:= by
 unfold siftF;rw [upF_length,List.length_set];exact (downF_length lt x _ ns p (Nat.le_refl _)).1
theorem heapify_ok (S: SW lt) (ns: List α): HF lt (heapifyF lt ns) 0 /\ (heapifyF lt ns).Perm ns:= by
 have key: ∀ (k: Nat) (m: List α),k <= ns.length / 2 -> m.length = ns.length -> HF lt m k -> HF lt (((List.range k).reverse).foldl (siftAt lt) m) 0 /\ (((List.range k).reverse).foldl (siftAt lt) m).Perm m:= by
  intro k
  induction k with
  | zero=> intro m _ _ h;exact ⟨h,.refl _⟩
  | succ k ih=>
   intro m hk hm h
   rw [List.range_succ,List.reverse_append]
   simp only [List.reverse_cons,List.reverse_nil,List.nil_append,List.cons_append,List.foldl_cons]
   have hkm: k < m.length:= by lia
   have e: siftAt lt m k = siftF lt m k m[k]:= by unfold siftAt;rw [List.getElem?_eq_getElem hkm]
   have pe:= sift_perm S (v:= m[k]) hkm h
   have se: m.set k m[k] = m:= List.set_getElem_self hkm
   rw [se] at pe
   rw [e]
   obtain ⟨a,b⟩:= ih (siftF lt m k m[k]) (by exact Nat.le_of_succ_le hk) (by rw [siftF_length];exact hm) (sift_hf S hkm h)
   exact ⟨a,b.trans pe⟩
 refine key _ ns (Nat.le_refl _) rfl fun q c a b hq hc ea eb=> ?_
 exact absurd (List.getElem?_eq_some_iff.mp eb).1 (ar_x9 hq hc)
theorem HF.top (S: SW lt) {ns: List α} (h: HF lt ns 0) {t: α} (ht: ns[0]? = some t): ∀ (i: Nat) x,ns[i]? = some x -> lt t x = false:= by
 intro i
 induction i using Nat.strongRecOn with
 | ind i ih=>
  intro x hx
  rcases Nat.eq_zero_or_pos i with e | e
  ·subst e;rw [ht] at hx;cases hx;exact S.irr _
  ·have hl:= (List.getElem?_eq_some_iff.mp hx).1
   have hl': (i - 1) / 2 < ns.length:= by exact ar_par4 e hl
   have:= ih ((i - 1) / 2) (by exact ar_par e) _ (List.getElem?_eq_getElem hl')
   exact S.le this (h ((i - 1) / 2) i _ x (Nat.zero_le _) (by exact ar_two e) (List.getElem?_eq_getElem hl') hx)
theorem HF.top_mem (S: SW lt) {ns: List α} (h: HF lt ns 0) {t: α} (ht: ns[0]? = some t): ∀ x ∈ ns,lt t x = false:= fun x m=> by
 obtain ⟨i,hi⟩:= List.getElem?_of_mem m
 exact h.top S ht i x hi
theorem HF.set0 {ns: List α} (h: HF lt ns 0) (v: α): HF lt (ns.set 0 v) 1:= fun q c a b hq hc ea eb=> by
 rw [List.getElem?_set_ne (by exact Ne.symm (Nat.ne_zero_of_lt hq))] at ea
 rw [List.getElem?_set_ne (by lia)] at eb
 exact h q c a b (by exact Nat.zero_le q) hc ea eb
theorem replace_ok (S: SW lt) {ns: List α} (h: HF lt ns 0) (v: α) (hn: 0 < ns.length): HF lt (siftF lt (ns.set 0 v) 0 v) 0 /\ (siftF lt (ns.set 0 v) 0 v).Perm (ns.set 0 v):= by
 have hl: 0 < (ns.set 0 v).length:= by simpa using hn
 refine ⟨sift_hf S hl (h.set0 v),?_⟩
 have:= sift_perm S (v:= v) hl (h.set0 v)
 rwa [List.set_set] at this
end
theorem r_next (Q: V -> Hp -> Prop) (F: Frm) (σ: Hp): retV Q .next F σ = Q .none σ:= rfl
theorem r_ret (Q: V -> Hp -> Prop) (F: Frm) (σ: Hp) (v: V): retV Q (.ret v) F σ = Q v σ:= rfl
local macro_rules | `(tactic| walk_at "go")=> `(tactic| with_reducible refine go_cons ?_)
local macro_rules | `(tactic| walk_at "n")=> `(tactic| with_reducible repeat refine q_nextI ?_)
local macro_rules | `(tactic| walk_at "r")=> `(tactic| try simp only [r_next,r_ret])
theorem big_of {n: Nat} (h: n <= 1000): n <= BIG:= by unfold BIG;lia
theorem rok_n {b: Int} (h0: -1000 <= b) (h: b <= 1000): rok 0 b 1:=
 ⟨rfl,by decide,by decide,Int.le_trans (by decide) h0,Int.lt_of_le_of_lt h (by decide)⟩
theorem rok_of {b: Int} {a: Int} (h0: 0 <= b) (h: b <= 1000) (h1: 0 <= a) (h2: a <= 1000): rok a b 1:=
 ⟨rfl,Int.le_trans (by decide) h1,Int.lt_of_le_of_lt h2 (by decide),Int.le_trans (by decide) h0,Int.lt_of_le_of_lt h (by decide)⟩
noncomputable def Ext (σ σ': Hp): Prop:= ∀ a o,σ a = some o -> σ' a = some o
theorem Ext.rfl {σ: Hp}: Ext σ σ:= fun _ _ h=> h
theorem Ext.trans {a b c: Hp} (h: Ext a b) (g: Ext b c): Ext a c:= fun x o e=> g x o (h x o e)
theorem Ext.upd {σ: Hp} {a: Addr} (o: AObj) (h: σ a = none): Ext σ (upd σ a o):= fun b p e=> by
 unfold Mine.upd;split
 ·rename_i q;subst q;rw [h] at e;cases e
 ·exact e
theorem Ext.listAt {σ σ': Hp} (h: Ext σ σ') {a: Addr} {xs: List V} (e: listAt σ a = some xs): listAt σ' a = some xs:= by
 unfold Mine.listAt at *
 split at e
 ·rename_i q;rw [h _ _ q];exact e
 ·rename_i q;rw [h _ _ q];exact e
 ·cases e
theorem Ext.fresh {σ σ': Hp} (h: Ext σ σ') {a: Addr} (e: σ' a = none): σ a = none:= by
 cases q: σ a with
 | none=> rfl
 | some o=> rw [h _ _ q] at e;cases e
noncomputable def Yields (H: Hp -> Prop): It -> List V -> Prop
 | I,[]=> ∀ σ,H σ -> itNext I σ = some none
 | I,x :: xs=> ∃ I',(∀ σ,H σ -> itNext I σ = some (some (x,I'))) /\ Yields H I' xs
theorem yields_rng (H: Hp -> Prop) (c: Int): ∀ (n: Nat) (x: Int),Yields H (.rng x n c) ((List.range n).map fun (i: Nat)=> V.int (x + (i: Int) * c))
 | 0,x=> fun _ _=> rfl
 | n + 1,x=> by
  have:= yields_rng H c n (x + c)
  rw [List.range_succ_eq_map,List.map_cons,List.map_map]
  have e: (fun (i: Nat)=> V.int (x + (i: Int) * c)) ∘ Nat.succ = fun (i: Nat)=> V.int (x + c + (i: Int) * c):= by
   funext i;simp only [Function.comp];congr 1
   have: ((i.succ: Nat): Int) = i + 1:= rfl
   rw [this,Int.add_mul];lia
  rw [e]
  refine ⟨_,fun _ _=> ?_,this⟩
  simp [itNext]
theorem yields_lst {H: Hp -> Prop} {a: Addr} {xs: List V} (h: ∀ σ,H σ -> listAt σ a = some xs): ∀ (k i: Nat),xs.length - i = k -> Yields H (.lst a i) (xs.drop i):= by
 intro k
 induction k with
 | zero=>
  intro i hk
  rw [List.drop_eq_nil_of_le (by exact Nat.le_of_sub_eq_zero hk)]
  intro σ hs
  simp only [itNext,h σ hs];rw [List.getElem?_eq_none (by exact Nat.le_of_sub_eq_zero hk)]
 | succ k ih=>
  intro i hk
  have hi: i < xs.length:= by exact Nat.lt_of_sub_eq_succ hk
  rw [List.drop_eq_getElem_cons hi]
  refine ⟨.lst a (i + 1),fun σ hs=> ?_,ih (i + 1) (by exact ar_step hk)⟩
  simp only [itNext,h σ hs];rw [List.getElem?_eq_getElem hi]
theorem comp_rule {Φ: Fns} {ifs: List PE} {elt: PE} {t: Tgt} {F0: Frm} {Q: V -> Hp -> Prop} {σ: Hp} {I: It} {xs: List V} (g: V -> Option V) (hb: xs.length <= BIG) (hy: Yields (Ext σ) I xs)
  (step: ∀ x ∈ xs,∀ σ',Ext σ σ' -> ∀ (K: V -> Hp -> Prop) (N: Hp -> Prop),(∀ y σ'',g x = some y -> Ext σ' σ'' -> K y σ'') -> (g x = none -> ∀ σ'',Ext σ' σ'' -> N σ'') -> bindT t x (fun F1=> vTs Φ ifs (fun b σ=> if b then vE Φ elt K F1 σ else N σ) F1 σ') F0 σ')
  (q: ∀ σ',Ext σ σ' -> ∀ a,σ' a = none -> Q (.ref a) (upd σ' a (.list (xs.filterMap g)))) :
  CompG Φ ifs elt t F0 Q I σ:= by
 refine ⟨fun n I acc τ=> ∃ rest pre,rest.length = n /\ xs = pre ++ rest /\ Yields (Ext σ) I rest /\ acc = pre.filterMap g /\ Ext σ τ,⟨_,xs,[],rfl,rfl,hy,rfl,.rfl⟩,?_⟩
 rintro n I acc τ ⟨rest,pre,rfl,hx,hy,rfl,he⟩
 have la: (pre.filterMap g).length <= pre.length:= List.length_filterMap_le ..
 cases rest with
 | nil=>
  rw [hy τ he]
  simp only [List.append_nil] at hx;subst hx
  exact ⟨Nat.le_trans la hb,q τ he⟩
 | cons x rest=>
  obtain ⟨I',e,hy'⟩:= hy
  rw [e τ he]
  have lx: pre.length + (rest.length + 1) <= BIG:= by rw [hx] at hb;simpa using hb
  refine step x (by rw [hx];simp) τ he _ _ (fun y τ' hg h=> ⟨by lia,rest.length,by simp,rest,pre ++ [x],rfl,by rw [hx];simp,hy',by simp [List.filterMap_append,hg],he.trans h⟩) (fun hg τ' h=> ⟨rest.length,by simp,rest,pre ++ [x],rfl,by rw [hx];simp,hy',by simp [List.filterMap_append,hg],he.trans h⟩)
theorem for_rule {Φ: Fns} {b: List PS} {t: Tgt} {F: Frm} {Q: Fl -> Frm -> Hp -> Prop} {σ: Hp} {I: It} {xs: List V} (J: Nat -> Frm -> Hp -> Prop) (hy: Yields (fun τ=> ∃ i F,J i F τ) I xs) (h0: J 0 F σ)
  (step: ∀ i x F σ,xs[i]? = some x -> J i F σ -> ∀ K: Fl -> Frm -> Hp -> Prop,(∀ F σ,J (i + 1) F σ -> K .next F σ) -> (∀ F σ,J (i + 1) F σ -> K .cont F σ) -> (∀ F σ,Q .next F σ -> K .brk F σ) -> (∀ v F σ,Q (.ret v) F σ -> K (.ret v) F σ) -> bindT t x (fun F1=> vSs Φ b K F1 σ) F σ)
  (fin: ∀ F σ,J xs.length F σ -> Q .next F σ) :
  ForG Φ b t Q I F σ:= by
 refine ⟨fun n I F τ=> ∃ i,i + n = xs.length /\ Yields (fun τ=> ∃ i F,J i F τ) I (xs.drop i) /\ J i F τ,⟨xs.length,0,by exact Nat.zero_add xs.length,by simpa using hy,h0⟩,?_⟩
 rintro n I F τ ⟨i,hn,hy,hj⟩
 cases n with
 | zero=>
  rw [List.drop_eq_nil_of_le (by exact Nat.le_of_eq (id (Eq.symm hn)))] at hy
  rw [hy τ ⟨i,F,hj⟩]
  have: i = xs.length:= by exact Nat.add_right_cancel hn
  subst this;exact fin F τ hj
 | succ n=>
  have hi: i < xs.length:= by exact ar_f3 hn rfl
  rw [List.drop_eq_getElem_cons hi] at hy
  obtain ⟨I',e,hy'⟩:= hy
  rw [e τ ⟨i,F,hj⟩]
  exact step i _ F τ (List.getElem?_eq_getElem hi) hj _ (fun F' τ' h=> ⟨n,by exact Nat.lt_add_one n,i + 1,by lia,hy',h⟩) (fun F' τ' h=> ⟨n,by exact Nat.lt_add_one n,i + 1,by lia,hy',h⟩) (fun F' τ' h=> h) (fun v F' τ' h=> h)
theorem while_rule {Φ: Fns} {c: PE} {b: List PS} {Q: Fl -> Frm -> Hp -> Prop} {F: Frm} {σ: Hp} (Inv: Nat -> Frm -> Hp -> Prop) (n: Nat) (h0: Inv n F σ)
  (step: ∀ n F σ,Inv n F σ -> ∀ K: Fl -> Frm -> Hp -> Prop,(∀ m F σ,m < n -> Inv m F σ -> K .next F σ) -> (∀ m F σ,m < n -> Inv m F σ -> K .cont F σ) -> (∀ F σ,Q .next F σ -> K .brk F σ) -> (∀ v F σ,Q (.ret v) F σ -> K (.ret v) F σ) ->
   vT Φ c (fun t σ=> if t then vSs Φ b K F σ else Q .next F σ) F σ): WhileG Φ c b Q F σ:=
 ⟨Inv,⟨n,h0⟩,fun n F σ h=> step n F σ h _ (fun m F σ hm hi=> ⟨m,hm,hi⟩) (fun m F σ hm hi=> ⟨m,hm,hi⟩) (fun _ _ h=> h) (fun _ _ _ h=> h)⟩
theorem mul_l {x y: Int} (h: PySem.Builtin.Int.intBits x <= 64:= by decide): IntMulOk x y:= IntMulOk.of_left h
theorem lt_of_some {α: Type} {ns: List α} {p: Nat} {x: α} (hx: ns[p]? = some x): p < ns.length:= by
 rcases Nat.lt_or_ge p ns.length with h | h
 ·exact h
 ·rw [List.getElem?_eq_none h] at hx;cases hx
theorem map_at {α: Type} {f: α -> V} {ns: List α} {k: Nat} (x: α) (h: k < ns.length): (ns.map f)[k]? = some (f (ns.getD k x)):= by
 simp [List.getElem?_eq_getElem h]
theorem siftdown_v (Φ: Fns) (args: List V) (Q: V -> Hp -> Prop) (σ: Hp) (F: Frm) (h: siftdownC args Q σ) (hF: F = args.map some ++ [none,none,none]): vSs Φ ps_siftdown (retV Q) F σ:= by
 obtain ⟨α,f,lt,P,a,ns,s,p,x,rfl,hσ,hx,hP,hlt,q⟩:= h
 subst hF
 have hp: p < ns.length:= lt_of_some hx
 have hx': P x:= hP _ (List.mem_of_getElem? hx)
 unfold ps_siftdown
 walk_at "go";((try simp only [List.map,List.cons_append,List.nil_append,s_assign,bt_name,List.set_cons_succ,List.set_cons_zero,e_sub,e_var,look_succ,look_zero]))
 refine opSub_list hσ (x:= f x) (by rw [List.getElem?_map,hx];rfl) ?_
 walk_at "n"
 walk_at "go";((try simp only [s_while]))
 refine while_rule (fun n F τ=> ∃ ns' e4 e5,F = [some (.ref a),some (.int s),some (.int (n: Nat)),some (f x),e4,e5] /\ τ = upd σ a (.list (ns'.map f)) /\ ns'.length = ns.length /\ n < ns.length /\ (∀ y ∈ ns',P y) /\ upF lt s x ns' n = upF lt s x ns p) p ⟨ns,none,none,rfl,(upd_id hσ).symm,rfl,hp,hP,rfl⟩ ?_
 rintro p' F τ ⟨ns',e4,e5,rfl,rfl,hl,hp',hP',eq⟩ K k1 k2 k3 k4
 ((try simp only [t_cmp,e_var,look_succ,look_zero,c_gt,t_bool]);(repeat (first | rw [q_next])))
 have fin: upF lt s x ns' p' = ns'.set p' x -> vSs Φ [.setitem (.var 0) (.var 2) (.var 3)] (retV Q) [some (.ref a),some (.int s),some (.int (p': Nat)),some (f x),e4,e5] (upd σ a (.list (ns'.map f))):= fun e=> by
  walk_at "go";((try simp only [s_setitem,e_var,look_succ,look_zero]))
  refine opSet_list (upd_same _ _ _) (by rw [List.length_map];(exact Nat.lt_of_lt_of_eq hp' (id (Eq.symm hl)))) ?_
  rw [upd_upd]
  ((with_reducible repeat first | refine q_nextI ?_ | refine ss_nilI ?_);walk_at "r")
  rw [<- eq,e] at q
  rw [<- List.map_set];exact q
 by_cases hgt: s < p'
 ·rw [decide_eq_true (by exact Int.ofNat_lt.mpr hgt),if_pos rfl]
  walk_at "go";((try simp only [s_assign,bt_name,List.set_cons_succ,List.set_cons_zero,e_bin,e_int,e_var,look_succ,look_zero,b_sub,b_shr]);(repeat (first | rw [q_next])))
  refine ⟨by lia,trivial,?_⟩
  have e1: ((p': Int) - 1) / 2 = ((p' - 1) / 2: Nat):= by exact ar_i8 hgt
  rw [e1]
  have hq: (p' - 1) / 2 < ns'.length:= by rw [‹ns'.length = ns.length›];exact ar_par2 hgt ‹p' < ns.length›
  walk_at "go";((try simp only [s_assign,bt_name,List.set_cons_succ,List.set_cons_zero,e_sub,e_var,look_succ,look_zero]))
  refine opSub_list (upd_same _ _ _) (map_at x hq) ?_
  walk_at "n"
  have hm: ns'.getD ((p' - 1) / 2) x ∈ ns':= getD_mem hq
  walk_at "go";((try simp only [s_ifs,ss_nil,t_cmp,e_var,look_succ,look_zero]))
  refine hlt _ _ (hP' _ hm) hx' _ _ ?_
  ((try simp only [t_bool]);(repeat (first | rw [q_next])))
  by_cases c: lt (ns'.getD ((p' - 1) / 2) x) x = true
  ·rw [c,if_pos rfl]
   walk_at "go";((try simp only [s_setitem,e_var,look_succ,look_zero]))
   refine opSet_list (upd_same _ _ _) (by rw [List.length_map];(exact Nat.lt_of_lt_of_eq hp' (id (Eq.symm hl)))) ?_
   rw [upd_upd]
   walk_at "n"
   walk_at "go";((try simp only [s_assign,bt_name,List.set_cons_succ,List.set_cons_zero,e_var,look_succ,look_zero]);walk_at "n")
   walk_at "go";((try simp only [s_cont]);(with_reducible repeat refine q_contI ?_))
   refine k2 ((p' - 1) / 2) _ _ (by exact ar_par hgt) ⟨ns'.set p' (ns'.getD ((p' - 1) / 2) x),_,_,rfl,by rw [List.map_set],by rw [List.length_set,hl],by exact Nat.lt_of_lt_of_eq hq hl,?_,?_⟩
   ·intro y hy
    rcases mem_set hy with h | rfl
    ·exact hP' _ h
    ·exact hP' _ hm
   ·rw [<- eq,upF.eq_def lt s x ns' p',dif_pos hgt,if_pos c]
  ·rw [Bool.eq_false_iff.mpr c,if_neg (by decide)]
   walk_at "r"
   walk_at "go";((try simp only [s_brk]);(with_reducible repeat refine q_brkI ?_))
   refine k3 _ _ ?_
   walk_at "n"
   rw [upF,dif_pos hgt,if_neg c] at fin
   walk_at "go";((try simp only [s_setitem,e_var,look_succ,look_zero]))
   refine opSet_list (upd_same _ _ _) (by rw [List.length_map];(exact Nat.lt_of_lt_of_eq hp' (id (Eq.symm hl)))) ?_
   rw [upd_upd]
   ((with_reducible repeat first | refine q_nextI ?_ | refine ss_nilI ?_);walk_at "r")
   rw [<- eq,upF,dif_pos hgt,if_neg c] at q
   rw [<- List.map_set];exact q
 ·rw [decide_eq_false (by exact ar_i10 rfl hgt),if_neg (by decide)]
  walk_at "r"
  exact fin (by rw [upF,dif_neg hgt])
theorem siftup_v (Φ: Fns) (i: Nat) (hΦ: ∀ args Q σ,siftdownC args Q σ -> Φ i args Q σ) (args: List V) (Q: V -> Hp -> Prop) (σ: Hp) (F: Frm) (h: siftupC args Q σ) (hF: F = args.map some ++ [none,none,none,none,none]): vSs Φ (ps_siftup i) (retV Q) F σ:= by
 obtain ⟨α,f,lt,P,a,ns,p,x,rfl,hσ,hx,hP,hlt,hbig,q⟩:= h
 subst hF
 have hp: p < ns.length:= lt_of_some hx
 have hx': P x:= hP _ (List.mem_of_getElem? hx)
 unfold ps_siftup
 walk_at "go";((try simp only [List.map,List.cons_append,List.nil_append,s_assign,bt_name,List.set_cons_succ,List.set_cons_zero,e_call,es_cons,es_nil,e_var,look_zero]))
 refine call_len (listAt_list hσ) ?_
 rw [List.length_map]
 walk_at "n"
 walk_at "go";((try simp only [s_assign,bt_name,List.set_cons_succ,List.set_cons_zero,e_var,look_succ,look_zero]);walk_at "n")
 walk_at "go";((try simp only [s_assign,bt_name,List.set_cons_succ,List.set_cons_zero,e_sub,e_var,look_succ,look_zero]))
 refine opSub_list hσ (x:= f x) (by rw [List.getElem?_map,hx];rfl) ?_
 walk_at "n"
 walk_at "go";((try simp only [s_assign,bt_name,List.set_cons_succ,List.set_cons_zero,e_bin,e_int,e_var,look_succ,look_zero,b_mul,b_add]);(repeat (first | rw [q_next])))
 refine ⟨mul_l,?_⟩
 walk_at "go";((try simp only [s_while]))
 refine while_rule (fun n F τ=> ∃ ns' p' e6,ns.length - p' = n /\ F = [some (.ref a),some (.int (p': Nat)),some (.int ns.length),some (.int p),some (f x),some (.int (2 * p' + 1: Nat)),e6] /\ τ = upd σ a (.list (ns'.map f)) /\ ns'.length = ns.length /\ p' < ns.length /\ (∀ y ∈ ns',P y) /\ downF lt x ns' p' = downF lt x ns p) _ ⟨ns,p,none,rfl,rfl,(upd_id hσ).symm,rfl,hp,hP,rfl⟩ ?_
 rintro n F τ ⟨ns',p',e6,rfl,rfl,rfl,hl,hp',hP',eq⟩ K k1 k2 k3 k4
 ((try simp only [t_cmp,e_var,look_succ,look_zero,c_lt,t_bool]);(repeat (first | rw [q_next])))
 by_cases hc: 2 * p' + 1 < ns'.length
 ·rw [decide_eq_true (by exact ar_i9 hl hc),if_pos rfl]
  have g1:= kid_gt lt x ns' p'
  have g2:= kid_lt lt x ns' p' hc
  have fin: ∀ e6,vSs Φ [.setitem (.var 0) (.var 1) (.sub (.var 0) (.var 5)),.assign (.name 1) (.var 5),.assign (.name 5) (.bin .Add (.bin .Mult (.int 2) (.var 1)) (.int 1))] K [some (.ref a),some (.int (p': Nat)),some (.int ns.length),some (.int p),some (f x),some (.int (kid lt x ns' p': Nat)),e6] (upd σ a (.list (ns'.map f))):= fun e6=> by
   walk_at "go";((try simp only [s_setitem,e_var,look_succ,look_zero,e_sub]))
   refine opSub_list (upd_same _ _ _) (map_at x g2) ?_
   refine opSet_list (upd_same _ _ _) (by rw [List.length_map];(exact Nat.lt_trans g1 g2)) ?_
   rw [upd_upd]
   walk_at "n"
   walk_at "go";((try simp only [s_assign,bt_name,List.set_cons_succ,List.set_cons_zero,e_var,look_succ,look_zero]);walk_at "n")
   walk_at "go";((try simp only [s_assign,bt_name,List.set_cons_succ,List.set_cons_zero,e_bin,e_int,e_var,look_succ,look_zero,b_mul,b_add]);(repeat (first | rw [q_next] | rw [ss_nil])))
   refine ⟨mul_l,k1 (ns.length - kid lt x ns' p') _ _ (by exact Nat.sub_lt_sub_left hp' g1) ⟨ns'.set p' (ns'.getD (kid lt x ns' p') x),kid lt x ns' p',e6,rfl,rfl,by rw [List.map_set],by rw [List.length_set,hl],by exact Nat.lt_of_lt_of_eq g2 hl,?_,?_⟩⟩
   ·intro y hy
    rcases mem_set hy with h | rfl
    ·exact hP' _ h
    ·exact hP' _ (getD_mem g2)
   ·rw [<- eq,downF.eq_def lt x ns' p',dif_pos hc]
  walk_at "go";((try simp only [s_assign,bt_name,List.set_cons_succ,List.set_cons_zero,e_bin,e_int,e_var,look_succ,look_zero,b_add]);walk_at "n")
  have e1: ((2 * p' + 1: Nat): Int) + 1 = (2 * p' + 2: Nat):= by exact Int.ofNat_add_one_out (2 * p' + 1)
  rw [e1]
  walk_at "go";((try simp only [s_ifs,ss_nil,t_and,t_not,t_cmp,e_sub,e_var,look_succ,look_zero,c_lt,t_bool]);(repeat (first | rw [q_next])))
  by_cases hr: 2 * p' + 2 < ns'.length
  ·rw [decide_eq_true (by exact ar_i9 hl hr),if_pos rfl]
   refine opSub_list (upd_same _ _ _) (map_at x hr) ?_
   refine opSub_list (upd_same _ _ _) (map_at x hc) ?_
   refine hlt _ _ (hP' _ (getD_mem hr)) (hP' _ (getD_mem hc)) _ _ ?_
   ((try simp only [t_bool]);(repeat (first | rw [q_next])))
   by_cases c: lt (ns'.getD (2 * p' + 2) x) (ns'.getD (2 * p' + 1) x) = true
   ·have ke: kid lt x ns' p' = 2 * p' + 1:= by unfold kid;rw [if_neg];rintro ⟨_,h⟩;rw [c] at h;cases h
    rw [ke] at fin
    rw [c,if_neg (by decide)]
    walk_at "r"
    exact fin _
   ·have c:= Bool.eq_false_iff.mpr c
    have ke: kid lt x ns' p' = 2 * p' + 2:= by unfold kid;rw [if_pos ⟨hr,c⟩]
    rw [ke] at fin
    rw [c,if_pos (by decide)]
    walk_at "go";((try simp only [s_assign,bt_name,List.set_cons_succ,List.set_cons_zero,e_var,look_succ,look_zero]);(with_reducible repeat first | refine q_nextI ?_ | refine ss_nilI ?_))
    exact fin _
  ·rw [decide_eq_false (by exact ar_i10 hl hr),if_neg (by decide),if_neg (by decide)]
   walk_at "r"
   have ke: kid lt x ns' p' = 2 * p' + 1:= by unfold kid;rw [if_neg];exact fun h=> hr h.1
   rw [ke] at fin
   exact fin _
 ·rw [decide_eq_false (by exact ar_i10 hl hc),if_neg (by decide)]
  walk_at "r"
  walk_at "go";((try simp only [s_setitem,e_var,look_succ,look_zero]))
  refine opSet_list (upd_same _ _ _) (by rw [List.length_map];(exact Nat.lt_of_lt_of_eq hp' (id (Eq.symm hl)))) ?_
  rw [upd_upd]
  walk_at "n"
  walk_at "go";((try simp only [s_expr,e_ucall,es_cons,es_nil,e_var,look_succ,look_zero]))
  have de: downF lt x ns p = (ns',p'):= by rw [<- eq,downF,dif_neg hc]
  refine hΦ _ _ _ ⟨α,f,lt,P,a,ns'.set p' x,p,p',x,rfl,by rw [upd_same,List.map_set],by rw [List.getElem?_set_self (by exact Nat.lt_of_lt_of_eq hp' (id (Eq.symm hl)))],?_,hlt.upd _,?_⟩
  ·intro y hy
   rcases mem_set hy with h | rfl
   ·exact hP' _ h
   ·exact hx'
  ·rw [upd_upd]
   ((with_reducible repeat first | refine q_nextI ?_ | refine ss_nilI ?_);walk_at "r")
   unfold siftF at q
   rw [de] at q
   exact q
set_option tactic.hygienic true
inductive heapreplaceC (args: List V) (Q: V -> Hp -> Prop) (σ: Hp): Prop
 | mk (α: Type) (f: α -> V) (lt: α -> α -> Bool) (P: α -> Prop) (a: Addr) (ns: List α) (x y: α) (h1: args = [.ref a,f y]) (h2: σ a = some (.list (ns.map f))) (h3: ns[0]? = some x) (h4: P y) (h5: (∀ z ∈ ns,P z)) (h6: LtOn σ a f lt P) (h7: ns.length <= BIG) (h8: Q (f x) (upd σ a (.list ((siftF lt (ns.set 0 y) 0 y).map f)))): heapreplaceC args Q σ
inductive heapifyC (args: List V) (Q: V -> Hp -> Prop) (σ: Hp): Prop
 | mk (α: Type) (f: α -> V) (lt: α -> α -> Bool) (P: α -> Prop) (a: Addr) (ns: List α) (h1: args = [.ref a]) (h2: σ a = some (.list (ns.map f))) (h3: (∀ z ∈ ns,P z)) (h4: LtOn σ a f lt P) (h5: ns.length <= BIG) (h6: Q .none (upd σ a (.list ((heapifyF lt ns).map f)))): heapifyC args Q σ
noncomputable def ps_heapreplace (i: Nat): List PS:= [.assign (.name 2) (.sub (.var 0) (.int 0)),.setitem (.var 0) (.int 0) (.var 1),.expr (.ucall i [(.var 0),(.int 0)]),.ret (.var 2)]
noncomputable def ps_heapify (i: Nat): List PS:= [.assign (.name 1) (.call .len [(.var 0)]),.for (.name 2) .rev (.call .range [(.bin .FloorDiv (.var 1) (.int 2))]) [.expr (.ucall i [(.var 0),(.var 2)])]]
theorem heapreplace_v (Φ: Fns) (i: Nat) (hΦ: ∀ args Q σ,siftupC args Q σ -> Φ i args Q σ) (args: List V) (Q: V -> Hp -> Prop) (σ: Hp) (F: Frm) (h: heapreplaceC args Q σ) (hF: F = args.map some ++ [none]): vSs Φ (ps_heapreplace i) (retV Q) F σ:= by
 obtain ⟨α,f,lt,P,a,ns,x,y,rfl,hσ,hx,hy,hP,hlt,hbig,q⟩:= h
 subst hF
 have hp: 0 < ns.length:= lt_of_some hx
 unfold ps_heapreplace
 walk_at "go";((try simp only [List.map,List.cons_append,List.nil_append,s_assign,bt_name,List.set_cons_succ,List.set_cons_zero,e_sub,e_int,e_var,look_zero]))
 refine opSub_list (k:= 0) hσ (x:= f x) (by rw [List.getElem?_map,hx];rfl) ?_
 walk_at "n"
 walk_at "go";((try simp only [s_setitem,e_int,e_var,look_zero,look_succ]))
 refine opSet_list (k:= 0) hσ (by rw [List.length_map];(exact Nat.zero_lt_of_lt hp)) ?_
 walk_at "n"
 walk_at "go";((try simp only [s_expr,e_ucall,es_cons,es_nil,e_int,e_var,look_zero]))
 refine hΦ _ _ _ ⟨α,f,lt,P,a,ns.set 0 y,0,y,rfl,by rw [upd_same,List.map_set],by rw [List.getElem?_set_self hp],?_,hlt.upd _,by rw [List.length_set];exact hbig,?_⟩
 ·intro z hz
  rcases mem_set hz with h | rfl
  ·exact hP _ h
  ·exact hy
 ·rw [upd_upd]
  walk_at "n"
  walk_at "go";((try simp only [s_ret,e_var,look_succ,look_zero]);(with_reducible repeat refine q_retI ?_);walk_at "r")
  exact q
theorem siftAt_mem {α: Type} {lt: α -> α -> Bool} {ns: List α} {p: Nat} {y: α} (h: y ∈ siftAt lt ns p): y ∈ ns:= by
 unfold siftAt at h
 split at h
 ·rename_i x hx
  have hxm:= List.mem_of_getElem? hx
  have up: ∀ (s p: Nat) (ns': List α),(∀ z ∈ ns',z ∈ ns) -> ∀ z ∈ upF lt s x ns' p,z ∈ ns:= by
   intro s p
   induction p using Nat.strongRecOn with
   | ind p ih=>
    intro ns' hn z hz
    rw [upF] at hz
    split at hz
    ·split at hz
     ·refine ih _ (by (expose_names;exact ar_par h_1)) _ (fun u hu=> ?_) z hz
      rcases mem_set hu with h | rfl
      ·exact hn _ h
      ·rcases Nat.lt_or_ge ((p - 1) / 2) ns'.length with hl | hl
       ·exact hn _ (getD_mem hl)
       ·rw [List.getD_eq_getElem?_getD,List.getElem?_eq_none hl];exact hxm
     ·rcases mem_set hz with h | rfl
      ·exact hn _ h
      ·exact hxm
    ·rcases mem_set hz with h | rfl
     ·exact hn _ h
     ·exact hxm
  have dn: ∀ (k: Nat) (ns': List α) (p: Nat),ns'.length - p <= k -> (∀ z ∈ ns',z ∈ ns) -> ∀ z ∈ (downF lt x ns' p).1,z ∈ ns:= by
   intro k
   induction k with
   | zero=> intro ns' p hk hn z hz;rw [downF,dif_neg (by exact ar_end2 hk)] at hz;exact hn z hz
   | succ k ih=>
    intro ns' p hk hn z hz
    rw [downF] at hz
    split at hz
    ·rename_i hc
     have g:= kid_gt lt x ns' p
     refine ih _ _ (by simp only [List.length_set];(exact ar_down hk g)) (fun u hu=> ?_) z hz
     rcases mem_set hu with h | rfl
     ·exact hn _ h
     ·exact hn _ (getD_mem (kid_lt lt x ns' p hc))
    ·exact hn z hz
  refine up _ _ _ (fun u hu=> ?_) y h
  rcases mem_set hu with h | rfl
  ·exact dn _ _ _ (Nat.le_refl _) (fun _ h=> h) _ h
  ·exact hxm
 ·exact h
theorem heapify_v (Φ: Fns) (i: Nat) (hΦ: ∀ args Q σ,siftupC args Q σ -> Φ i args Q σ) (args: List V) (Q: V -> Hp -> Prop) (σ: Hp) (F: Frm) (h: heapifyC args Q σ) (hF: F = args.map some ++ [none,none]): vSs Φ (ps_heapify i) (retV Q) F σ:= by
 obtain ⟨α,f,lt,P,a,ns,rfl,hσ,hP,hlt,hbig,q⟩:= h
 subst hF
 have hb:= hbig
 unfold BIG at hb
 unfold ps_heapify
 walk_at "go";((try simp only [List.map,List.cons_append,List.nil_append,s_assign,bt_name,List.set_cons_succ,List.set_cons_zero,e_call,es_cons,es_nil,e_var,look_zero]))
 refine call_len (listAt_list hσ) ?_
 rw [List.length_map]
 walk_at "n"
 walk_at "go";((try simp only [s_for,e_call,es_cons,es_nil,e_bin,e_int,e_var,look_succ,look_zero,b_div,c_range1,i_rev]))
 refine ⟨by decide,?_⟩
 have e2: (ns.length: Int).fdiv 2 = (ns.length / 2: Nat):= by rw [Int.fdiv_eq_ediv_of_nonneg _ (by exact Int.zero_le_ofNat 2)];(exact Eq.symm (Nat.ToInt.div_congr rfl rfl))
 rw [e2]
 refine ⟨trivial,trivial,by exact Int.natCast_nonneg (ns.length / 2),by exact ar_h4 hbig,?_⟩
 have e3: ((ns.length / 2: Nat): Int).toNat = ns.length / 2:= by exact Int.toNat_natCast (ns.length / 2)
 rw [e3]
 refine for_rule (xs:= (List.range (ns.length / 2)).map fun (k: Nat)=> V.int (((ns.length / 2: Nat): Int) - 1 + (k: Int) * (-1)))
  (fun k F τ=> ∃ m e2,F = [some (.ref a),some (.int ns.length),e2] /\ τ = upd σ a (.list (m.map f)) /\ m.length = ns.length /\ (∀ z ∈ m,P z) /\ ((List.range (ns.length / 2 - k)).reverse).foldl (siftAt lt) m = heapifyF lt ns) (yields_rng _ _ _ _) ?_ ?_ ?_
 ·exact ⟨ns,none,rfl,(upd_id hσ).symm,rfl,hP,rfl⟩
 ·rintro k x F τ hx ⟨m,e2,rfl,rfl,hm,hPm,he⟩ K k1 k2 k3 k4
  have hk: k < ns.length / 2:= by have:= lt_of_some hx;simpa using this
  have hx': x = .int (ns.length / 2 - 1 - k: Nat):= by
   simp [hk] at hx;rw [<- hx];congr 1;(exact ar_h3 hk)
  subst hx'
  ((try simp only [bt_name,List.set_cons_succ,List.set_cons_zero]))
  walk_at "go";((try simp only [s_expr,e_ucall,es_cons,es_nil,e_var,look_succ,look_zero]))
  generalize hj: ns.length / 2 - 1 - k = j at *
  have hjm: j < m.length:= by exact ar_h1 hm hk hj
  have ee: siftAt lt m j = siftF lt m j m[j]:= by unfold siftAt;rw [List.getElem?_eq_getElem hjm]
  refine hΦ _ _ _ ⟨α,f,lt,P,a,m,j,m[j],rfl,upd_same _ _ _,List.getElem?_eq_getElem hjm,hPm,hlt.upd _,by lia,?_⟩
  rw [upd_upd]
  ((with_reducible repeat first | refine q_nextI ?_ | refine ss_nilI ?_))
  refine k1 _ _ ⟨siftF lt m j m[j],_,rfl,rfl,by rw [siftF_length];exact hm,fun z hz=> ?_,?_⟩
  ·rw [<- ee] at hz;exact hPm z (siftAt_mem hz)
  ·rw [<- he]
   have: ns.length / 2 - k = j + 1:= by exact ar_h2 hk hj
   rw [this,List.range_succ,List.reverse_append]
   simp only [List.reverse_cons,List.reverse_nil,List.nil_append,List.cons_append,List.foldl_cons]
   rw [ee]
   have: ns.length / 2 - (k + 1) = j:= by exact ar_step this
   rw [this]
 ·rintro F τ ⟨m,e2,rfl,rfl,hm,hPm,he⟩
  ((with_reducible repeat first | refine q_nextI ?_ | refine ss_nilI ?_);walk_at "r")
  have: ns.length / 2 - ((List.range (ns.length / 2)).map fun (k: Nat)=> V.int (((ns.length / 2: Nat): Int) - 1 + (k: Int) * (-1))).length = 0:= by simp
  rw [this] at he
  simp at he
  rw [he];exact q
set_option tactic.hygienic false
theorem newL_of {xs: List V} {Q: V -> Hp -> Prop} {σ: Hp} (hb: xs.length <= BIG) (q: ∀ a τ,Ext σ τ -> σ a = none -> τ a = some (.list xs) -> Q (.ref a) τ): newL xs Q σ:= ⟨hb,fun a h=> q a _ (Ext.upd _ h) h (upd_same _ _ _)⟩
noncomputable def pickI {α: Type} (xs: List α) (lo hi st: Option Int): List α:=
 (sliceRange (sliceBounds lo hi st xs.length).1 (sliceBounds lo hi st xs.length).2.1 (sliceBounds lo hi st xs.length).2.2).filterMap (xs[·]?)
theorem fm_some {α β: Type} {g: α -> Option β} {f: α -> β}: ∀ (l: List α),(∀ x ∈ l,g x = some (f x)) -> l.filterMap g = l.map f
 | [],_=> rfl
 | x :: t,h=> by rw [List.filterMap_cons_some (h x (.head _)),List.map_cons,fm_some t fun y hy=> h y (.tail _ hy)]
noncomputable def tupV (x: List Int): V:= .tup (x.map .int)
section
variable {α: Type} {f: α -> V} {dat: α -> PyData}
end
theorem ltI_asym: ∀ a b: List Int,ltI a b = true -> ltI b a = false
 | [],[],h=> by simp [ltI] at h
 | [],_ :: _,_=> rfl
 | _ :: _,[],h=> by simp [ltI] at h
 | x :: xs,y :: ys,h=> by
  simp only [ltI] at h ⊢
  by_cases e: x = y
  ·rw [if_pos e] at h;rw [if_pos e.symm];exact ltI_asym xs ys h
  ·rw [if_neg e] at h;rw [if_neg (fun q=> e q.symm)];simp at h ⊢;(exact Int.le_of_lt h)
theorem ltI_neg: ∀ a b c: List Int,ltI a c = true -> ltI a b = true \/ ltI b c = true
 | [],[],_,h=> .inr h
 | [],_ :: _,_,_=> .inl rfl
 | _ :: _,_,[],h=> by simp [ltI] at h
 | x :: xs,[],z :: zs,_=> .inr rfl
 | x :: xs,y :: ys,z :: zs,h=> by
  simp only [ltI] at h ⊢
  by_cases e1: x = y
  ·subst e1
   by_cases e2: x = z
   ·rw [if_pos e2] at h;rw [if_pos rfl,if_pos e2];exact ltI_neg xs ys zs h
   ·rw [if_neg e2] at h;rw [if_pos rfl,if_neg e2];exact .inr h
  ·rw [if_neg e1]
   by_cases e2: y = z
   ·subst e2;rw [if_neg e1] at h;exact .inl h
   ·rw [if_neg e2]
    by_cases e3: x = z
    ·rw [if_pos e3] at h;simp;lia
    ·rw [if_neg e3] at h;simp at h ⊢;lia
theorem ltI_sw: SW ltI:= ⟨ltI_asym,ltI_neg⟩
theorem ltI_eq: ∀ a b: List Int,ltI a b = false -> ltI b a = false -> a = b
 | [],[],_,_=> rfl
 | [],_ :: _,h,_=> by simp [ltI] at h
 | _ :: _,[],_,h=> by simp [ltI] at h
 | x :: xs,y :: ys,h,g=> by
  simp only [ltI] at h g
  by_cases e: x = y
  ·rw [if_pos e] at h;rw [if_pos e.symm] at g;rw [e,ltI_eq xs ys h g]
  ·rw [if_neg e] at h;rw [if_neg (fun q=> e q.symm)] at g;simp at h g;lia
theorem SW.weak {α: Type} {lt: α -> α -> Bool} (S: SW lt) (g: Nat -> α): Weak (fun i j=> lt (g i) (g j)):= ⟨fun a b h=> S.asym _ _ h,fun a b c h=> S.neg _ _ _ h⟩
theorem up_pairs {lt: Nat -> Nat -> Bool} {p: Array Nat} {n: Nat} (hs: p.size = n) (u: Up lt p n): p.toList.Pairwise (R lt):= by
 rw [List.pairwise_iff_getElem]
 intro i j hi hj hij
 have hj': j < n:= by simpa [hs] using hj
 have:= u i j hij hj'
 have g: ∀ k (hk: k < p.toList.length),p.toList[k] = G p k:= fun k hk=> by
  have hk': k < p.size:= by simpa using hk
  unfold G;simp [hk']
 rw [g i hi,g j hj];exact this
theorem comp_inv {Φ: Fns} {ifs: List PE} {elt: PE} {t: Tgt} {F0: Frm} {Q: V -> Hp -> Prop} {σ: Hp} {I: It} {xs: List V} (J: Nat -> List V -> Hp -> Prop) (hy: Yields (fun τ=> ∃ i acc,J i acc τ) I xs) (h0: J 0 [] σ) (hl: ∀ i acc τ,J i acc τ -> acc.length <= i) (hb: xs.length <= BIG)
  (step: ∀ i x acc τ,xs[i]? = some x -> J i acc τ -> ∀ (K: V -> Hp -> Prop) (N: Hp -> Prop),(∀ y τ',J (i + 1) (acc ++ [y]) τ' -> K y τ') -> (∀ τ',J (i + 1) acc τ' -> N τ') -> bindT t x (fun F1=> vTs Φ ifs (fun b σ=> if b then vE Φ elt K F1 σ else N σ) F1 τ) F0 τ)
  (fin: ∀ acc τ,J xs.length acc τ -> newL acc Q τ): CompG Φ ifs elt t F0 Q I σ:= by
 refine ⟨fun n I acc τ=> ∃ i,i + n = xs.length /\ Yields (fun τ=> ∃ i acc,J i acc τ) I (xs.drop i) /\ J i acc τ,⟨xs.length,0,by exact Nat.zero_add xs.length,by simpa using hy,h0⟩,?_⟩
 rintro n I acc τ ⟨i,hn,hy,hj⟩
 have la:= hl i acc τ hj
 cases n with
 | zero=>
  rw [List.drop_eq_nil_of_le (by exact Nat.le_of_eq (id (Eq.symm hn)))] at hy
  rw [hy τ ⟨i,acc,hj⟩]
  have: i = xs.length:= by exact Nat.add_right_cancel hn
  subst this;exact fin acc τ hj
 | succ n=>
  have hi: i < xs.length:= by exact ar_f3 hn rfl
  rw [List.drop_eq_getElem_cons hi] at hy
  obtain ⟨I',e,hy'⟩:= hy
  rw [e τ ⟨i,acc,hj⟩]
  exact step i _ acc τ (List.getElem?_eq_getElem hi) hj _ _ (fun y τ' h=> ⟨by lia,n,by exact Nat.lt_add_one n,i + 1,by lia,hy',h⟩) (fun τ' h=> ⟨n,by exact Nat.lt_add_one n,i + 1,by lia,hy',h⟩)
section
variable {σ: Hp} {Q: V -> Hp -> Prop}
end
set_option tactic.hygienic true
inductive InG (Φ: Fns) (elt: PE) (j: Nat) (F1: Frm) (K: List V -> Hp -> Prop) (J: It) (acc: List V) (σ: Hp): Prop
 | mk (Inv: Nat -> It -> List V -> Hp -> Prop) (h1: ∃ m,Inv m J acc σ) (h2: ∀ m J acc σ,Inv m J acc σ ->
  match itNext J σ with
  | none=> False
  | some none=> K acc σ
  | some (some (z,J'))=> vE Φ elt (fun u σ=> acc.length < BIG /\ ∃ m',m' < m /\ Inv m' J' (acc ++ [u]) σ) (F1.set j (some z)) σ): InG Φ elt j F1 K J acc σ
inductive CompG2 (Φ: Fns) (elt: PE) (i j: Nat) (b2: PE) (F0: Frm) (Q: V -> Hp -> Prop) (I: It) (σ: Hp): Prop
 | mk (Inv: Nat -> It -> List V -> Hp -> Prop) (h1: ∃ n,Inv n I [] σ) (h2: ∀ n I acc σ,Inv n I acc σ ->
  match itNext I σ with
  | none=> False
  | some none=> newL acc Q σ
  | some (some (x,I'))=> vE Φ b2 (fun y σ=> itStart .plain y (fun J σ=> InG Φ elt j (F0.set i (some x)) (fun acc σ=> ∃ n',n' < n /\ Inv n' I' acc σ) J acc σ) σ) (F0.set i (some x)) σ): CompG2 Φ elt i j b2 F0 Q I σ
noncomputable def PE.comp2 (fm: List (Option Nat)) (elt: PE) (i: Nat) (b1: PE) (j: Nat) (b2: PE): PE:= .of fun Φ Q F σ=> vE Φ b1 (fun x σ=> itStart .plain x (fun I σ=> CompG2 Φ elt i j b2 (frOf fm F) Q I σ) σ) F σ
theorem e_comp2 (Φ: Fns) (Q: V -> Hp -> Prop) (F: Frm) (σ: Hp) (fm: List (Option Nat)) (elt: PE) (i: Nat) (b1: PE) (j: Nat) (b2: PE): vE Φ (.comp2 fm elt i b1 j b2) Q F σ = vE Φ b1 (fun x σ=> itStart .plain x (fun I σ=> CompG2 Φ elt i j b2 (frOf fm F) Q I σ) σ) F σ:= rfl
section
variable {prog: Program} {w: World} {A: Around} {R: Result -> Shared -> Prop} {s: Shared} {elt t1 t2 it1 it2: Expr} {scope: Scope} {pos: Pos} {acc iv: Value} {env: Env}
theorem compTurn_two0: compTurn (.ListComp elt [⟨t1,it1,[],0⟩,⟨t2,it2,[],0⟩] scope pos) 0 iv acc env = (do
   standAt it1.pos
   match <- pyNext iv with
   | none=> pure (.done .next)
   | some v=>
    letOwnedTupleGo t1 iv v
    assign t1 env v
    let x <- eval it2 env
    standAt it2.pos
    let x <- foldedSetIterable it2 env x
    let jv <- holding [x] (pyIter x)
    let _ <- runOwn (.compStart (.ListComp elt [⟨t1,it1,[],0⟩,⟨t2,it2,[],0⟩] scope pos) 1 jv acc env) env
    again (.compLoop (.ListComp elt [⟨t1,it1,[],0⟩,⟨t2,it2,[],0⟩] scope pos) 0 iv acc env)):= by rfl
theorem compTurn_two1: compTurn (.ListComp elt [⟨t1,it1,[],0⟩,⟨t2,it2,[],0⟩] scope pos) 1 iv acc env = (do
   standAt it2.pos
   match <- pyNext iv with
   | none=> pure (.done .next)
   | some v=>
    letOwnedTupleGo t2 iv v
    assign t2 env v
    (do let _ <- call (.builtin "list.append") [acc,<- eval elt env])
    again (.compLoop (.ListComp elt [⟨t1,it1,[],0⟩,⟨t2,it2,[],0⟩] scope pos) 1 iv acc env)):= by rfl
theorem comp2_outer (I: Nat -> Shared -> Prop) (hs: ∀ x,foldedSetIterable it2 env x = pure x)
  (turn: ∀ n s,I n s -> wpAny (model prog w) A (pyNext iv) (fun r s₁=> match r with
   | none=> R (.ok .next) s₁
   | some v=> wpAny (model prog w) A (letOwnedTupleGo t1 iv v) (fun _ s₁'=> wpAny (model prog w) A (assign t1 env v) (fun _ s₂=>
     wpAny (model prog w) A (eval it2 env) (fun x s₃=> wpAny (model prog w) A (pyIter x) (fun jv s₄=>
      codeAny (model prog w) A (.compStart (.ListComp elt [⟨t1,it1,[],0⟩,⟨t2,it2,[],0⟩] scope pos) 1 jv acc env) (fun r s₅=> match r with | .ok _=> ∃ m,m < n /\ I m s₅ | .error _=> False) s₄) E0 s₃) E0 s₂) E0 s₁') E0 s₁) E0 s)
  (n: Nat) (h: I n s): codeAny (model prog w) A (.compLoop (.ListComp elt [⟨t1,it1,[],0⟩,⟨t2,it2,[],0⟩] scope pos) 0 iv acc env) R s:= by
 refine codeAny_loop rfl I (fun n s hI=> ?_) n h
 show wpAny _ A ((compTurn (.ListComp elt [⟨t1,it1,[],0⟩,⟨t2,it2,[],0⟩] scope pos) 0 iv acc env).onRaise (fun x=> do noteFrame x env;theTreesLotGoes x)) _ _ s
 refine wpAny_noted ?_
 rw [compTurn_two0]
 have e0: ∀ (E: Value -> Shared -> Prop) e s,E0 e s -> E e s:= fun _ _ _ f=> f.elim
 refine wpAny_bind (wpAny_standAt (wpAny_bind (wpAny_mono (turn n s hI) (fun r s₁ h₁=> ?_) (e0 _))))
 cases r with
 | none=> exact wpAny_pure h₁
 | some v=>
  refine wpAny_bind (wpAny_mono h₁ (fun _ s₁' h₁'=> ?_) (e0 _))
  refine wpAny_bind (wpAny_mono h₁' (fun _ s₂ h₂=> ?_) (e0 _))
  refine wpAny_bind (wpAny_mono h₂ (fun x s₃ h₃=> ?_) (e0 _))
  refine wpAny_bind (wpAny_standAt (wpAny_bind (wpAny_of_eq (hs x) ?_)))
  refine wpAny_bind (wpAny_holding (wpAny_mono h₃ (fun jv s₄ h₄=> ?_) (e0 _)))
  refine wpAny_bind (wpAny_runOwn (codeAny_mono h₄ fun r s₅ h₅=> ?_))
  cases r with
  | ok f=> exact wpAny_pure ⟨rfl,h₅⟩
  | error e=> exact h₅.elim
theorem comp2_inner (I: Nat -> Shared -> Prop)
  (turn: ∀ n s,I n s -> wpAny (model prog w) A (pyNext iv) (fun r s₁=> match r with
   | none=> R (.ok .next) s₁
   | some v=> wpAny (model prog w) A (letOwnedTupleGo t2 iv v) (fun _ s₁'=> wpAny (model prog w) A (assign t2 env v) (fun _ s₂=>
     wpAny (model prog w) A (eval elt env) (fun x s₄=> wpAny (model prog w) A (call (.builtin "list.append") [acc,x]) (fun _ s₅=> ∃ m,m < n /\ I m s₅) E0 s₄) E0 s₂) E0 s₁') E0 s₁) E0 s)
  (n: Nat) (h: I n s): codeAny (model prog w) A (.compLoop (.ListComp elt [⟨t1,it1,[],0⟩,⟨t2,it2,[],0⟩] scope pos) 1 iv acc env) R s:= by
 refine codeAny_loop rfl I (fun n s hI=> ?_) n h
 show wpAny _ A ((compTurn (.ListComp elt [⟨t1,it1,[],0⟩,⟨t2,it2,[],0⟩] scope pos) 1 iv acc env).onRaise (fun x=> do noteFrame x env;theTreesLotGoes x)) _ _ s
 refine wpAny_noted ?_
 rw [compTurn_two1]
 have e0: ∀ (E: Value -> Shared -> Prop) e s,E0 e s -> E e s:= fun _ _ _ f=> f.elim
 refine wpAny_bind (wpAny_standAt (wpAny_bind (wpAny_mono (turn n s hI) (fun r s₁ h₁=> ?_) (e0 _))))
 cases r with
 | none=> exact wpAny_pure h₁
 | some v=>
  refine wpAny_bind (wpAny_mono h₁ (fun _ s₁' h₁'=> ?_) (e0 _))
  refine wpAny_bind (wpAny_mono h₁' (fun _ s₂ h₂=> ?_) (e0 _))
  exact wpAny_bind (wpAny_bind (wpAny_mono h₂ (fun x s₄ h₄=> wpAny_bind (wpAny_mono h₄ (fun _ s₅ h₅=> wpAny_pure (wpAny_pure ⟨rfl,h₅⟩)) (e0 _))) (e0 _)))
theorem compStart_two1
  (h0: codeAny (model prog w) A (.compLoop (.ListComp elt [⟨t1,it1,[],0⟩,⟨t2,it2,[],0⟩] scope pos) 1 iv acc env) R s)
  (h: wpAny (model prog w) A (pyIter iv) (fun it' s'=> codeAny (model prog w) A (.compLoop (.ListComp elt [⟨t1,it1,[],0⟩,⟨t2,it2,[],0⟩] scope pos) 1 it' acc env) R s')
   (notedBy (model prog w) A env fun x s'=> R (.error x) s') s) :
  codeAny (model prog w) A (.compStart (.ListComp elt [⟨t1,it1,[],0⟩,⟨t2,it2,[],0⟩] scope pos) 1 iv acc env) R s:= by
 refine codeAny_of_tree ?_
 show wpAny _ _ ((compStart (.ListComp elt [⟨t1,it1,[],0⟩,⟨t2,it2,[],0⟩] scope pos) 1 iv acc env).onRaise (fun x=> do noteFrame x env;standAt theWindowsPlace)) _ _ s
 refine wpAny_notedAt ?_
 unfold compStart
 show wpAny _ _ (ask >>= _) _ _ s
 refine wpAny_bind (wpAny_askSetting (wpAny_ite ?_))
 split
 ·first
   | exact wpAny_bind (wpAny_pure (wpAny_pure (And.intro rfl h0)))
   | exact wpAny_pure (And.intro rfl h0)
 ·first
   | exact wpAny_bind (wpAny_rule (wpAny_bind (wpAny_standAt (wpAny_bind (wpAny_mono h (fun it' s' h'=> wpAny_pure (And.intro rfl h')) fun _ _ x=> x)))))
   | (refine wpAny_bind (wpAny_rule ?_);show wpAny _ _ (standAt it2.pos >>= _) _ _ s;exact wpAny_bind (wpAny_standAt (wpAny_bind (wpAny_mono h (fun it' s' h'=> wpAny_pure (And.intro rfl h')) fun _ _ x=> x))))
end
section
variable {prog: Program} {w: World} {A: Around} {s: Shared} {c: Cfg} {env: Env} {Cs: List Addr} {D: Addr} {as bs: List Addr} {P P': Heap -> Prop} {F0 F1: Frm} {h₀: Heap} {σb σ σ': Hp} {hb h h': Heap} {acc: List V}
theorem CSt.join (x: CSt c env Cs D as P F0 h₀ σb hb acc σ h) (ko: ∀ b o,h.get? b = some o -> h'.get? b = some o) (sd: Stand bs P') (p: P' h') (bes: Beside bs h₀ σ h): CSt c env Cs D (as ++ bs) (fun h=> P h /\ P' h) F0 h₀ σb hb acc σ h':= by
 have y:= x.step (x.st.w.extend ko)
 have old: ∀ a,(∃ o,h.get? a = some o) -> a ∉ bs:= fun a ⟨o,e⟩ m=> by rw [(bes a m).1] at e;cases e
 have hbn: ∀ a ∈ bs,hb.get? a = none:= fun a m=> by
  cases q: hb.get? a with
  | none=> rfl
  | some o=> obtain ⟨o',e,_⟩:= x.st.alive a o q;rw [(bes a m).1] at e;cases e
 refine ⟨⟨y.it,p⟩,⟨fun q k t=> ⟨x.sd.move q.1 (fun a m=> k a (List.mem_append_left _ m)) t,sd.move q.2 (fun a m=> k a (List.mem_append_right _ m)) t⟩,fun q a m=> ?_,fun q a m=> ?_,fun q a m=> ?_⟩,y.lst,y.fr,y.st,y.bD,y.bC,fun a m=> ?_,⟨y.ne.1,fun m=> ?_,fun a ma m=> ?_⟩,fun z a e=> ?_⟩
 ·rcases List.mem_append.mp m with m | m
  ·exact x.sd.notImm q.1 a m
  ·exact sd.notImm q.2 a m
 ·rcases List.mem_append.mp m with m | m
  ·exact x.sd.there q.1 a m
  ·exact sd.there q.2 a m
 ·rcases List.mem_append.mp m with m | m
  ·exact x.sd.notD q.1 a m
  ·exact sd.notD q.2 a m
 ·rcases List.mem_append.mp m with m | m
  ·exact y.bI a m
  ·exact ⟨hbn a m,(bes a m).2⟩
 ·rcases List.mem_append.mp m with m | m
  ·exact y.ne.2.1 m
  ·obtain ⟨vs,k,e,_⟩:= x.lst;exact old D ⟨_,e⟩ m
 ·rcases List.mem_append.mp m with m | m
  ·exact y.ne.2.2 a ma m
  ·exact old a (x.fr.ex a ma) m
 ·obtain ⟨q1,q2,q3⟩:= y.cl z a e
  refine ⟨fun m=> ?_,q2,q3⟩
  rcases List.mem_append.mp m with m | m
  ·exact q1 m
  ·refine old a ?_ m
   rcases q3 with q | ⟨o,q⟩
   ·exact x.fr.ex a q
   ·exact (x.st.alive a o q).imp fun _ q=> q.1
theorem CSt.part (x: CSt c env Cs D (as ++ bs) (fun h=> P h /\ P' h) F0 h₀ σb hb acc σ h) (sd: Stand as P): CSt c env Cs D as P F0 h₀ σb hb acc σ h:=
 ⟨x.it.1,sd,x.lst,x.fr,x.st,x.bD,x.bC,fun a m=> x.bI a (List.mem_append_left _ m),⟨x.ne.1,fun m=> x.ne.2.1 (List.mem_append_left _ m),fun a ma m=> x.ne.2.2 a ma (List.mem_append_left _ m)⟩,
  fun y a e=> ⟨fun m=> (x.cl y a e).1 (List.mem_append_left _ m),(x.cl y a e).2⟩⟩
end
structure Comp2Ok (c: Cfg) (elt: Expr) (x1 x2: Str) (it1 it2: Expr) (scope: Scope) (a b1 b2: PE) (i j: Nat) (fm: List (Option Nat)): Prop where
 ok: scOk c scope.names = true
 kind: scope.kind = .function
 fm: fm = fmapOf c scope.names
 ci: CI c it1 .plain b1
 n1: (Cfg.mk scope.names c.fns Option.none).names[i]? = some x1
 n2: (Cfg.mk scope.names c.fns Option.none).names[j]? = some x2
 f1: (Cfg.mk scope.names c.fns Option.none).sc.lookup x1 ≠ some .free
 f2: (Cfg.mk scope.names c.fns Option.none).sc.lookup x2 ≠ some .free
 ne: i ≠ j
 c2: CE { sc:= scope.names,fns:= c.fns } it2 b2
 s2: ∀ env x,foldedSetIterable it2 env x = pure x
 ce: CE { sc:= scope.names,fns:= c.fns } elt a
inductive T2 (s: Shared) (Inv: Nat -> It -> List V -> Hp -> Prop) (cc: Cfg) (env': Env) (Cs: List Addr) (D: Addr) (as: List Addr) (PP: It -> Heap -> Prop) (F0: Frm) (h₀: Heap) (σ: Hp) (hb: Heap) (n: Nat) (s': Shared): Prop
 | mk (I: It) (acc: List V) (σ': Hp) (h1: Sm s s') (h2: Inv n I acc σ') (h3: CSt cc env' Cs D as (PP I) F0 h₀ σ hb acc σ' s'.heap): T2 s Inv cc env' Cs D as PP F0 h₀ σ hb n s'
section
variable {c: Cfg} {env: Env} {Cs: List Addr} {D: Addr} {as bs: List Addr} {F0 F1: Frm} {h₀: Heap} {σb σ: Hp} {hb h h': Heap} {acc: List V} {iv jv: Value} {I' J J': It}
theorem CSt.keep2 (x: CSt c env Cs D (as ++ bs) (fun h=> ItAt iv as I' h /\ ItAt jv bs J h) F1 h₀ σb hb acc σ h) (disj: ∀ a ∈ as,a ∉ bs) (kk: ∀ b o,b ∉ bs -> h.get? b = some o -> h'.get? b = some o): (∀ b o,b ∉ as ++ bs -> h.get? b = some o -> h'.get? b = some o) /\ ItAt iv as I' h':=
 ⟨fun b o nb e=> kk b o (fun m=> nb (List.mem_append_right _ m)) e,ItRep.move x.it.1 (fun a m o e=> kk a o (disj a m) e) (x.st.w.slip (fun a m=> (x.bI a (List.mem_append_right _ m)).2) (ItRep.notImm x.it.2) kk).2⟩
theorem CSt.leave (x: CSt c env Cs D (as ++ bs) (fun h=> ItAt iv as I' h /\ ItAt jv bs J h) F1 h₀ σb hb acc σ h) (sub: Sub0 F0 F1) (disj: ∀ a ∈ as,a ∉ bs) (kk: ∀ b o,b ∉ bs -> h.get? b = some o -> h'.get? b = some o): CSt c env Cs D as (ItAt iv as I') F0 h₀ σb hb acc σ h':= by
 have xp:= x.part stand_it
 have st:= StepX.slip x.st (fun a m=> x.bI a (List.mem_append_right _ m)) (ItRep.notImm x.it.2) kk
 have t:= (x.st.w.slip (fun a m=> (x.bI a (List.mem_append_right _ m)).2) (ItRep.notImm x.it.2) kk).2
 refine ⟨(x.keep2 disj kk).2,stand_it,?_,?_,st,xp.bD,xp.bC,xp.bI,xp.ne,xp.cl⟩
 ·obtain ⟨vs,j,e,r⟩:= x.lst
  exact ⟨vs,j,kk D _ (fun m=> x.ne.2.1 (List.mem_append_right _ m)) e,r.tups t⟩
 ·refine FrOk.move (x.fr.weak sub) (fun o e=> kk _ o (fun m=> x.ne.2.2 _ x.fr.loc.1 (List.mem_append_right _ m)) e) (fun y a e o e2=> kk a o (fun m=> (x.cl y a e).1 (List.mem_append_right _ m)) e2) t (fun a m=> ?_)
  obtain ⟨o,e⟩:= x.fr.ex a m
  exact ⟨o,kk a o (fun m'=> x.ne.2.2 a m (List.mem_append_right _ m')) e⟩
theorem CSt.next2 (x: CSt c env Cs D (as ++ bs) (fun h=> ItAt iv as I' h /\ ItAt jv bs J h) F1 h₀ σb hb acc σ h) (disj: ∀ a ∈ as,a ∉ bs) (kk: ∀ b o,b ∉ bs -> h.get? b = some o -> h'.get? b = some o) (itJ': ItAt jv bs J' h'): CSt c env Cs D (as ++ bs) (fun h=> ItAt iv as I' h /\ ItAt jv bs J' h) F1 h₀ σb hb acc σ h':= by
 obtain ⟨k1,k2⟩:= x.keep2 disj kk
 exact x.moved k1 (P':= fun h=> ItAt iv as I' h /\ ItAt jv bs J' h) ⟨k2,itJ'⟩ ⟨fun q k t=> ⟨ItRep.move q.1 (fun a m=> k a (List.mem_append_left _ m)) t,ItRep.move q.2 (fun a m=> k a (List.mem_append_right _ m)) t⟩,
  fun q a m=> (List.mem_append.mp m).elim (ItRep.notImm q.1 a) (ItRep.notImm q.2 a),fun q a m=> (List.mem_append.mp m).elim (ItRep.there q.1 a) (ItRep.there q.2 a),fun q a m=> (List.mem_append.mp m).elim (ItRep.notD q.1 a) (ItRep.notD q.2 a)⟩
end
theorem comp_tail2 {prog: Program} {w: World} {h₀: Heap} {mg mb: Str -> Option Value} {Φ: Fns} {n0: Nat} {c: Cfg} {A: Around} {s: Shared} {σ: Hp} {env: Env} {own: Addr -> Prop} {F: Frm} {hb: Heap} {I: It} {iv: Value} {as: List Addr} {elt it1 it2: Expr} {x1 x2': Str} {p1 p2: Pos} {scope: Scope} {pos: Pos} {a b1 b2: PE} {i j: Nat} {fm: List (Option Nat)} {Q: V -> Hp -> Prop}
  (C: Comp2Ok c elt x1 x2' it1 it2 scope a b1 b2 i j fm) (G: Gnd prog h₀ mg mb) (NM: NamesOk prog w h₀ mg n0 c.fns Φ) (R: Room A n0)
  (hwb: W h₀ σ hb) (hf: FrOk c env own F h₀ σ hb) (hfs: Frs A h₀ σ hb) (ko: ∀ b o,hb.get? b = some o -> s.heap.get? b = some o) (hit: ItRep s.heap iv as I) (bes: Beside as h₀ σ hb)
  (q: CompG2 Φ a i j b2 (frOf fm F) Q I σ) {RR: Value -> Addr -> Result -> Shared -> Prop} (hRR: CompEnd h₀ σ hb s Q RR) :
  wpAny (model prog w) A (newList []) (fun acc s₃=> wpAny (model prog w) A (newFunctionEnv scope env.globals (clGo env scope.names []) [] env.qual none .none (some env)) (fun cenv s₄=>
   codeAny (model prog w) A (.compStart (.ListComp elt [⟨.Name x1 p1,it1,[],0⟩,⟨.Name x2' p2,it2,[],0⟩] scope pos) 0 iv acc { cenv with scope:= relabel scope env }) (RR acc cenv.locals) s₄) E0 s₃) E0 s:= by
 obtain ⟨Inv,⟨n,hi⟩,hinv⟩:= q
 have hfm:= C.fm
 subst hfm
 have hh:= R.handled
 have fr1:= inner_free_at (F:= F) C.ok C.n1 C.f1
 have fr2:= inner_free_at (F:= F) C.ok C.n2 C.f2
 refine comp_setup hh C.ok C.kind hwb hf ko hit bes fun env' Cs D s₃ m₃ x0=> ?_
 refine comp2_outer (T2 s Inv { sc:= scope.names,fns:= c.fns } env' Cs D as (ItAt iv as) (frOf (fmapOf c scope.names) F) h₀ σ hb) (C.s2 env') (fun n s' hI=> ?_) n ⟨I,[],σ,m₃,hi,x0⟩
 obtain ⟨I,acc,σ',mI,hi,x⟩:= hI
 have q:= hinv n I acc σ' hi
 split at q
 ·exact q.elim
 ·rename_i hn
  exact next_end hh x.st.w x.it hn fun s'' mE kk=> x.over (mI.trans mE) kk q hRR
 ·rename_i xx I' hn
  refine next_item hh x.st.w x.it (fun a m=> (x.bI a m).2) hn fun y s₂ mm ry it' kk=> ?_
  have x2:= x.moved kk it' stand_it
  refine letGo_it it' (wpAny_assign_Name (x2.fr.store x2.st.w C.n1 C.f1 ry fun s₃ m3 stx f1=> ?_))
  have x3:= x2.bound stx f1
  have sub1: Sub0 (frOf (fmapOf c scope.names) F) ((frOf (fmapOf c scope.names) F).set i (some xx)):= sub_set fr1
  refine wpAny_mono (C.c2 ⟨G,NM,R,x3.st.w,x3.fr,hfs.step x3.st⟩ q) (fun v s₄ ⟨y4,σ4,r4,⟨st4,m4⟩,q4⟩=> ?_) fun _ _ f=> f
  have x4:= x3.step st4
  refine wpAny_mono (start_plain x4.st.w r4 q4) (fun jv s₅ ⟨m5,J,bs,itJ,besJ,koJ,Inv2,⟨k0,hi2⟩,hinv2⟩=> ?_) fun _ _ f=> f
  have x5:= x4.join koJ stand_it itJ besJ
  have mall: Sm s s₅:= ((((mI.trans mm).trans m3).trans m4).trans m5)
  have disj: ∀ a ∈ as,a ∉ bs:= fun a ma mb=> by
   obtain ⟨o,e⟩:= x4.sd.there x4.it a ma
   rw [(besJ a mb).1] at e;cases e
  have loop: codeAny (model prog w) A (.compLoop (.ListComp elt [⟨.Name x1 p1,it1,[],0⟩,⟨.Name x2' p2,it2,[],0⟩] scope pos) 1 jv (.ref D) env') (fun r s₅=> match r with | .ok _=> ∃ m,m < n /\ T2 s Inv { sc:= scope.names,fns:= c.fns } env' Cs D as (ItAt iv as) (frOf (fmapOf c scope.names) F) h₀ σ hb m s₅ | .error _=> False) s₅:= by
   refine comp2_inner (T2 s Inv2 { sc:= scope.names,fns:= c.fns } env' Cs D (as ++ bs) (fun J h=> ItAt iv as I' h /\ ItAt jv bs J h) ((frOf (fmapOf c scope.names) F).set i (some xx)) h₀ σ hb) (fun m s' hI=> ?_) k0 ⟨J,acc,σ4,mall,hi2,x5⟩
   obtain ⟨J,acc,σ',mJ,hi2,x⟩:= hI
   have q:= hinv2 m J acc σ' hi2
   split at q
   ·exact q.elim
   ·rename_i hn2
    refine next_end hh x.st.w x.it.2 hn2 fun s'' mE kk=> ?_
    obtain ⟨n',hn',q'⟩:= q
    exact ⟨n',hn',I',acc,σ',mJ.trans mE,q',x.leave sub1 disj kk⟩
   ·rename_i zz J' hn2
    refine next_item hh x.st.w x.it.2 (fun a m=> (x.bI a (List.mem_append_right _ m)).2) hn2 fun y s₂ mm ry itJ' kk=> ?_
    have x2:= x.next2 disj kk itJ'
    refine letGo_it itJ' (wpAny_assign_Name (x2.fr.store x2.st.w C.n2 C.f2 ry fun s₃ m3 stx f1=> ?_))
    have x3:= x2.bound stx f1
    have sub2: Sub0 ((frOf (fmapOf c scope.names) F).set i (some xx)) (((frOf (fmapOf c scope.names) F).set i (some xx)).set j (some zz)):= sub_set fun v e=> by
     rw [List.getElem?_set_ne C.ne] at e;exact fr2 v e
    refine wpAny_mono (C.ce ⟨G,NM,R,x3.st.w,x3.fr,hfs.step x3.st⟩ q) (fun v s₅ ⟨y5,σ5,r5,⟨st5,m5⟩,hl,m',hm,q5⟩=> ?_) fun _ _ f=> f
    exact (x3.step st5).append sub2 r5 hl fun s₆ m6 x6=> ⟨m',hm,J',_,σ5,((((mJ.trans mm).trans m3).trans m5).trans m6),q5,x6⟩
  exact compStart_two1 loop (pyIter_self hh itJ loop)
section
variable {c: Cfg} {p q p1 p2: Pos} {elt it1 it2: Expr} {x1 x2: Str} {scope: Scope} {a b1 b2: PE} {i j: Nat} {fm: List (Option Nat)}
theorem CE.comp2 (C: Comp2Ok c elt x1 x2 it1 it2 scope a b1 b2 i j fm): CE c (.ListComp elt [⟨.Name x1 p1,it1,[],0⟩,⟨.Name x2 p2,it2,[],0⟩] scope p) (.comp2 fm a i b1 j b2):= by
 intro prog w h₀ mg mb Φ n A s σ env own F Q X v
 rw [eval_ListComp]
 refine wpAny_comprehension_free (use:= .none) rfl (C.ci.1 env) (clos_ok C.ok X.f) C.kind (scOk_names C.ok) (wpAny_mono (C.ci.2 X v) (fun x s₁ h=> ?_) fun _ _ f=> f)
 refine wpAny_mono h (fun it s₂ ⟨σ₁,s₀,st,m₁,m₂,I,as,hit,bes,ko,q⟩=> ?_) fun _ _ f=> f
 exact comp_tail2 C X.G X.NM X.R st.w (X.f.step st) (X.fs.step st) ko hit bes q (rr_none st.w (fun _ s' pv m₃=> PVh.lift pv st (m₁.trans (m₂.trans m₃))))
end
set_option tactic.hygienic false
section
variable {σ: Hp} {Q: V -> Hp -> Prop} {a b: Addr} {xs: List V}
end
theorem fm_range {α: Type} (xs: List α): ∀ (m a: Nat),(((List.range m).map fun (k: Nat)=> a + k).filterMap (xs[·]?)) = (xs.drop a).take m
 | 0,a=> by simp
 | m + 1,a=> by
  rw [List.range_succ,List.map_append,List.filterMap_append,fm_range xs m a,List.take_add_one,List.getElem?_drop]
  simp only [List.map_cons,List.map_nil,List.filterMap_cons,List.filterMap_nil]
  cases xs[a + m]? <;> rfl
theorem pick_take {α: Type} (xs: List α) (k: Nat): pickI xs none (some (k: Int)) none = xs.take k:= by
 unfold pickI
 have h1: ¬ ((k: Int) < 0):= by exact Int.not_ofNat_neg k
 simp only [sliceBounds,sliceRange,Option.getD_none,h1,if_false,show (1: Int) > 0 by decide,if_true]
 have e: (List.map (fun (j: Nat)=> ((0: Int) + 1 * (j: Int)).toNat) (List.range (if max 0 (min (k: Int) xs.length) > 0 then (max 0 (min (k: Int) xs.length) - 0 + 1 - 1) / 1 else 0).toNat)) = (List.range (min k xs.length)).map fun j=> 0 + j:= by
  have: (if max 0 (min (k: Int) xs.length) > 0 then (max 0 (min (k: Int) xs.length) - 0 + 1 - 1) / 1 else 0).toNat = min k xs.length:= by
   rw [ar_clamp,Int.ediv_one,Int.sub_zero,Int.add_sub_cancel];split
   ·exact Int.toNat_natCast _
   ·rename_i h;exact (Nat.le_zero.mp (Int.ofNat_le.mp (Int.not_lt.mp h))).symm
  rw [this]
  refine List.map_congr_left fun j _=> ?_
  rw [Int.zero_add,Int.one_mul,Int.toNat_natCast,Nat.zero_add]
 first
  | rw [e]
  | (simp only [Int.zero_add] at e ⊢;rw [e])
 rw [fm_range,List.drop_zero]
 rcases Nat.le_total k xs.length with h | h
 ·rw [Nat.min_eq_left h]
 ·rw [Nat.min_eq_right h,List.take_length,List.take_of_length_le h]
theorem pick_mapV (xs: List V) (lo hi st: Option Int): pickL xs lo hi st = pickI xs lo hi st:= rfl
theorem slice_take {σ: Hp} {Q: V -> Hp -> Prop} {a: Addr} {xs: List V} {k: Nat} (e: listAt σ a = some xs) (hb: xs.length <= BIG) (q: newL (xs.take k) Q σ): opSlice (.ref a) .none (.int (k: Int)) .none Q σ:= by
 refine ⟨_,e,?_⟩
 show none ≠ some (0: Int) /\ newL (pickL xs none (some (k: Int)) none) _ σ
 refine ⟨by simp,?_⟩
 rw [pick_mapV,pick_take];exact q
theorem in_rule {Φ: Fns} {elt: PE} {j: Nat} {F1: Frm} {K: List V -> Hp -> Prop} {σ: Hp} {a: Addr} {zs pre: List V} (ha: listAt σ a = some zs) (hb: pre.length + zs.length <= BIG) (he: ∀ z (K: V -> Hp -> Prop),K z σ -> vE Φ elt K (F1.set j (some z)) σ) (q: K (pre ++ zs) σ): InG Φ elt j F1 K (.lst a 0) pre σ:= by
 refine ⟨fun m J acc τ=> ∃ k,k + m = zs.length /\ Yields (· = σ) J (zs.drop k) /\ acc = pre ++ zs.take k /\ τ = σ,⟨zs.length,0,Nat.zero_add _,by have:= yields_lst (H:= (· = σ)) (a:= a) (xs:= zs) (fun τ h=> by rw [h];exact ha) _ 0 rfl;simpa using this,by simp,rfl⟩,?_⟩
 rintro m J acc τ ⟨k,hk,hy,rfl,rfl⟩
 cases m with
 | zero=>
  have hk: k = _:= hk
  rw [List.drop_eq_nil_of_le (Nat.le_of_eq hk.symm)] at hy
  rw [hy _ rfl,List.take_of_length_le (Nat.le_of_eq hk.symm)]
  exact q
 | succ m=>
  have hk': k < zs.length:= by exact ar_f3 hk rfl
  rw [List.drop_eq_getElem_cons hk'] at hy
  obtain ⟨J',e2,hy'⟩:= hy
  rw [e2 _ rfl]
  refine he _ _ ⟨by rw [List.length_append,List.length_take];lia,m,Nat.lt_succ_self m,k + 1,by lia,hy',?_,rfl⟩
  rw [List.take_add_one,List.getElem?_eq_getElem hk',List.append_assoc];rfl
theorem comp2_rule {Φ: Fns} {elt b2: PE} {i j: Nat} {F0: Frm} {Q: V -> Hp -> Prop} {σ: Hp} {I: It} {xs: List V} (ks: V -> List V) (hb: (xs.flatMap ks).length <= BIG) (hy: Yields (· = σ) I xs)
  (h2: ∀ x ∈ xs,∀ K: V -> Hp -> Prop,(∀ a,listAt σ a = some (ks x) -> K (.ref a) σ) -> vE Φ b2 K (F0.set i (some x)) σ)
  (he: ∀ x z (K: V -> Hp -> Prop),K z σ -> vE Φ elt K ((F0.set i (some x)).set j (some z)) σ) (q: newL (xs.flatMap ks) Q σ): CompG2 Φ elt i j b2 F0 Q I σ:= by
 refine ⟨fun n I acc τ=> ∃ k,k + n = xs.length /\ Yields (· = σ) I (xs.drop k) /\ acc = (xs.take k).flatMap ks /\ τ = σ,⟨xs.length,0,Nat.zero_add _,hy,rfl,rfl⟩,?_⟩
 rintro n I acc τ ⟨k,hk,hy,rfl,rfl⟩
 cases n with
 | zero=>
  have hk: k = _:= hk
  rw [List.drop_eq_nil_of_le (Nat.le_of_eq hk.symm)] at hy
  rw [hy _ rfl,List.take_of_length_le (Nat.le_of_eq hk.symm)]
  exact q
 | succ n=>
  have hk': k < xs.length:= by exact ar_f3 hk rfl
  rw [List.drop_eq_getElem_cons hk'] at hy
  obtain ⟨I',e,hy'⟩:= hy
  rw [e _ rfl]
  have e1: (xs.take (k + 1)).flatMap ks = (xs.take k).flatMap ks ++ ks xs[k]:= by rw [List.take_add_one,List.getElem?_eq_getElem hk',List.flatMap_append,Option.toList_some,List.flatMap_singleton]
  have hl: ((xs.take k).flatMap ks).length + (ks xs[k]).length <= BIG:= by
   rw [<- List.length_append,<- e1]
   refine Nat.le_trans ?_ hb
   conv=> rhs;rw [<- List.take_append_drop (k + 1) xs,List.flatMap_append,List.length_append]
   exact Nat.le_add_right _ _
  exact h2 _ (List.getElem_mem hk') _ fun a ha=> ⟨⟨_,ha⟩,in_rule ha hl (he _) ⟨n,Nat.lt_succ_self n,k + 1,by lia,hy',e1.symm,rfl⟩⟩
section
variable {α β: Type} (lt: β -> β -> Bool) (kf: α -> β)
noncomputable def leK (a b: α): Bool:= !lt (kf b) (kf a)
noncomputable def stab (xs: List α): List α:= xs.mergeSort (leK lt kf)
noncomputable def RI (a b: α × Nat): Prop:= lt (kf b.1) (kf a.1) = false /\ (lt (kf a.1) (kf b.1) = false -> a.2 < b.2)
variable {lt kf}
theorem stab_length (xs: List α): (stab lt kf xs).length = xs.length:= List.length_mergeSort ..
theorem zip_trans (S: SW lt) (a b c: α × Nat) (x: List.zipIdxLE (leK lt kf) a b = true) (y: List.zipIdxLE (leK lt kf) b c = true): List.zipIdxLE (leK lt kf) a c = true:= by
 unfold List.zipIdxLE leK at *
 simp only [Bool.not_eq_true',Bool.if_false_right,Bool.if_true_right,Bool.and_eq_true,Bool.or_eq_true,decide_eq_true_eq] at *
 obtain ⟨x1,x2⟩:= x
 obtain ⟨y1,y2⟩:= y
 refine ⟨S.le y1 x1,?_⟩
 cases h: lt (kf a.fst) (kf c.fst) with
 | true=> simp
 | false=>
  have q1: lt (kf b.fst) (kf c.fst) = false:= S.le x1 h
  have q2: lt (kf a.fst) (kf b.fst) = false:= S.le h y1
  simp_all
  (exact Nat.le_trans x2 y2)
theorem zip_tot (S: SW lt) (a b: α × Nat): (List.zipIdxLE (leK lt kf) a b || List.zipIdxLE (leK lt kf) b a) = true:= by
 unfold List.zipIdxLE leK
 cases h: lt (kf b.1) (kf a.1) <;> cases g: lt (kf a.1) (kf b.1) <;> simp
 ·(exact Nat.le_total a.snd b.snd)
 ·rw [S.asym _ _ h] at g;cases g
theorem zip_idx_mem {xs: List α} {a: α × Nat} (m: a ∈ xs.zipIdx): xs[a.2]? = some a.1:= by
 obtain ⟨x,i⟩:= a
 simpa [List.mem_zipIdx_iff_getElem?] using m
theorem zip_idx_eq {xs: List α} {a b: α × Nat} (m: a ∈ xs.zipIdx) (n: b ∈ xs.zipIdx) (e: a.2 = b.2): a = b:= by
 have h1:= zip_idx_mem m
 have h2:= zip_idx_mem n
 rw [e,h2] at h1
 cases a;cases b;simp_all
theorem RI.zip {a b: α × Nat} (h: RI lt kf a b): List.zipIdxLE (leK lt kf) a b = true:= by
 unfold List.zipIdxLE leK
 rw [h.1]
 simp
 cases g: lt (kf a.1) (kf b.1) with
 | true=> simp
 | false=> have:= h.2 g;simp;(exact Nat.le_of_succ_le this)
theorem stab_take (S: SW lt) {xs: List α} {r rest: List (α × Nat)} (p: (r ++ rest).Perm xs.zipIdx) (up: r.Pairwise (RI lt kf)) (ab: ∀ a ∈ r,∀ b ∈ rest,RI lt kf a b): r.map (·.1) = (stab lt kf xs).take r.length:= by
 have e: xs.zipIdx.mergeSort (List.zipIdxLE (leK lt kf)) = r ++ rest.mergeSort (List.zipIdxLE (leK lt kf)):= by
  refine List.Perm.eq_of_pairwise (le:= fun a b=> List.zipIdxLE (leK lt kf) a b = true) (fun a b ma mb h g=> ?_) (List.pairwise_mergeSort (zip_trans S) (zip_tot S) _) ?_ ?_
  ·refine zip_idx_eq ((List.mergeSort_perm _ _).mem_iff.mp ma) (p.mem_iff.mp ?_) ?_
   ·rcases List.mem_append.mp mb with m | m
    ·exact List.mem_append_left _ m
    ·exact List.mem_append_right _ ((List.mergeSort_perm _ _).mem_iff.mp m)
   ·unfold List.zipIdxLE at h g
    split at h
    ·rename_i h1
     split at g
     ·rename_i g1
      simp_all;(exact Nat.le_antisymm h g)
     ·simp_all
    ·simp_all
  ·rw [List.pairwise_append]
   refine ⟨up.imp RI.zip,List.pairwise_mergeSort (zip_trans S) (zip_tot S) _,fun a ma b mb=> (ab a ma b ((List.mergeSort_perm _ _).mem_iff.mp mb)).zip⟩
  ·exact (List.mergeSort_perm _ _).trans (p.symm.trans (List.Perm.append_left _ (List.mergeSort_perm _ _).symm))
 have e2:= List.mergeSort_zipIdx (le:= leK lt kf) (l:= xs)
 rw [e,List.map_append] at e2
 unfold stab
 rw [<- e2,List.take_append_of_le_length (by simp),<- List.map_take,List.take_length]
theorem RI.of {a b: α × Nat} (S: SW lt) (h: lt (kf a.1) (kf b.1) = true): RI lt kf a b:= ⟨S.asym _ _ h,fun e=> by rw [h] at e;cases e⟩
theorem RI.eq {a b: α × Nat} (h: lt (kf b.1) (kf a.1) = false) (g: a.2 < b.2): RI lt kf a b:= ⟨h,fun _=> g⟩
theorem RI.less {a b c: α × Nat} (S: SW lt) (h: lt (kf a.1) (kf b.1) = true) (g: RI lt kf b c): RI lt kf a c:= by
 rcases S.neg _ (kf c.1) _ h with q | q
 ·exact .of S q
 ·rw [g.1] at q;cases q
structure Ent (α β: Type) where
 k: β
 o: Nat
 x: α
 i: Nat
noncomputable def Ent.pr (e: Ent α β): α × Nat:= (e.x,e.i)
structure EntLt (lt: β -> β -> Bool) (ltT: Ent α β -> Ent α β -> Bool): Prop where
 sw: SW ltT
 key: ∀ a b: Ent α β,lt a.k b.k = true -> ltT a b = true
 ord: ∀ a b: Ent α β,lt a.k b.k = false -> lt b.k a.k = false -> a.o < b.o -> ltT a b = true
structure HSt (lt: β -> β -> Bool) (kf: α -> β) (ltT: Ent α β -> Ent α β -> Bool) (xs: List α) (m nx: Nat) (hs: List (Ent α β)): Prop where
 ex: ∃ rest: List (α × Nat),(hs.map Ent.pr ++ rest).Perm (xs.take m).zipIdx /\ ∀ e ∈ hs,∀ b ∈ rest,RI lt kf e.pr b
 ok: ∀ e ∈ hs,e.k = kf e.x /\ e.o < nx
 mono: ∀ e ∈ hs,∀ e' ∈ hs,e.i < e'.i -> e.o < e'.o
 hf: HF ltT hs 0
variable {ltT: Ent α β -> Ent α β -> Bool} {xs: List α}
theorem zip_idx_lt {n: Nat} {a: α × Nat} (m: a ∈ (xs.take n).zipIdx): a.2 < n:= by
 have h:= zip_idx_mem m
 have:= (List.getElem?_eq_some_iff.mp h).1
 simp at this;(exact ar_k14 this)
theorem zip_idx_nodup: (xs.zipIdx.map (·.2)).Nodup:= by
 rw [show (fun x: α × Nat=> x.2) = Prod.snd from rfl,List.zipIdx_map_snd]
 exact List.nodup_range'
theorem HSt.idx {m nx: Nat} {hs: List (Ent α β)} (H: HSt lt kf ltT xs m nx hs): (hs.map Ent.i).Nodup /\ ∀ e ∈ hs,e.i < m:= by
 obtain ⟨rest,p,_⟩:= H.ex
 have h1: ((hs.map Ent.pr ++ rest).map (·.2)).Nodup:= (p.map _).nodup_iff.mpr zip_idx_nodup
 rw [List.map_append,List.map_map] at h1
 refine ⟨(List.nodup_append.mp h1).1,fun e me=> ?_⟩
 exact zip_idx_lt (a:= e.pr) (p.mem_iff.mp (List.mem_append_left _ (List.mem_map_of_mem me)))
theorem HSt.start {n: Nat} (L: EntLt lt ltT) {hs: List (Ent α β)} (hm: hs.map Ent.pr = (xs.take n).zipIdx) (ok: ∀ e ∈ hs,e.k = kf e.x /\ e.o = e.i): HSt lt kf ltT xs n n (heapifyF ltT hs):= by
 obtain ⟨h1,h2⟩:= heapify_ok L.sw hs
 have hi: ∀ e ∈ heapifyF ltT hs,e.i < n:= fun e me=> by
  have: e.pr ∈ hs.map Ent.pr:= List.mem_map_of_mem (h2.mem_iff.mp me)
  rw [hm] at this
  exact zip_idx_lt this
 refine ⟨⟨[],?_,fun e _ b m=> by cases m⟩,fun e me=> ⟨(ok e (h2.mem_iff.mp me)).1,?_⟩,fun e me e' me' h=> ?_,h1⟩
 ·rw [List.append_nil,<- hm];exact h2.map _
 ·rw [(ok e (h2.mem_iff.mp me)).2];exact hi e me
 ·rw [(ok e (h2.mem_iff.mp me)).2,(ok e' (h2.mem_iff.mp me')).2];exact h
theorem HSt.top {m nx: Nat} {hs: List (Ent α β)} (S: SW lt) (L: EntLt lt ltT) (H: HSt lt kf ltT xs m nx hs) {t: Ent α β} {l: List (Ent α β)} (e: hs = t :: l): ∀ e ∈ l,RI lt kf e.pr t.pr:= by
 subst e
 intro e me
 have h1:= H.hf.top_mem L.sw (t:= t) rfl e (.tail _ me)
 have h2: lt t.k e.k = false:= by
  cases q: lt t.k e.k with
  | false=> rfl
  | true=> rw [L.key _ _ q] at h1;cases h1
 have o1:= H.ok e (.tail _ me)
 have o2:= H.ok t (.head _)
 rw [o1.1,o2.1] at h2
 refine ⟨h2,fun h3=> ?_⟩
 have h4: ¬ t.o < e.o:= fun q=> by rw [L.ord t e (by rw [o1.1,o2.1];exact h2) (by rw [o1.1,o2.1];exact h3) q] at h1;cases h1
 have h5: ¬ t.i < e.i:= fun q=> h4 (H.mono t (.head _) e (.tail _ me) q)
 have h6: e.i ≠ t.i:= fun q=> by
  have:= H.idx.1
  rw [List.map_cons,List.nodup_cons] at this
  exact this.1 (by rw [<- q];exact List.mem_map_of_mem me)
 show e.i < t.i
 (exact ar_k31 h5 (id (Ne.symm h6)))
theorem take_zip_succ {m: Nat} {x: α} (hx: xs[m]? = some x): (xs.take (m + 1)).zipIdx = (xs.take m).zipIdx ++ [(x,m)]:= by
 have hl:= (List.getElem?_eq_some_iff.mp hx).1
 rw [List.take_add_one,hx,List.zipIdx_append,List.length_take,Nat.min_eq_left (by exact Nat.le_of_succ_le hl)]
 simp
theorem HSt.skip {m nx: Nat} {hs: List (Ent α β)} (S: SW lt) (L: EntLt lt ltT) (H: HSt lt kf ltT xs m nx hs) {x: α} (hx: xs[m]? = some x) {t: Ent α β} (ht: hs[0]? = some t) (h: lt (kf x) t.k = false): HSt lt kf ltT xs (m + 1) nx hs:= by
 obtain ⟨rest,p,q⟩:= H.ex
 refine ⟨⟨rest ++ [(x,m)],?_,fun e me b mb=> ?_⟩,H.ok,H.mono,H.hf⟩
 ·rw [take_zip_succ hx,<- List.append_assoc];exact p.append_right _
 ·rcases List.mem_append.mp mb with mb | mb
  ·exact q e me b mb
  ·simp at mb;subst mb
   have o2:= H.ok t (List.mem_of_getElem? ht)
   rw [o2.1] at h
   refine .eq ?_ (H.idx.2 e me)
   cases hs with
   | nil=> simp at ht
   | cons t' l=>
    simp at ht;subst ht
    rcases List.mem_cons.mp me with rfl | me
    ·exact h
    ·have h2:= H.top S L rfl e me
     exact S.le (c:= kf e.x) h h2.1
theorem HSt.put {m nx: Nat} {hs: List (Ent α β)} (S: SW lt) (L: EntLt lt ltT) (H: HSt lt kf ltT xs m nx hs) {x: α} (hx: xs[m]? = some x) {t: Ent α β} (ht: hs[0]? = some t) (h: lt (kf x) t.k = true) {e: Ent α β} (he: e = ⟨kf x,nx,x,m⟩) :
  HSt lt kf ltT xs (m + 1) (nx + 1) (siftF ltT (hs.set 0 e) 0 e):= by
 obtain ⟨rest,p,q⟩:= H.ex
 have hn: 0 < hs.length:= lt_of_some ht
 obtain ⟨h1,h2⟩:= replace_ok L.sw H.hf e hn
 cases hs with
 | nil=> simp at hn
 | cons t' l=>
 simp at ht;subst ht
 have h3: (siftF ltT ((t' :: l).set 0 e) 0 e).Perm (e :: l):= by simpa using h2
 have o2:= H.ok t' (.head _)
 rw [o2.1] at h
 have tp:= H.top S L rfl
 have ne: ∀ b,RI lt kf t'.pr b -> RI lt kf e.pr b:= fun b g=> .less (b:= t'.pr) S (by subst he;exact h) g
 refine ⟨⟨t'.pr :: rest,?_,fun e' me b mb=> ?_⟩,fun e' me=> ?_,fun e' me e'' me' g=> ?_,h1⟩
 ·rw [take_zip_succ hx]
  have a1: ((siftF ltT ((t' :: l).set 0 e) 0 e).map Ent.pr ++ t'.pr :: rest).Perm ((e :: l).map Ent.pr ++ t'.pr :: rest):= (h3.map _).append_right _
  refine a1.trans ?_
  have a2: ((e :: l).map Ent.pr ++ t'.pr :: rest).Perm ((x,m) :: ((t' :: l).map Ent.pr ++ rest)):= by
   subst he
   simp only [List.map_cons,List.cons_append]
   exact List.Perm.cons _ List.perm_middle
  refine a2.trans ((p.cons _).trans ?_)
  exact (List.perm_append_singleton _ _).symm
 ·rcases List.mem_cons.mp (h3.mem_iff.mp me) with rfl | me
  ·rcases List.mem_cons.mp mb with rfl | mb
   ·exact .of S (by subst he;exact h)
   ·exact ne b (q t' (.head _) b mb)
  ·rcases List.mem_cons.mp mb with rfl | mb
   ·exact tp e' me
   ·exact q e' (.tail _ me) b mb
 ·rcases List.mem_cons.mp (h3.mem_iff.mp me) with rfl | me
  ·subst he;exact ⟨rfl,Nat.lt_succ_self _⟩
  ·have:= H.ok e' (.tail _ me);exact ⟨this.1,by lia⟩
 ·have i2:= H.idx.2
  rcases List.mem_cons.mp (h3.mem_iff.mp me) with rfl | me <;> rcases List.mem_cons.mp (h3.mem_iff.mp me') with q2 | me'
  ·rw [q2] at g;lia
  ·have:= i2 e'' (.tail _ me');subst he;simp at g;lia
  ·have:= (H.ok e' (.tail _ me)).2;rw [q2,he];simpa using this
  ·exact H.mono e' (.tail _ me) e'' (.tail _ me') g
theorem HSt.done {nx: Nat} {hs ys: List (Ent α β)} (S: SW lt) (L: EntLt lt ltT) (H: HSt lt kf ltT xs xs.length nx hs) (p: ys.Perm hs) (up: ys.Pairwise fun a b=> ltT b a = false): ys.map Ent.x = (stab lt kf xs).take hs.length:= by
 obtain ⟨rest,p2,q⟩:= H.ex
 rw [List.take_length] at p2
 have nd: ys.Pairwise fun a b=> a.i ≠ b.i:= by
  have:= H.idx.1
  have h2: (ys.map Ent.i).Nodup:= (p.map Ent.i).nodup_iff.mpr this
  rw [List.Nodup,List.pairwise_map] at h2
  exact h2
 have r1: (ys.map Ent.pr).Pairwise (RI lt kf):= by
  rw [List.pairwise_map]
  refine (up.and nd).imp_of_mem fun {a b} ma mb h=> ?_
  have oa:= H.ok a (p.mem_iff.mp ma)
  have ob:= H.ok b (p.mem_iff.mp mb)
  have h2: lt b.k a.k = false:= by
   cases q: lt b.k a.k with
   | false=> rfl
   | true=> have:= h.1;rw [L.key _ _ q] at this;cases this
  refine ⟨by rw [oa.1,ob.1] at h2;exact h2,fun g=> ?_⟩
  have h4: ¬ b.o < a.o:= fun q=> by have:= h.1;rw [L.ord b a h2 (by rw [oa.1,ob.1];exact g) q] at this;cases this
  have h5: ¬ b.i < a.i:= fun q=> h4 (H.mono b (p.mem_iff.mp mb) a (p.mem_iff.mp ma) q)
  have:= h.2
  show a.i < b.i
  (exact ar_k31 h5 (id (Ne.symm this)))
 have:= stab_take S (((p.map Ent.pr).append_right rest).trans p2) r1 (fun a ma b mb=> by
  obtain ⟨e,me,rfl⟩:= List.mem_map.mp ma
  exact q e (p.mem_iff.mp me) b mb)
 rw [List.map_map,List.length_map,p.length_eq] at this
 exact this
theorem argBest_R {bt: Nat -> Nat -> Bool} (Wk: Weak bt): ∀ k i,i <= k -> i ≠ argBest bt k -> R bt (argBest bt k) i:= by
 intro k
 induction k with
 | zero=> intro i hi hn;exact absurd (show i = 0 by exact Nat.eq_zero_of_le_zero hi) hn
 | succ k ih=>
  intro i hi hn
  unfold argBest at hn ⊢
  split at hn
  ·rename_i h
   rw [if_pos h]
   refine R.of_lt Wk ?_
   by_cases e: i = argBest bt k
   ·rw [e];exact h
   ·have hk: i <= k:= by lia
    exact Wk.lt_le h (ih i hk e).1
  ·rename_i h
   rw [if_neg h]
   by_cases e: i = k + 1
   ·subst e
    exact ⟨by simpa using h,fun _=> by have:= argBest_le bt k;(exact Nat.lt_of_le_of_lt this hi)⟩
   ·exact ih i (by lia) hn
theorem stab_one (S: SW lt) {xs: List α} {d: α} (h0: 0 < xs.length) {bt: Nat -> Nat -> Bool} (hb: ∀ i j,bt i j = lt (kf (xs.getD i d)) (kf (xs.getD j d))) {y: α} (hy: xs[argBest bt (xs.length - 1)]? = some y): (stab lt kf xs).take 1 = [y]:= by
 have Wk: Weak bt:= ⟨fun a b h=> by rw [hb] at h ⊢;exact S.asym _ _ h,fun a b c h=> by rw [hb] at h;rw [hb,hb];exact S.neg _ _ _ h⟩
 generalize hj: argBest bt (xs.length - 1) = j at *
 have hl:= (List.getElem?_eq_some_iff.mp hy).1
 have m: (y,j) ∈ xs.zipIdx:= by rw [List.mem_zipIdx_iff_getElem?];exact hy
 obtain ⟨l1,l2,e⟩:= List.append_of_mem m
 have p: ([(y,j)] ++ (l1 ++ l2)).Perm xs.zipIdx:= by rw [e];exact (List.perm_middle (a:= (y,j)) (l₁:= l1) (l₂:= l2)).symm
 have:= stab_take S p (List.pairwise_singleton _ _) (fun a ma b mb=> by
  simp at ma;subst ma
  have mb': b ∈ xs.zipIdx:= p.mem_iff.mp (List.mem_append_right _ mb)
  have hb1:= zip_idx_mem mb'
  have hbl:= (List.getElem?_eq_some_iff.mp hb1).1
  have ne: b.2 ≠ j:= fun q=> by
   have nd: ((xs.zipIdx).map (·.2)).Nodup:= zip_idx_nodup
   have nd2:= (p.map (·.2)).nodup_iff.mpr nd
   simp only [List.singleton_append,List.map_cons,List.nodup_cons] at nd2
   exact nd2.1 (by rw [<- q];exact List.mem_map_of_mem mb)
  have r:= argBest_R Wk (xs.length - 1) b.2 (by exact (Nat.le_sub_one_iff_lt h0).mpr hbl) (by rw [hj];exact ne)
  rw [hj] at r
  have g1: xs.getD j d = y:= by simp [List.getD_eq_getElem?_getD,hy]
  have g2: xs.getD b.2 d = b.1:= by simp [List.getD_eq_getElem?_getD,hb1]
  unfold R at r
  rw [hb,hb,g1,g2] at r
  exact r)
 simpa using this.symm
theorem stab_all (S: SW lt) {xs: List α} {d: α} {p: Array Nat} (hp: Pre xs.length p xs.length) (hu: Up (fun i j=> lt (kf (xs.getD i d)) (kf (xs.getD j d))) p xs.length): p.toList.map (fun i=> xs.getD i d) = stab lt kf xs:= by
 have hm: ∀ i ∈ p.toList,i < xs.length:= fun i m=> by have:= hp.perm.mem_iff.mp m;simpa using this
 have e0: (List.range xs.length).map (fun i=> (xs.getD i d,i)) = xs.zipIdx:= by
  apply List.ext_getElem?;intro i
  rcases Nat.lt_or_ge i xs.length with h | h
  ·simp [h]
  ·rw [List.getElem?_eq_none (by simpa using h),List.getElem?_eq_none (by simpa using h)]
 have:= stab_take (lt:= lt) (kf:= kf) (xs:= xs) S (r:= p.toList.map fun i=> (xs.getD i d,i)) (rest:= []) (by rw [List.append_nil,<- e0];exact hp.perm.map _) (by
  rw [List.pairwise_map]
  exact (up_pairs hp.size hu).imp fun h=> h) (fun a _ b m=> by cases m)
 rw [List.map_map] at this
 have hl: p.toList.length = xs.length:= by have:= hp.size;simpa using this
 rw [List.length_map,hl,<- stab_length (lt:= lt) (kf:= kf) xs,List.take_length] at this
 exact this
end
noncomputable def iLt (a b: Int): Bool:= decide (a < b)
theorem iLt_sw: SW iLt:= ⟨fun a b h=> by unfold iLt at *;simp at *;(exact Int.le_of_lt h),fun a b c h=> by unfold iLt at *;simp at *;lia⟩
theorem Sorts.congr {X: Addr -> Prop} {h: Heap} {vs: List Value} {lt lt': Nat -> Nat -> Bool} (S: Sorts X h vs lt) (e: ∀ i j,i < vs.length -> j < vs.length -> lt' i j = lt i j): Sorts X h vs lt':= by
 obtain ⟨κ,q⟩:= S
 exact ⟨κ,fun prog w A s hu k=> ⟨(q prog w A s hu k).1,fun i j C hi hj hc=> (q prog w A s hu k).2 i j C hi hj (by rw [<- e i j hi hj];exact hc)⟩⟩
theorem SW.of {γ δ: Type} {lt: δ -> δ -> Bool} (S: SW lt) (g: γ -> δ): SW (fun a b=> lt (g a) (g b)):= ⟨fun a b=> S.asym _ _,fun a b c=> S.neg _ _ _⟩
noncomputable def eB (e: Ent Int Int): List Int:= [e.k,e.o,e.x]
noncomputable def lB (a b: Ent Int Int): Bool:= ltI (eB a) (eB b)
noncomputable def tB (e: Ent Int Int): V:= .tup [.int e.k,.int e.o,.int e.x]
theorem entLt_B: EntLt iLt lB:= by
 refine ⟨ltI_sw.of eB,fun a b h=> ?_,fun a b h g o=> ?_⟩
 ·unfold iLt at h;simp at h;unfold lB eB;simp only [ltI];rw [if_neg (by exact Int.ne_of_lt h)];simpa using h
 ·unfold iLt at h g;simp at h g
  unfold lB eB;simp only [ltI];rw [if_pos (by exact Int.le_antisymm g h),if_neg (by lia)];simp;(exact Nat.lt_of_succ_le o)
theorem getD_map' {γ δ: Type} (g: γ -> δ) (xs: List γ) (d: γ) (d': δ) {i: Nat} (h: i < xs.length): (xs.map g).getD i d' = g (xs.getD i d):= by simp [h]
theorem sorts_ents {X: Addr -> Prop} {es: List (Ent Int Int)} {tv: Ent Int Int -> V} {ge: Ent Int Int -> List Int} (h: ∀ e ∈ es,tv e = tupV (ge e)) (hn: ∀ e,ge e ≠ []) (h2: 2 <= es.length) {hp: Heap} {vs: List Value} (r: Reps hp vs (es.map tv)) (D: Ent Int Int) :
  Sorts X hp vs (fun i j=> ltI (ge (es.getD i D)) (ge (es.getD j D))):= by
 have e1: es.map tv = (es.map ge).map fun x=> .tup (x.map .int):= by rw [List.map_map];exact List.map_congr_left h
 rw [e1] at r
 have hl: vs.length = es.length:= by rw [r.length];simp
 refine (sorts_tups (by simpa using h2) r (fun x m=> by obtain ⟨e,_,rfl⟩:= List.mem_map.mp m;exact hn e)).congr fun i j hi hj=> ?_
 rw [getD_map' ge es D [] (by exact Nat.lt_of_lt_of_eq hi hl),getD_map' ge es D [] (by exact Nat.lt_of_lt_of_eq hj hl)]
noncomputable def ps_nsOne: List PS:= [.assign (.name 3) (.call .iter [(.var 1)]),.assign (.name 4) (.call .object []),.assign (.name 5) (.mink (.var 3) (.var 4) (.var 2)),.ret (.ite (.cmp .Is (.var 5) (.var 4)) (.list []) (.list [(.var 5)]))]
noncomputable def ps_nsSrt: List PS:= [.ifs (.cmp .GtE (.var 0) (.var 6)) [.ret (.slice (.sortk (.var 1) (.var 2)) none (some (.var 0)) none)] []]
noncomputable def ps_nsLoopA: List PS:= [.ifs (.cmp .Lt (.var 7) (.var 8)) [.expr (.vcall 10 [(.var 5),(.tuple [(.var 7),(.var 9)])]),.assign (.tup [8,11]) (.sub (.var 5) (.int 0)),.aug 9 .Add (.int 1)] []]
noncomputable def ps_nsLoopB: List PS:= [.assign (.name 12) (.vcall 2 [(.var 7)]),.ifs (.cmp .Lt (.var 12) (.var 8)) [.expr (.vcall 10 [(.var 5),(.tuple [(.var 12),(.var 9),(.var 7)])]),.assign (.tup [8,11,13]) (.sub (.var 5) (.int 0)),.aug 9 .Add (.int 1)] []]
noncomputable def ps_nsMid: List PS:= [.ifs (.not (.var 5)) [.ret (.var 5)] [],.expr (.ucall 3 [(.var 5)]),.assign (.name 8) (.sub (.sub (.var 5) (.int 0)) (.int 0)),.assign (.name 9) (.var 0),.assign (.name 10) (.gfn 2)]
noncomputable def ps_nsEndA: List PS:= [.expr (.meth .sort (.var 5) []),.ret (.comp [none,none,none] (.var 1) (.tup [1,2]) .plain (.var 5) [])]
noncomputable def ps_nsEndB: List PS:= [.expr (.meth .sort (.var 5) []),.ret (.comp [none,none,none,none] (.var 3) (.tup [1,2,3]) .plain (.var 5) [])]
noncomputable def ps_nsA: List PS:= .assign (.name 3) (.call .iter [(.var 1)]) :: .zipc 5 [none,none,none] 1 2 [(.var 2),(.var 1)] (.call .range [(.var 0)]) (.var 3) :: (ps_nsMid ++ .forx 7 (.var 3) ps_nsLoopA :: ps_nsEndA)
noncomputable def ps_nsB: List PS:= .assign (.name 3) (.call .iter [(.var 1)]) :: .zipc 5 [none,none,none,some 2] 1 2 [(.vcall 3 [(.var 2)]),(.var 1),(.var 2)] (.call .range [(.var 0)]) (.var 3) :: (ps_nsMid ++ .forx 7 (.var 3) ps_nsLoopB :: ps_nsEndB)
theorem ps_ns_eq: ps_ns = .ifs (.cmp .Eq (.var 0) (.int 1)) ps_nsOne [] :: .tryLen 6 1 ps_nsSrt :: .ifs (.cmp .Is (.var 2) .none) ps_nsA [] :: ps_nsB:= rfl
section
variable {α β: Type} {f: α -> V} {g: β -> V} {kf: α -> β} {lt: β -> β -> Bool} {ltT: Ent α β -> Ent α β -> Bool} {xs: List α}
noncomputable def ents (kf: α -> β) (xs: List α) (n: Nat): List (Ent α β):= (xs.take n).mapIdx fun j x=> ⟨kf x,j,x,j⟩
theorem ents_length (n: Nat): (ents kf xs n).length = min n xs.length:= by simp [ents]
theorem ents_pr (n: Nat): (ents kf xs n).map Ent.pr = (xs.take n).zipIdx:= by
 unfold ents
 apply List.ext_getElem?
 intro i
 simp only [List.getElem?_map,List.getElem?_mapIdx,List.getElem?_zipIdx,Option.map_map,Nat.zero_add]
 rfl
theorem ents_ok {n: Nat}: ∀ e ∈ ents kf xs n,e.k = kf e.x /\ e.o = e.i:= fun e m=> by
 unfold ents at m
 rw [List.mem_mapIdx] at m
 obtain ⟨i,hi,rfl⟩:= m
 exact ⟨rfl,rfl⟩
theorem HSt.all {m nx: Nat} {hs: List (Ent α β)} (H: HSt lt kf ltT xs m nx hs) (h: xs.length <= m): HSt lt kf ltT xs xs.length nx hs:= by
 refine ⟨?_,H.ok,H.mono,H.hf⟩
 have:= H.ex
 rw [List.take_of_length_le h] at this
 rw [List.take_length];exact this
theorem getD_map_V {γ: Type} (f: γ -> V) (d: γ) (xs: List γ) {i: Nat} (h: i < xs.length): (xs.map f).getD i .none = f (xs.getD i d):= by
 simp [h]
theorem take_min {γ: Type} {L: Nat} (l: List γ) (n: Nat) (h: l.length = L): l.take (min n L) = l.take n:= by
 rcases Nat.le_total n L with q | q
 ·rw [Nat.min_eq_left q]
 ·rw [Nat.min_eq_right q,List.take_of_length_le (by exact Nat.le_of_eq h),List.take_of_length_le (by exact le_of_eq_of_le h q)]
end
theorem forx_row {Φ: Fns} {b: List PS} {i: Nat} {F: Frm} {Q: Fl -> Frm -> Hp -> Prop} {σ: Hp} {a l: Addr} {xs: List V} (p: Nat) (hp: p <= xs.length) (J: Nat -> Frm -> Hp -> Prop) (hy: ∀ m F τ,J m F τ -> τ a = some (.iter (some l) m) /\ ∃ zs,listAt τ l = some zs /\ zs[m]? = xs[m]?) (h0: J p F σ)
  (step: ∀ m x F τ,xs[m]? = some x -> J m F τ -> ∀ K: Fl -> Frm -> Hp -> Prop,(∀ F τ,J (m + 1) F τ -> K .next F τ) -> vSs Φ b K (F.set i (some x)) (upd τ a (.iter (some l) (m + 1))))
  (fin: ∀ F τ,J xs.length F τ -> Q .next F (upd τ a (.iter none xs.length))): ForX Φ b i Q a F σ:= by
 refine ⟨fun n F τ=> ∃ m,m + n = xs.length /\ J m F τ,⟨xs.length - p,p,by exact Nat.add_sub_of_le hp,h0⟩,?_⟩
 rintro n F τ ⟨m,hn,hj⟩
 obtain ⟨e1,zs,e2,e3⟩:= hy m F τ hj
 cases e: xs[m]? with
 | none=>
  have hm: m = xs.length:= by have:= List.getElem?_eq_none_iff.mp e;lia
  subst hm
  have: itStep τ a = some (none,upd τ a (.iter none xs.length)):= by unfold itStep;rw [e1];simp only [e2,e3,e]
  rw [this]
  exact fin F τ hj
 | some x=>
  have hm:= (List.getElem?_eq_some_iff.mp e).1
  have: itStep τ a = some (some x,upd τ a (.iter (some l) (m + 1))):= by unfold itStep;rw [e1];simp only [e2,e3,e]
  rw [this]
  exact step m x F τ e hj _ fun F' τ' h=> ⟨n - 1,by exact ar_x6 hn hm,m + 1,by exact ar_x5 hn hm,h⟩
theorem forx_dead {Φ: Fns} {b: List PS} {i: Nat} {F: Frm} {Q: Fl -> Frm -> Hp -> Prop} {σ: Hp} {a: Addr} {k: Nat} (e: σ a = some (.iter none k)) (q: Q .next F σ): ForX Φ b i Q a F σ:= by
 refine ⟨fun n F' τ=> F' = F /\ τ = σ,⟨0,Eq.refl _,Eq.refl _⟩,?_⟩
 rintro n F' τ ⟨rfl,rfl⟩
 have: itStep τ a = some (none,τ):= by unfold itStep;rw [e]
 rw [this];exact q
structure KRow (KC: FuncData -> List V -> (V -> Hp -> Prop) -> Hp -> Prop) (fd: FuncData) (xs: List Int) (kf: Int -> Int) (R: Addr) (S: Addr -> Prop) (St: Nat -> Hp -> Prop): Prop where
 call: ∀ (i: Nat) x σ Q,xs[i]? = some x -> St i σ -> (∀ τ,St (i + 1) τ -> (∀ a,¬ S a -> τ a = σ a) -> Q (.int (kf x)) τ) -> KC fd [.int x] Q σ
 row: ∀ i σ,St i σ -> ∃ zs,listAt σ R = some zs /\ zs[i]? = (xs.map V.int)[i]?
 keep: ∀ i σ τ,St i σ -> (∀ a,S a -> τ a = σ a) -> St i τ
 dom: ∀ i σ a,St i σ -> S a -> σ a ≠ none
 flat: ∀ i σ a o,St i σ -> S a -> σ a = some o -> o.flat
variable {KC: FuncData -> List V -> (V -> Hp -> Prop) -> Hp -> Prop} {fk: FuncData} {xs: List Int} {kf: Int -> Int} {R: Addr} {S: Addr -> Prop} {St: Nat -> Hp -> Prop}
theorem KRow.new (K: KRow KC fk xs kf R S St) {i: Nat} {σ: Hp} {b: Addr} (h: St i σ) (hb: σ b = none): ¬ S b:= fun s=> K.dom i σ b h s hb
theorem KRow.put (K: KRow KC fk xs kf R S St) {i: Nat} {σ: Hp} {b: Addr} (h: St i σ) (hb: ¬ S b) (o: AObj): St i (upd σ b o):= K.keep i σ _ h fun a s=> upd_ne _ _ (fun e=> hb (e ▸ s))
inductive St1 (R: Addr) (St: Nat -> Hp -> Prop) (ita: Addr) (σ: Hp) (i: Nat) (σ': Hp): Prop
 | mk (h1: St i σ') (h2: σ' ita = some (.iter (some R) i)) (h3: ∀ a,σ a = none -> σ' a = none): St1 R St ita σ i σ'
theorem KRow.rowSt (K: KRow KC fk xs kf R S St) {ita: Addr} {σ: Hp}: RowSt σ ita R (xs.map .int) (St1 R St ita σ):= ⟨fun i σ' h=> h.2,fun i σ' h=> K.row i σ' h.1,fun i σ' h=> h.3⟩
theorem KRow.ask (K: KRow KC fk xs kf R S St) {ita: Addr} {σ σ': Hp} (hi: ¬ S ita) {i: Nat} {x: Int} {Q: V -> Hp -> Prop} (hx: xs[i]? = some x) (h: St1 R St ita σ i σ') (q: ∀ τ,St1 R St ita σ (i + 1) τ -> Q (.int (kf x)) τ): KC fk [.int x] Q (upd σ' ita (.iter (some R) (i + 1))):= by
 have h1:= K.put h.1 hi (.iter (some R) (i + 1))
 refine K.call i x _ Q hx h1 fun τ ht off=> q τ ⟨ht,by rw [off _ hi];exact upd_same _ _ _,fun a e=> ?_⟩
 have e': upd σ' ita (.iter (some R) (i + 1)) a = none:= by
  rw [upd_ne _ _ (by rintro rfl;have:= h.3 _ e;rw [h.2] at this;cases this)];exact h.3 a e
 rw [off a fun s=> K.dom _ _ a h1 s e'];exact e'
inductive NSrc (R: Addr) (S: Addr -> Prop) (xs: List Int) (σ: Hp): Option Nat -> V -> Prop
 | list {r: Nat} (h1: listAt σ R = some ((xs.take r).map .int)) (h2: 2 <= r) (h3: r <= xs.length) (h4: ∀ a,σ a ≠ none -> S a): NSrc R S xs σ (some r) (.ref R)
 | iter {a: Addr} (h1: σ a = some (.iter (some R) 0)) (h2: ¬ S a) (h3: ∀ b,σ b ≠ none -> S b \/ b = a): NSrc R S xs σ none (.ref a)
noncomputable def asks (n: Int) (r: Option Nat) (L: Nat): Nat:= if n <= 0 then 0 else match r with | some r=> if (r: Int) <= n then r else L | none=> L
inductive nsC (KC: FuncData -> List V -> (V -> Hp -> Prop) -> Hp -> Prop) (args: List V) (Q: V -> Hp -> Prop) (σ: Hp): Prop
 | mk (n: Int) (x: V) (fd: FuncData) (xs: List Int) (kf: Int -> Int) (R: Addr) (S: Addr -> Prop) (St: Nat -> Hp -> Prop) (r: Option Nat) (h1: args = [.int n,x,.func fd]) (h2: 2 <= xs.length) (h3: xs.length < 128) (h4: -1000 <= n) (h5: n <= 1000) (K: KRow KC fd xs kf R S St) (h6: St 0 σ) (h7: NSrc R S xs σ r x)
   (h8: ∀ b τ,St (asks n r xs.length) τ -> τ b = some (.list (((stab iLt kf (xs.take (asks n r xs.length))).take n.toNat).map .int)) -> Q (.ref b) τ): nsC KC args Q σ
structure NsAt (kf: Int -> Int) (xs: List Int) (St: Nat -> Hp -> Prop) (N: Nat) (ita R b: Addr) (m nx: Nat) (hs: List (Ent Int Int)) (t: Ent Int Int) (τ: Hp): Prop where
 H: HSt iLt kf lB xs m nx hs
 ht: hs[0]? = some t
 hl: hs.length = N
 st: St m τ
 ei: τ ita = some (.iter (some R) m)
 eb: τ b = some (.list (hs.map tB))
theorem NsAt.ib {N: Nat} {ita b: Addr} {m nx: Nat} {hs: List (Ent Int Int)} {t: Ent Int Int} {τ: Hp} (A: NsAt kf xs St N ita R b m nx hs t τ): b ≠ ita:= by
 rintro rfl;have:= A.ei;rw [A.eb] at this;cases this
theorem NsAt.mv {N: Nat} {ita b: Addr} {m nx: Nat} {hs: List (Ent Int Int)} {t: Ent Int Int} {τ τ': Hp} (A: NsAt kf xs St N ita R b m nx hs t τ) (hi: ¬ S ita) (hb: ¬ S b) (off: ∀ a,¬ S a -> τ' a = upd τ ita (.iter (some R) (m + 1)) a): τ' ita = some (.iter (some R) (m + 1)) /\ τ' b = some (.list (hs.map tB)):= by
 refine ⟨by rw [off _ hi];exact upd_same _ _ _,?_⟩
 rw [off _ hb,upd_ne _ _ A.ib];exact A.eb
theorem NsAt.skip {N: Nat} {ita b: Addr} {m nx: Nat} {hs: List (Ent Int Int)} {t: Ent Int Int} {τ τ': Hp} (A: NsAt kf xs St N ita R b m nx hs t τ) {x: Int} (hx: xs[m]? = some x) (h: iLt (kf x) t.k = false) (st: St (m + 1) τ') (e: τ' ita = some (.iter (some R) (m + 1)) /\ τ' b = some (.list (hs.map tB))): NsAt kf xs St N ita R b (m + 1) nx hs t τ':=
 ⟨A.H.skip iLt_sw entLt_B hx A.ht h,A.ht,A.hl,st,e.1,e.2⟩
theorem NsAt.put (K: KRow KC fk xs kf R S St) {N: Nat} {ita b: Addr} {m nx: Nat} {hs: List (Ent Int Int)} {t: Ent Int Int} {τ τ': Hp} (A: NsAt kf xs St N ita R b m nx hs t τ) (hb: ¬ S b) {x: Int} (hx: xs[m]? = some x) (h: iLt (kf x) t.k = true) (st: St (m + 1) τ') (e: τ' ita = some (.iter (some R) (m + 1)) /\ τ' b = some (.list (hs.map tB))) :
  ∃ t',NsAt kf xs St N ita R b (m + 1) (nx + 1) (siftF lB (hs.set 0 ⟨kf x,nx,x,m⟩) 0 ⟨kf x,nx,x,m⟩) t' (upd τ' b (.list ((siftF lB (hs.set 0 ⟨kf x,nx,x,m⟩) 0 ⟨kf x,nx,x,m⟩).map tB))):= by
 have H:= A.H.put iLt_sw entLt_B hx A.ht h rfl
 have h0:= lt_of_some A.ht
 have hl': (siftF lB (hs.set 0 ⟨kf x,nx,x,m⟩) 0 ⟨kf x,nx,x,m⟩).length = N:= by rw [siftF_length,List.length_set];exact A.hl
 generalize siftF lB (hs.set 0 (⟨kf x,nx,x,m⟩: Ent Int Int)) 0 ⟨kf x,nx,x,m⟩ = hs' at H hl'
 have hl:= A.hl
 have e0: hs'[0]? = some hs'[0]:= List.getElem?_eq_getElem (by lia)
 exact ⟨_,H,e0,hl',K.put st hb _,by rw [upd_ne _ _ A.ib.symm];exact e.1,upd_same _ _ _⟩
section
variable {KC: FuncData -> List V -> (V -> Hp -> Prop) -> Hp -> Prop} {fk: FuncData} {xs: List Int} {kf: Int -> Int} {Rw: Addr} {S: Addr -> Prop} {St: Nat -> Hp -> Prop}
theorem mid_v (Φ: Fns) (hH: ∀ args Q σ,heapifyC args Q σ -> Φ 3 args Q σ) (hG: ∀ fd σ,Φ 1001 [.int 2,.func fd] (fun _ _=> True) σ -> ∀ args Q σ,heapreplaceC args Q σ -> Φ 1000 (.func fd :: args) Q σ)
  {b: Addr} {τ1: Hp} {n: Int} (h2: 2 <= xs.length) (h64: xs.length < 128) {R: Fl -> Frm -> Hp -> Prop} {ss: List PS} {x1 x2 x3 x4 x6 x7 x8 x9 x10 x11 x12 x13: Option V}
  (q0: n <= 0 -> R (.ret (.ref b)) [some (.int n),x1,x2,x3,x4,some (.ref b),x6,x7,x8,x9,x10,x11,x12,x13] (upd τ1 b (.list [])))
  (q1: 0 < n -> ∀ fd,(∀ args Q σ,heapreplaceC args Q σ -> Φ 1000 (.func fd :: args) Q σ) -> ∀ hs t,HSt iLt kf lB xs n.toNat n.toNat hs -> hs[0]? = some t -> hs.length = min n.toNat xs.length ->
   vSs Φ ss R [some (.int n),x1,x2,x3,x4,some (.ref b),x6,x7,some (.int t.k),some (.int n),some (.func fd),x11,x12,x13] (upd τ1 b (.list (hs.map tB)))) :
  vSs Φ (ps_nsMid ++ ss) R [some (.int n),x1,x2,x3,x4,some (.ref b),x6,x7,x8,x9,x10,x11,x12,x13] (upd τ1 b (.list ((ents kf xs n.toNat).map tB))):= by
 have le:= ents_length (kf:= kf) (xs:= xs) n.toNat
 unfold ps_nsMid
 simp only [List.cons_append,List.nil_append]
 walk_at "go";((try simp only [s_ifs,ss_nil,t_not,t_var,look_succ,look_zero]))
 refine ⟨_,listAt_list (upd_same _ _ _),?_⟩
 by_cases hn: n <= 0
 ·have e0: ents kf xs n.toNat = []:= List.eq_nil_of_length_eq_zero (by rw [le];(exact ar_v10 hn))
  rw [e0]
  simp only [List.map_nil,List.isEmpty_nil,Bool.not_true,Bool.not_false,if_true]
  walk_at "go";((try simp only [s_ret,e_var,look_succ,look_zero]);(with_reducible repeat refine q_retI ?_))
  exact q0 hn
 have hne: ((ents kf xs n.toNat).map tB).isEmpty = false:= by
  rw [List.isEmpty_eq_false_iff]
  intro h
  have:= congrArg List.length h
  rw [List.length_map,le] at this
  simp only [List.length_nil] at this;lia
 rw [hne]
 simp only [Bool.not_true,Bool.not_false,Bool.false_eq_true,if_false]
 walk_at "n"
 walk_at "go";((try simp only [s_expr,e_ucall,es_cons,es_nil,e_var,look_succ,look_zero]))
 have H:= HSt.start (lt:= iLt) (kf:= kf) (n:= n.toNat) entLt_B (ents_pr (kf:= kf) (xs:= xs) n.toNat) ents_ok
 have hl: (heapifyF lB (ents kf xs n.toNat)).length = min n.toNat xs.length:= by
  rw [(heapify_ok entLt_B.sw _).2.length_eq,le]
 refine hH _ _ _ ⟨Ent Int Int,tB,lB,fun _=> True,b,ents kf xs n.toNat,rfl,upd_same _ _ _,fun _ _=> trivial,fun x y _ _ ys Q q=> lt_tups q,by rw [le];exact big_of (by exact ar_v2 h64 rfl),?_⟩
 rw [upd_upd]
 generalize heapifyF lB (ents kf xs n.toNat) = hs at H hl
 have e0: hs[0]? = some hs[0]:= List.getElem?_eq_getElem (by exact ar_v8 h2 hn hl)
 generalize hs[0] = t at e0
 walk_at "n"
 walk_at "go";((try simp only [s_assign,bt_name,List.set_cons_succ,List.set_cons_zero,e_sub,e_int,e_var,look_succ,look_zero]))
 refine opSub_list (k:= 0) (upd_same _ _ _) (x:= tB t) (by rw [List.getElem?_map,e0];rfl) ?_
 refine sub_tup (big_of (n:= 3) (by decide)) (x:= .int t.k) rfl ?_
 walk_at "n"
 walk_at "go";((try simp only [s_assign,bt_name,List.set_cons_succ,List.set_cons_zero,e_var,look_zero]);walk_at "n")
 walk_at "go";((try simp only [s_assign,bt_name,List.set_cons_succ,List.set_cons_zero,e_gfn]))
 intro fd hfd
 walk_at "n"
 exact q1 (by exact Int.lt_of_not_ge hn) fd (hG fd _ hfd) hs t H e0 hl
theorem loopB_v (Φ: Fns) {fd: FuncData} (hR: ∀ args Q σ,heapreplaceC args Q σ -> Φ 1000 (.func fd :: args) Q σ) (hK: ∀ fd args Q σ,KC fd args Q σ -> Φ 1000 (.func fd :: args) Q σ) (K: KRow KC fk xs kf Rw S St) (h64: xs.length < 128)
  {N: Nat} (hN: N <= 1000) {ita b: Addr} (hi: ¬ S ita) (hb: ¬ S b) {m0: Nat} (hm0: m0 <= xs.length) {hs: List (Ent Int Int)} {t: Ent Int Int} {τ: Hp} (A: NsAt kf xs St N ita Rw b m0 m0 hs t τ) {Q: Fl -> Frm -> Hp -> Prop} {x0 x1 x3 x4 x6 x7 x11 x12 x13: Option V}
  (q: ∀ y7 y8 y9 y11 y12 y13 nx hs t τ',NsAt kf xs St N ita Rw b xs.length nx hs t τ' -> Q .next [x0,x1,some (.func fk),x3,x4,some (.ref b),x6,y7,y8,y9,some (.func fd),y11,y12,y13] (upd τ' ita (.iter none xs.length))) :
  ForX Φ ps_nsLoopB 7 Q ita [x0,x1,some (.func fk),x3,x4,some (.ref b),x6,x7,some (.int t.k),some (.int m0),some (.func fd),x11,x12,x13] τ:= by
 refine forx_row (l:= Rw) (xs:= xs.map .int) m0 (by simpa using hm0) (fun m F τ=> ∃ (nx: Nat) (hs: List (Ent Int Int)) (t: Ent Int Int) (y7 y11 y12 y13: Option V),nx <= m /\ F = [x0,x1,some (.func fk),x3,x4,some (.ref b),x6,y7,some (.int t.k),some (.int nx),some (.func fd),y11,y12,y13] /\ NsAt kf xs St N ita Rw b m nx hs t τ) ?_ ?_ ?_ ?_
 ·rintro m F τ ⟨nx,hs,t,y7,y11,y12,y13,_,rfl,A⟩
  exact ⟨A.ei,K.row _ _ A.st⟩
 ·exact ⟨m0,hs,t,x7,x11,x12,x13,Nat.le_refl _,rfl,A⟩
 ·rintro m v F τ hv ⟨nx,hs,t,y7,y11,y12,y13,hnx,rfl,A⟩ Kn hKn
  rw [List.getElem?_map,Option.map_eq_some_iff] at hv
  obtain ⟨x,hx,rfl⟩:= hv
  unfold ps_nsLoopB
  walk_at "go";((try simp only [List.set_cons_succ,List.set_cons_zero,s_assign,bt_name,e_vcall,es_cons,es_nil,e_var,look_succ,look_zero]))
  refine ⟨fk,rfl,?_⟩
  refine hK _ _ _ _ (K.call m x _ _ hx (K.put A.st hi _) fun τ2 st2 off=> ?_)
  have e2:= A.mv hi hb off
  walk_at "n"
  walk_at "go";((try simp only [s_ifs,ss_nil,t_cmp,e_var,look_succ,look_zero,c_lt,t_bool]);(repeat (first | rw [q_next] | rw [ss_nil])))
  walk_at "r"
  cases hlt: iLt (kf x) t.k with
  | false=>
   rw [show decide (kf x < t.k) = false from hlt]
   simp only [Bool.false_eq_true,if_false]
   walk_at "r"
   exact hKn _ _ ⟨nx,hs,t,_,y11,_,y13,by exact Nat.le_add_right_of_le hnx,rfl,A.skip hx hlt st2 e2⟩
  | true=>
   obtain ⟨t',A'⟩:= A.put K hb hx hlt st2 e2
   rw [show decide (kf x < t.k) = true from hlt]
   simp only [if_true]
   walk_at "go";((try simp only [s_expr,e_vcall,es_cons,es_nil,e_tuple,e_var,look_succ,look_zero]))
   refine ⟨fd,rfl,big_of (n:= 3) (by decide),?_⟩
   refine hR _ _ _ ⟨Ent Int Int,tB,lB,fun _=> True,b,hs,t,⟨kf x,nx,x,m⟩,rfl,e2.2,A.ht,trivial,fun _ _=> trivial,fun x y _ _ ys Q q=> lt_tups q,by rw [A.hl];exact big_of hN,?_⟩
   walk_at "n"
   walk_at "go";((try simp only [s_assign,e_sub,e_int,e_var,look_succ,look_zero]))
   refine opSub_list (k:= 0) (upd_same _ _ _) (x:= tB t') (by rw [List.getElem?_map,A'.ht];rfl) ?_
   unfold tB
   ((try simp only [bt_tup,sa_cons,List.set_cons_succ,List.set_cons_zero,sa_nil]);(repeat (first | rw [q_next])))
   refine ⟨rfl,?_⟩
   walk_at "r"
   walk_at "go";((try simp only [s_aug,List.set_cons_succ,List.set_cons_zero,e_int,look_succ,look_zero,a_add]);(with_reducible repeat first | refine q_nextI ?_ | refine ss_nilI ?_))
   exact hKn _ _ ⟨nx + 1,_,t',some (.int x),some (.int t'.o),some (.int (kf x)),some (.int t'.x),by exact Nat.add_le_add_right hnx 1,rfl,A'⟩
 ·rintro F τ ⟨nx,hs,t,y7,y11,y12,y13,hnx,rfl,A⟩
  rw [List.length_map] at A ⊢
  exact q _ _ _ _ _ _ nx hs t τ A
theorem sort_ents {es: List (Ent Int Int)} (h2: 2 <= es.length) (h64: es.length < 128) {b: Addr} {τ: Hp} (e: τ b = some (.list (es.map tB))) {Q: V -> Hp -> Prop}
  (q: ∀ ys: List (Ent Int Int),ys.Perm es -> ys.Pairwise (fun a b=> lB b a = false) -> Q .none (upd τ b (.list (ys.map tB)))): opMeth .sort (.ref b) [] Q τ:= by
 generalize hd: (⟨0,0,0,0⟩: Ent Int Int) = D
 refine m_sort (lt:= fun i j=> lB (es.getD i D) (es.getD j D)) (entLt_B.sw.weak fun i=> es.getD i D) e (by simpa using h2) (by simpa using h64) (fun h₀ hp vs hw r=> sorts_ents (ge:= eB) (fun e _=> rfl) (fun e=> by simp [eB]) h2 r D) fun p hp hu=> ?_
 rw [List.length_map] at hp hu
 have hm: ∀ i ∈ p.toList,i < es.length:= fun i m=> by have:= hp.perm.mem_iff.mp m;simpa using this
 have e1: (p.toList.map fun i=> (es.map tB).getD i .none) = (p.toList.map fun i=> es.getD i D).map tB:= by
  rw [List.map_map]
  exact List.map_congr_left fun i m=> getD_map_V tB _ es (hm i m)
 rw [e1]
 refine q _ ?_ ?_
 ·have: ((List.range es.length).map fun i=> es.getD i D) = es:= by
   apply List.ext_getElem?;intro i
   rcases Nat.lt_or_ge i es.length with h | h
   ·simp [h]
   ·rw [List.getElem?_eq_none (by simpa using h),List.getElem?_eq_none h]
  exact (hp.perm.map _).trans (by rw [this])
 ·rw [List.pairwise_map]
  exact (up_pairs hp.size hu).imp fun h=> h.1
theorem endB_v (Φ: Fns) (K: KRow KC fk xs kf Rw S St) {τ: Hp} (st: St xs.length τ) {b: Addr} (hb: ¬ S b) {nx: Nat} {hs: List (Ent Int Int)} (H: HSt iLt kf lB xs xs.length nx hs) (h2: 2 <= hs.length) (hl: hs.length < 128) (eb: τ b = some (.list (hs.map tB)))
  {Q: V -> Hp -> Prop} {R: Fl -> Frm -> Hp -> Prop} (hRR: ∀ v F σ,R (.ret v) F σ = Q v σ) {F: Frm} (hF: ∀ K,look F 5 K = K (.ref b)) (hfr: frOf [none,none,none,none] F = [none,none,none,none])
  (q: ∀ c σ',St xs.length σ' -> σ' c = some (.list (((stab iLt kf xs).take hs.length).map .int)) -> Q (.ref c) σ'): vSs Φ ps_nsEndB R F τ:= by
 unfold ps_nsEndB
 rw [ss_cons]
 simp only [s_expr,e_meth,e_var,hF]
 refine ⟨⟨b,_,rfl,eb⟩,sort_ents h2 hl eb fun ys p up=> ?_⟩
 rw [q_next,ss_cons]
 simp only [s_ret,e_comp,e_var,hF,i_ref]
 refine ⟨⟨_,listAt_list (upd_same _ _ _)⟩,?_⟩
 rw [hfr]
 have hy:= yields_lst (H:= Ext (upd τ b (.list (ys.map tB)))) (a:= b) (xs:= ys.map tB) (fun σ' h=> h.listAt (listAt_list (upd_same _ _ _))) _ 0 rfl
 refine comp_rule (xs:= ys.map tB) (fun v=> match v with | .tup [_,_,a]=> some a | _=> none) (by rw [List.length_map,p.length_eq];exact big_of (by exact ar_v0 hl)) hy ?_ ?_
 ·intro x mx σ' hE K N hK hN
  obtain ⟨e,me,rfl⟩:= List.mem_map.mp mx
  unfold tB at hK ⊢
  ((try simp only [e_var,ts_nil,bt_tup,sa_cons,List.set_cons_succ,List.set_cons_zero,sa_nil,look_succ,look_zero]))
  refine ⟨rfl,?_⟩
  walk_at "r"
  exact hK _ _ rfl .rfl
 ·intro σ' hE c hc
  have e1: (ys.map tB).filterMap (fun v=> match v with | .tup [_,_,a]=> some a | _=> none) = ((stab iLt kf xs).take hs.length).map .int:= by
   rw [<- H.done iLt_sw entLt_B p up,List.filterMap_map,List.map_map]
   exact fm_some _ fun e _=> rfl
  rw [e1,q_ret,hRR]
  have s1:= K.put st hb (.list (ys.map tB))
  have s2: St xs.length σ':= K.keep _ _ _ s1 fun a s=> by
   obtain ⟨o,eo⟩:= Option.ne_none_iff_exists'.mp (K.dom _ _ a s1 s)
   rw [hE a o eo,eo]
  exact q c _ (K.put s2 (K.new s2 hc) _) (upd_same _ _ _)
end
section
variable {KC: FuncData -> List V -> (V -> Hp -> Prop) -> Hp -> Prop} {fk: FuncData} {xs: List Int} {kf: Int -> Int} {Rw: Addr} {S: Addr -> Prop} {St: Nat -> Hp -> Prop} {r: Option Nat}
theorem iter_row (K: KRow KC fk xs kf Rw S St) {σ: Hp} {x: V} {Q: V -> Hp -> Prop} (hx: NSrc Rw S xs σ r x) (st: St 0 σ) (q: ∀ ita τ,¬ S ita -> St1 Rw St ita τ 0 τ -> (∀ a,τ a ≠ none -> S a \/ a = ita) -> Q (.ref ita) τ): opCall .iter [x] Q σ:= by
 cases hx with
 | list h1 h2 h3 h4=>
  refine call_iter_list h1 fun b hb=> q b _ (K.new st hb) ⟨K.put st (K.new st hb) _,upd_same _ _ _,fun a e=> e⟩ fun a e=> ?_
  by_cases qa: a = b
  ·exact .inr qa
  ·rw [upd_ne _ _ qa] at e;exact .inl (h4 a e)
 | iter h1 h2 h3=> exact call_iter_iter h1 (q _ _ h2 ⟨st,h1,fun a e=> e⟩ h3)
theorem St1.flat (K: KRow KC fk xs kf Rw S St) {ita: Addr} {τ: Hp} (all: ∀ a,τ a ≠ none -> S a \/ a = ita) (i: Nat) (σ': Hp) (h: St1 Rw St ita τ i σ') (a: Addr) (o: AObj) (e: σ' a = some o): o.flat:= by
 rcases all a (fun q=> by rw [h.3 a q] at e;cases e) with s | rfl
 ·exact K.flat i σ' a o h.1 s e
 ·rw [h.2] at e;cases e;trivial
theorem ents_at {i: Nat} {y: Int} (h: xs[i]? = some y): ((ents kf xs xs.length).map tB)[i]? = some (.tup [.int (kf y),.int i,.int y]):= by
 unfold ents
 rw [List.take_length,List.getElem?_map,List.getElem?_mapIdx,h];rfl
theorem ents_take (n: Nat): ((ents kf xs xs.length).map tB).take (min n xs.length) = (ents kf xs n).map tB:= by
 rw [take_min _ _ (by rw [List.length_map,ents_length,Nat.min_self]),<- List.map_take]
 congr 1
 unfold ents
 rw [List.take_length]
 apply List.ext_getElem?;intro i
 simp only [List.getElem?_take,List.getElem?_mapIdx]
 split <;> rfl
theorem nsB_v (Φ: Fns) (hH: ∀ args Q σ,heapifyC args Q σ -> Φ 3 args Q σ) (hG: ∀ fd σ,Φ 1001 [.int 2,.func fd] (fun _ _=> True) σ -> ∀ args Q σ,heapreplaceC args Q σ -> Φ 1000 (.func fd :: args) Q σ) (hK: ∀ fd args Q σ,KC fd args Q σ -> Φ 1000 (.func fd :: args) Q σ)
  {σ: Hp} (K: KRow KC fk xs kf Rw S St) {n: Int} {x: V} (hx: NSrc Rw S xs σ r x) (st: St 0 σ) (h2: 2 <= xs.length) (h64: xs.length < 128) (n0: -1000 <= n) (n1: n <= 1000) (hn1: n ≠ 1) (ha: asks n r xs.length = if n <= 0 then 0 else xs.length) {Q: V -> Hp -> Prop} {R: Fl -> Frm -> Hp -> Prop} (hRR: ∀ v F σ,R (.ret v) F σ = Q v σ) {x3 x4 x5 x6 x7 x8 x9 x10 x11 x12 x13: Option V}
  (q: ∀ b τ,St (asks n r xs.length) τ -> τ b = some (.list (((stab iLt kf (xs.take (asks n r xs.length))).take n.toNat).map .int)) -> Q (.ref b) τ) :
  vSs Φ ps_nsB R [some (.int n),some x,some (.func fk),x3,x4,x5,x6,x7,x8,x9,x10,x11,x12,x13] σ:= by
 rw [ha] at q
 unfold ps_nsB
 walk_at "go";((try simp only [s_assign,bt_name,List.set_cons_succ,List.set_cons_zero,e_call,es_cons,es_nil,e_var,look_succ,look_zero]))
 refine iter_row K hx st fun ita τ hi h1 all=> ?_
 walk_at "n"
 walk_at "go";((try simp only [s_zipc,List.set_cons_succ,List.set_cons_zero,es_cons,es_nil,e_var,look_succ,look_zero,e_call,c_range1]))
 refine ⟨n,ita,Rw,xs.map .int,(ents kf xs xs.length).map tB,St1 Rw St ita τ,rfl,rok_small (rok_n n0 n1),K.rowSt,St1.flat K all,h1,by rw [List.length_map,List.length_map,ents_length,Nat.min_self],by rw [List.length_map];exact big_of (by exact ar_v0 h64),?_,?_⟩
 ·intro i v σ' hv hin h
  rw [List.getElem?_map,Option.map_eq_some_iff] at hv
  obtain ⟨y,hy,rfl⟩:= hv
  ((try simp only [frOf,List.map,List.set_cons_succ,List.set_cons_zero,es_cons,es_nil,e_var,look_succ,look_zero,e_vcall]))
  refine ⟨fk,rfl,hK _ _ _ _ (K.ask hi hy h fun τ2 h2'=> ?_)⟩
  walk_at "r"
  refine ⟨ents_at hy,big_of (n:= 3) (by decide),fun z mz=> ?_,h2'⟩
  simp only [List.mem_cons,List.not_mem_nil,or_false] at mz
  rcases mz with rfl | rfl | rfl <;> trivial
 ·intro i σ1 zd hin
  rw [List.length_map] at hin
  rw [hin,ents_take]
  have hs1: St i σ1 /\ (σ1 ita = some (.iter (some Rw) i) /\ n.toNat <= xs.length \/ xs.length <= n.toNat /\ ∃ k,σ1 ita = some (.iter none k)):= by
   cases zd with
   | rng e1 e2=> exact ⟨e2.1,.inl ⟨e2.2,by have:= Int.ofNat_le.mp e1;lia⟩⟩
   | lst σ2 e1 e2 e3 e4=>
    subst e4
    exact ⟨K.put e3.1 hi _,.inr ⟨by have:= Int.ofNat_lt.mp e1;lia,_,upd_same _ _ _⟩⟩
  obtain ⟨st1,hit⟩:= hs1
  have itN: σ1 ita ≠ none:= by
   rcases hit with ⟨e,_⟩ | ⟨_,k,e⟩ <;> rw [e] <;> simp
  refine ⟨by rw [List.length_map,ents_length];exact big_of (by exact ar_v2 h64 rfl),fun b hb=> ?_⟩
  have nb:= K.new st1 hb
  have ib: ita ≠ b:= by rintro rfl;exact itN hb
  ((try simp only []);walk_at "n")
  refine mid_v Φ hH hG h2 h64 ?_ ?_
  ·intro hn
   rw [hRR]
   rw [if_pos hn] at q
   have z: n.toNat = 0:= Int.toNat_of_nonpos hn
   rw [hin,z,Nat.zero_min] at st1
   refine q b _ (K.put st1 nb _) ?_
   rw [upd_same,z];rfl
  ·intro hn fd hR hs t H ht hl
   rw [if_neg (Int.not_le.mpr hn)] at q
   have fin: ∀ F nx hs' τ',HSt iLt kf lB xs xs.length nx hs' -> hs'.length = min n.toNat xs.length -> St xs.length τ' -> τ' b = some (.list (hs'.map tB)) -> (∀ K,look F 5 K = K (.ref b)) -> frOf [none,none,none,none] F = [none,none,none,none] -> vSs Φ ps_nsEndB R F τ':= by
    intro F nx hs' τ' H' hl' st' eb hF hfr
    refine endB_v Φ K st' nb H' (by exact ar_v9 h2 hn1 hn hl') (by exact ar_y2 hl' h64) eb hRR hF hfr fun c σ' e1 e2=> q c σ' e1 ?_
    rw [e2,hl',List.take_length,take_min _ _ (stab_length xs)]
   rw [ss_cons]
   simp only [s_forx,e_var,look_succ,look_zero]
   rcases hit with ⟨e,hle⟩ | ⟨hle,k,e⟩
   ·refine ⟨ita,_,_,rfl,(upd_ne _ _ ib).trans e,?_⟩
    have hc: (n: Int) = ((n.toNat: Nat): Int):= by exact ar_v6 hn1 hn
    have hi': i = n.toNat:= by rw [hin];exact Nat.min_eq_left hle
    have A: NsAt kf xs St (min n.toNat xs.length) ita Rw b n.toNat n.toNat hs t (upd σ1 b (.list (hs.map tB))):=
     ⟨H,ht,hl,K.put (hi' ▸ st1) nb _,by rw [upd_ne _ _ ib,<- hi'];exact e,upd_same _ _ _⟩
    have L:= loopB_v (x0:= some (.int n)) (x1:= some x) (x3:= some (.ref ita)) (x4:= x4) (x6:= x6) (x7:= x7) (x11:= x11) (x12:= x12) (x13:= x13) (Q:= seqQ Φ ps_nsEndB R) Φ hR hK K h64 (N:= min n.toNat xs.length) (by exact ar_v2 h64 rfl) hi nb hle A (fun y7 y8 y9 y11 y12 y13 nx hs' t' τ' A'=> by
     rw [q_next]
     exact fin _ nx hs' _ A'.H A'.hl (K.put A'.st hi _) (by rw [upd_ne _ _ ib.symm];exact A'.eb) (fun K=> rfl) rfl)
    rw [<- hc] at L
    exact L
   ·refine ⟨ita,_,_,rfl,(upd_ne _ _ ib).trans e,forx_dead ((upd_ne _ _ ib).trans e) ?_⟩
    rw [q_next]
    have hi': i = xs.length:= by rw [hin];exact Nat.min_eq_right hle
    exact fin _ _ hs _ (H.all hle) hl (K.put (hi' ▸ st1) nb _) (upd_same _ _ _) (fun K=> rfl) rfl
theorem lt_key {A: Around} {s': Shared} {i j: Nat} {ki kj: Value} {yi yj: V} (hi: (xs.map fun x=> V.int (kf x))[i]? = some yi) (hj: (xs.map fun x=> V.int (kf x))[j]? = some yj) (ri: ∀ h,Rep h ki yi) (rj: ∀ h,Rep h kj yj): LtAt A s' ki kj (iLt (kf (xs.getD i 0)) (kf (xs.getD j 0))):= by
 rw [List.getElem?_map,Option.map_eq_some_iff] at hi hj
 obtain ⟨u,hu,rfl⟩:= hi
 obtain ⟨v,hv,rfl⟩:= hj
 have e1: xs.getD i 0 = u:= by simp [List.getD_eq_getElem?_getD,hu]
 have e2: xs.getD j 0 = v:= by simp [List.getD_eq_getElem?_getD,hv]
 obtain ⟨t,rfl⟩:= (ri s'.heap).iint;obtain ⟨t',rfl⟩:= (rj s'.heap).iint
 rw [e1,e2]
 exact LtAt.int _ _ _ _
theorem one_v (Φ: Fns) (hK: ∀ fd args Q σ,KC fd args Q σ -> Φ 1000 (.func fd :: args) Q σ)
  {σ: Hp} (K: KRow KC fk xs kf Rw S St) {x: V} (hx: NSrc Rw S xs σ r x) (st: St 0 σ) (h2: 2 <= xs.length) (ha: asks 1 r xs.length = xs.length) {Q: V -> Hp -> Prop} {R: Fl -> Frm -> Hp -> Prop} (hRR: ∀ v F σ,R (.ret v) F σ = Q v σ) {x0 x3 x4 x5 x6 x7 x8 x9 x10 x11 x12 x13: Option V}
  (q: ∀ b τ,St (asks 1 r xs.length) τ -> τ b = some (.list (((stab iLt kf (xs.take (asks 1 r xs.length))).take 1).map .int)) -> Q (.ref b) τ) :
  vSs Φ ps_nsOne R [x0,some x,some (.func fk),x3,x4,x5,x6,x7,x8,x9,x10,x11,x12,x13] σ:= by
 rw [ha] at q
 unfold ps_nsOne
 walk_at "go";((try simp only [s_assign,bt_name,List.set_cons_succ,List.set_cons_zero,e_call,es_cons,es_nil,e_var,look_succ,look_zero]))
 refine iter_row K hx st fun ita τ hi h1 all=> ?_
 walk_at "n"
 walk_at "go";((try simp only [s_assign,bt_name,List.set_cons_succ,List.set_cons_zero,e_call,es_nil]))
 refine call_object fun a ha=> ?_
 walk_at "n"
 walk_at "go";((try simp only [s_assign,bt_name,List.set_cons_succ,List.set_cons_zero,e_mink,e_var,look_succ,look_zero]))
 refine ⟨ita,Rw,xs.map .int,xs.map fun x=> .int (kf x),fun i j=> iLt (kf (xs.getD i 0)) (kf (xs.getD j 0)),fk,St1 Rw St ita τ,rfl,K.rowSt,h1,by rw [List.length_map];(exact Nat.zero_lt_of_lt h2),rfl,by rw [List.length_map,List.length_map],fun z mz=> ?_,fun z mz=> ?_,fun i u v σ' hu hv h=> ?_,fun A s' i j ki kj yi yj _ hi hj ri rj=> lt_key hi hj ri rj,fun y σ' hy h=> ?_⟩
 ·obtain ⟨w,_,rfl⟩:= List.mem_map.mp mz;trivial
 ·obtain ⟨w,_,rfl⟩:= List.mem_map.mp mz;trivial
 ·rw [List.getElem?_map,Option.map_eq_some_iff] at hu hv
  obtain ⟨w,hw,rfl⟩:= hu
  obtain ⟨w',hw',rfl⟩:= hv
  rw [hw] at hw';cases hw'
  exact hK _ _ _ _ (K.ask hi hw h fun τ2 h2'=> ⟨rfl,h2'⟩)
 ·rw [List.length_map] at hy h
  rw [List.getElem?_map,Option.map_eq_some_iff] at hy
  obtain ⟨w,hw,rfl⟩:= hy
  have h1':= stab_one (lt:= iLt) (kf:= kf) (d:= 0) iLt_sw (by exact Nat.zero_lt_of_lt h2) (bt:= fun i j=> iLt (kf (xs.getD i 0)) (kf (xs.getD j 0))) (fun i j=> rfl) hw
  walk_at "n"
  walk_at "go";((try simp only [s_ret,e_ite,e_list,es_nil,es_cons,e_var,look_succ,look_zero,t_cmp]))
  refine is_int_obj ?_
  ((try simp only [t_bool]))
  simp only [Bool.false_eq_true,if_false]
  refine ⟨big_of (n:= 1) (by decide),fun b hb=> ?_⟩
  ((try simp only []);(with_reducible repeat refine q_retI ?_))
  rw [hRR]
  have s2:= K.put h.1 hi (.iter none xs.length)
  rw [List.length_map] at hb ⊢
  refine q b _ (K.put s2 (K.new s2 hb) _) ?_
  rw [upd_same,List.take_length,h1'];rfl
theorem srt_v (Φ: Fns) (hK: ∀ fd args Q σ,KC fd args Q σ -> Φ 1000 (.func fd :: args) Q σ)
  {σ: Hp} (K: KRow KC fk xs kf Rw S St) {k: Nat} (hx: listAt σ Rw = some ((xs.take k).map .int)) (hall: ∀ a,σ a ≠ none -> S a) (hk2: 2 <= k) (hk: k <= xs.length) (st: St 0 σ) (h64: xs.length < 128) {n: Int} {Q: V -> Hp -> Prop} {x3 x4 x5 x7 x8 x9 x10 x11 x12 x13: Option V} {R: Fl -> Frm -> Hp -> Prop}
  (hR: ∀ v F σ,R (.ret v) F σ = Q v σ)
  (q: (k: Int) <= n -> ∀ b τ,St k τ -> τ b = some (.list (((stab iLt kf (xs.take k)).take n.toNat).map .int)) -> Q (.ref b) τ)
  (nx: n < (k: Int) -> R .next [some (.int n),some (.ref Rw),some (.func fk),x3,x4,x5,some (.int k),x7,x8,x9,x10,x11,x12,x13] σ) :
  vSs Φ ps_nsSrt R [some (.int n),some (.ref Rw),some (.func fk),x3,x4,x5,some (.int k),x7,x8,x9,x10,x11,x12,x13] σ:= by
 unfold ps_nsSrt
 walk_at "go";((try simp only [s_ifs,ss_nil,t_cmp,e_var,look_succ,look_zero,c_ge,t_bool]);(repeat (first | rw [q_next] | rw [ss_nil])))
 generalize hys: xs.take k = ys at hx q
 have hyl: ys.length = k:= by rw [<- hys,List.length_take];exact Nat.min_eq_left hk
 by_cases hn: (k: Int) <= n
 ·rw [decide_eq_true hn,if_pos rfl]
  walk_at "go";((try simp only [s_ret,e_slice,o_none,o_some,e_var,look_zero,e_sortk,look_succ]))
  have Wk: Weak (fun i j=> iLt (kf (ys.getD i 0)) (kf (ys.getD j 0))):= iLt_sw.weak fun i=> kf (ys.getD i 0)
  refine ⟨Rw,ys.map .int,ys.map fun x=> .int (kf x),fun i j=> iLt (kf (ys.getD i 0)) (kf (ys.getD j 0)),fk,fun i σ'=> St i σ' /\ ∀ a,σ a = none -> σ' a = none,rfl,hx,Wk,by rw [List.length_map,hyl];exact hk2,by rw [List.length_map,hyl];exact Nat.lt_of_le_of_lt hk h64,rfl,by rw [List.length_map,List.length_map],fun z mz=> ?_,⟨st,fun _ e=> e⟩,fun i σ' h=> h.2,fun i u v σ' hu hv h=> ?_,fun h vs rr=> ?_,fun p hp hu σ' h=> ?_⟩
  ·obtain ⟨w,_,rfl⟩:= List.mem_map.mp mz;trivial
  ·rw [List.getElem?_map,Option.map_eq_some_iff] at hu hv
   obtain ⟨w,hw,rfl⟩:= hu
   obtain ⟨w',hw',rfl⟩:= hv
   rw [hw] at hw';cases hw'
   have hw2: xs[i]? = some w:= by
    rw [<- hys,List.getElem?_take] at hw
    split at hw
    ·exact hw
    ·cases hw
   exact hK _ _ _ _ (K.call i w _ _ hw2 h.1 fun τ2 st2 off=> ⟨rfl,st2,fun a e=> by
    have:= h.2 a e
    rw [off a fun s=> K.dom _ _ a h.1 s this];exact this⟩)
  ·have e1: (ys.map fun x=> V.int (kf x)) = (ys.map kf).map V.int:= by rw [List.map_map];rfl
   rw [e1] at rr
   have hl: vs.length = ys.length:= by rw [rr.length];simp
   refine (sorts_ints (by simpa using (by rw [hyl];exact hk2: 2 <= ys.length)) rr).congr fun i j hi hj=> ?_
   rw [getD_map' kf ys 0 0 (by exact Nat.lt_of_lt_of_eq hi hl),getD_map' kf ys 0 0 (by exact Nat.lt_of_lt_of_eq hj hl)];rfl
  ·rw [List.length_map] at hp hu h
   rw [hyl] at h
   have hm: ∀ i ∈ p.toList,i < ys.length:= fun i m=> by have:= hp.perm.mem_iff.mp m;simpa using this
   have e1: (p.toList.map fun i=> (ys.map V.int).getD i .none) = (stab iLt kf ys).map .int:= by
    rw [<- stab_all iLt_sw hp hu,List.map_map]
    exact List.map_congr_left fun i m=> getD_map_V V.int 0 ys (hm i m)
   rw [e1]
   have sl: (stab iLt kf ys).length = k:= (stab_length ys).trans hyl
   have k1000: k <= 1000:= Nat.le_trans hk (ar_v0 h64)
   refine ⟨by rw [List.length_map,sl];exact big_of k1000,fun b hb=> ?_⟩
   have hn': n = ((n.toNat: Nat): Int):= by exact ar_v6' hk2 hn
   rw [hn']
   refine slice_take (listAt_list (upd_same _ _ _)) (by rw [List.length_map,sl];exact big_of k1000) ?_
   have s1:= K.put h.1 (K.new h.1 hb) (.list ((stab iLt kf ys).map .int))
   refine ⟨by rw [List.length_take,List.length_map,sl];exact big_of (Nat.le_trans (Nat.min_le_right _ _) k1000),fun c hc=> ?_⟩
   ((try simp only []);(with_reducible repeat refine q_retI ?_))
   rw [hR]
   refine q hn c _ (K.put s1 (K.new s1 hc) _) ?_
   rw [upd_same,List.map_take]
 ·rw [decide_eq_false hn]
  simp only [Bool.false_eq_true,if_false]
  walk_at "r"
  exact nx (Int.not_le.mp hn)
end
theorem asks_B {n: Int} {r: Option Nat} {L: Nat} (h: ∀ k,r = some k -> n < (k: Int)): asks n r L = if n <= 0 then 0 else L:= by
 unfold asks
 split
 ·rfl
 ·cases r with
  | none=> rfl
  | some k=> exact if_neg (Int.not_le.mpr (h k rfl))
theorem nsmallest_v (Φ: Fns) (KC: FuncData -> List V -> (V -> Hp -> Prop) -> Hp -> Prop) (hH: ∀ args Q σ,heapifyC args Q σ -> Φ 3 args Q σ) (hG: ∀ fd σ,Φ 1001 [.int 2,.func fd] (fun _ _=> True) σ -> ∀ args Q σ,heapreplaceC args Q σ -> Φ 1000 (.func fd :: args) Q σ) (hK: ∀ fd args Q σ,KC fd args Q σ -> Φ 1000 (.func fd :: args) Q σ)
  (args: List V) (Q: V -> Hp -> Prop) (σ: Hp) (F: Frm) (h: nsC KC args Q σ) (hF: F = args.map some ++ [none,none,none,none,none,none,none,none,none,none,none]): vSs Φ ps_ns (retV Q) F σ:= by
 obtain ⟨n,x,fk,xs,kf,Rw,S,St,r,rfl,h2,h64,n0,n1,K,st,hx,q⟩:= h
 subst hF
 rw [ps_ns_eq]
 walk_at "go";((try simp only [List.map,List.cons_append,List.nil_append,s_ifs,ss_nil,t_cmp,e_int,e_var,look_zero,c_eq,t_bool]);(repeat (first | rw [q_next])))
 by_cases e1: n = 1
 ·subst e1
  simp only [beq_self_eq_true,if_true]
  refine one_v Φ hK K hx st h2 ?_ (Q:= Q) (fun v F σ=> by rw [q_ret];rfl) q
  rw [asks_B]
  ·rfl
  ·intro k e;subst e
   cases hx with
   | list _ h2 _ _=> exact Int.ofNat_lt.mpr h2
 ·rw [show (n == 1) = false by simpa using e1]
  simp only [Bool.false_eq_true,if_false]
  walk_at "r"
  have rest: (∀ k,r = some k -> n < (k: Int)) -> ∀ y6: Option V,vSs Φ (.ifs (.cmp .Is (.var 2) .none) ps_nsA [] :: ps_nsB) (retV Q) [some (.int n),some x,some (.func fk),none,none,none,y6,none,none,none,none,none,none,none] σ:= by
   intro hr y6
   walk_at "go";((try simp only [s_ifs,ss_nil,t_cmp,e_none,e_var,look_succ,look_zero]))
   refine is_func_none ?_
   ((try simp only [t_bool]);(repeat (first | rw [q_next])))
   simp only [Bool.false_eq_true,if_false]
   walk_at "r"
   exact nsB_v Φ hH hG hK K hx st h2 h64 n0 n1 e1 (asks_B hr) (Q:= Q) (fun v F σ=> rfl) q
  walk_at "go";((try simp only [s_tryLen,List.set_cons_succ,List.set_cons_zero,look_succ,look_zero]);(repeat (first | rw [q_next])))
  have hx0:= hx
  cases hx with
  | @list k e k2 k3 k4=>
   refine .inl ⟨_,_,rfl,e,?_⟩
   have hyl: ((xs.take k).map V.int).length = k:= by rw [List.length_map,List.length_take];exact Nat.min_eq_left k3
   rw [hyl]
   refine srt_v Φ hK K e k4 k2 k3 st h64 (Q:= Q) (fun v F σ=> by rw [q_ret];rfl) (fun hn b τ=> ?_) (fun hn=> ?_)
   ·have ea: asks n (some k) xs.length = k:= by
     unfold asks
     rw [if_neg (by lia)];exact if_pos hn
    rw [ea] at q;exact q b τ
   ·walk_at "n"
    exact rest (fun k' e=> by cases e;exact hn) _
  | iter a1 a2 a3=>
   refine .inr ⟨_,_,_,rfl,a1,?_⟩
   walk_at "r"
   exact rest (fun k' e=> nomatch e) _
structure NestFd (fd: FuncData) (fns: List Str) (p: Str) (body: List Stmt) (ps: List PS): Prop where
 bdy: fd.body = .stmts body
 bind: ∀ v,bindArgs fd ⟨[v],[]⟩ = pure [(p,v)]
 glob: fd.globals = mainGlobals
 bi: fd.builtins = builtinsNs
 co: fd.scope.isCoroutine = false
 gen: fd.scope.isGenerator = false
 kind: fd.scope.kind = .function
 nd: (fd.scope.names.map (·.1)).Nodup
 noCell: ∀ x ∈ fd.scope.names,x.2 ≠ .cell
 pl: fd.scope.names.lookup p = some .local
 loc: ∀ x,fd.scope.names.lookup x = some .local -> x = p
 clo: ∀ x,fd.scope.names.lookup x = some .free -> ∃ a,fd.closure.lookup x = some a
 inj: ∀ x y a,fd.closure.lookup x = some a -> fd.closure.lookup y = some a -> x = y
 cs: CB { sc:= fd.scope.names,fns:= fns,code:= codeOf fd } body ps
noncomputable def frN (c: Cfg) (p: Str) (u: V) (us: List (Str × V)): Frm:= c.names.map fun x=> if x = p then some u else us.lookup x
inductive bodyN (Φ: Fns) (c: Cfg) (p: Str) (ps: List PS) (cl: List (Str × Addr)) (args: List V) (Q: V -> Hp -> Prop) (σ: Hp): Prop
 | mk (u: V) (us: List (Str × V)) (h1: args = [u]) (h2: ∀ x v,us.lookup x = some v -> ∃ a,cl.lookup x = some a /\ σ a = some (.cell v)) (h3: ∀ x,c.sc.lookup x = some .free -> ∃ v,us.lookup x = some v) (h4: vSs Φ ps (retV Q) (frN c p u us) σ): bodyN Φ c p ps cl args Q σ
section
variable {prog: Program} {w: World} {h₀: Heap} {mg mb: Str -> Option Value} {Φ: Fns} {n: Nat} {fns: List Str}
theorem nest_frame {fd: FuncData} {p: Str} {body: List Stmt} {ps: List PS} (D: NestFd fd fns p body ps) {fa: Addr} {h h₁: Heap} {σ: Hp} (hw: W h₀ σ h) {va: Value} {u: V} {us: List (Str × V)} (ru: Rep h va u) (ko: ∀ b o,h.get? b = some o -> h₁.get? b = some o) (hns: h₁.Ns h.objs.size (fun x=> [(p,va)].reverse.lookup x))
  (h2: ∀ x v,us.lookup x = some v -> ∃ a,fd.closure.lookup x = some a /\ σ a = some (.cell v)) (h3: ∀ x,fd.scope.names.lookup x = some .free -> ∃ v,us.lookup x = some v) :
  FrOk { sc:= fd.scope.names,fns:= fns,code:= codeOf fd } (callEnv fd h.objs.size fa) (fun a=> a = h.objs.size) (frN { sc:= fd.scope.names,fns:= fns,code:= codeOf fd } p u us) h₀ σ h₁:= by
 have hL: h.get? h.objs.size = none:= get_push_none _
 have vark: ∀ (i: Nat) y,(Cfg.mk fd.scope.names fns (codeOf fd)).names[i]? = some y -> fd.scope.names.lookup y = some .local \/ fd.scope.names.lookup y = some .free:= fun i y e=> by
  obtain ⟨kk,e1,e2,e3⟩:= names_mem e
  have l:= lookup_of_nodup D.nd e2
  have:= D.noCell _ e2
  cases kk <;> simp_all [isVar]
 have at': ∀ (i: Nat) y (v: V),(Cfg.mk fd.scope.names fns (codeOf fd)).names[i]? = some y -> (frN { sc:= fd.scope.names,fns:= fns,code:= codeOf fd } p u us)[i]? = some (some v) -> (y = p /\ v = u) \/ (y ≠ p /\ us.lookup y = some v):= fun i y v e1 e2=> by
  unfold frN at e2
  rw [List.getElem?_map,e1] at e2
  have e2: (if y = p then some u else us.lookup y) = some v:= Option.some.inj e2
  by_cases q: y = p
  ·rw [if_pos q] at e2;exact .inl ⟨q,(Option.some.inj e2).symm⟩
  ·rw [if_neg q] at e2;exact .inr ⟨q,e2⟩
 refine ⟨D.kind,D.glob,D.bi,fun y e=> e,fun i y e=> ?_,⟨_,hns,fun i y v e1 e2 e3=> ?_⟩,fun i y e1 e2=> ?_,fun y z a e1 e2=> D.inj y z a e1 e2,⟨rfl,hw.fresh hL,(beside_one hw hL).2.2⟩,fun i j y e1 e2=> getElem_inj (nodup_names D.nd) e1 e2,fun a e=> ?_,fun a q e=> codeOf_eq e⟩
 ·rcases vark i y e with l | l
  ·exact .inl ⟨l,l⟩
  ·exact .inr (.inr ⟨l,.inr l⟩)
 ·have l: fd.scope.names.lookup y = some .local:= e2
  rcases at' i y v e1 e3 with ⟨rfl,rfl⟩ | ⟨ny,q⟩
  ·exact ⟨va,by simp,ru.tups fun a o e _=> ko a o e⟩
  ·exact absurd (D.loc y l) ny
 ·rcases vark i y e1 with l | l
  ·exact absurd l e2
  ·obtain ⟨v,ev⟩:= h3 y l
   obtain ⟨a,ea,es⟩:= h2 y v ev
   obtain ⟨wv,ic,rw⟩: Holds h a (.cell v):= hw.holds _ _ es
   obtain ⟨oc,e1c,e2c⟩:= ic
   refine ⟨a,some wv,ea,⟨oc,ko _ _ e1c,e2c⟩,(fun ⟨o,q,m⟩=> by rw [es] at q;cases q;cases m),fun q=> ?_,fun q=> ?_,fun v' hv=> ⟨wv,rfl,?_⟩⟩
   ·have: h.objs.size = a:= q.symm
    rw [<- this,hL] at e1c;cases e1c
   ·rw [show ({ sc:= fd.scope.names,fns:= fns,code:= codeOf fd }: Cfg).sc.lookup y = some .free from l] at q;cases q
   ·rcases at' i y v' e1 hv with ⟨rfl,_⟩ | ⟨_,q⟩
    ·rw [D.pl] at l;cases l
    ·rw [ev] at q;cases q
     exact rw.tups fun a o e _=> ko a o e
 ·subst e
  obtain ⟨o,_,_,ho,_⟩:= hns;exact ⟨o,ho⟩
theorem nest_frs {fd: FuncData} (kind: fd.scope.kind = .function) {A: Around} {fa: Addr} {σ: Hp} {h h': Heap} {L: Addr} {m: Str -> Option Value} (fs: Frs A h₀ σ h) (st: Step h₀ σ h σ h') (hσ: σ L = none) (h0: h₀.get? L = none) (hn: h'.Ns L m) :
  Frs (A.deeper (callEnv fd L fa)) h₀ σ h':= by
 obtain ⟨l,e,q⟩:= (fs.step st).go
 refine ⟨⟨callEnv fd L fa :: l,by show A.frames.map _ = _;rw [e];rfl,fun env me=> ?_⟩⟩
 rcases List.mem_cons.mp me with rfl | me
 ·obtain ⟨o,es,ep,ho,hd,_⟩:= hn
  exact ⟨by rw [show (callEnv fd L fa).scope.kind = .function from kind];decide,L,rfl,h0,hσ,o,ho,_,_,hd⟩
 ·exact q env me
theorem nest_ok (G: Gnd prog h₀ mg mb) (NM: NamesOk prog w h₀ mg n fns Φ) {fd: FuncData} {p: Str} {body: List Stmt} {ps: List PS} (D: NestFd fd fns p body ps): FdOk prog w h₀ (n + 1) fd (bodyN Φ { sc:= fd.scope.names,fns:= fns,code:= codeOf fd } p ps fd.closure):= by
 intro A s σ fa o ar vargs args Q ho hd hcd hbi R fs hw ra hb
 obtain ⟨u,us,rfl,h2,h3,v⟩:= hb
 obtain ⟨va,rfl,rv⟩:= one_rep ra
 refine wpAny_call (codeAny_call_def (by have:= R.depth;show A.depth < 1000;(exact ar_u11 this)) ho hd (G.nolimit.keeps hw.stays) hcd D.bdy (hbi _ (BindsTo.of_eq (D.bind va))) D.noCell (fun x hx=> by obtain rfl:= List.mem_singleton.mp hx;exact D.pl) (fun h₁ hns hk=> ?_) D.co D.gen D.kind)
 have fr:= nest_frame D (fa:= fa) hw rv hk hns h2 h3
 have st0:= hw.extend hk
 have R': Room (A.deeper (callEnv fd s.heap.objs.size fa)) n:= by
  obtain ⟨env,l,e,_⟩:= R.env
  refine ⟨R.handled,by have:= R.depth;show A.depth + 1 + n <= 800;lia,by have:= R.units;show A.units + 3 + 8 * n + 5 <= 9000;(exact ar_u9 this),⟨callEnv fd s.heap.objs.size fa,env :: l,?_,D.gen,D.co,D.bi,D.glob⟩⟩
  show A.frames.map _ = _
  rw [e];rfl
 refine wpAny_mono (D.cs ⟨G,NM,R',st0.w,fr,nest_frs D.kind fs st0 (hw.fresh (get_push_none _)) (beside_one hw (get_push_none _)).2.2 hns⟩ (frs_top fs) v) (fun f s' ⟨fl,F',σ',rf,st,m₂,q⟩=> ?_) fun _ _ f=> f.elim
 have all: Step h₀ σ s.heap σ' s'.heap:= StepB.drop (StepB.trans (StepX.b (Step.any st0)) st) fun a q=> by rw [q];exact get_push_none _
 have mm: Sm s s':= Sm.trans ⟨rfl,rfl⟩ m₂
 cases f with
 | next=>
  cases fl with
  | next=> exact ⟨.none,σ',.none,⟨all,mm⟩,q⟩
  | _=> exact rf.elim
 | brk=>
  cases fl with
  | brk=> exact q.elim
  | _=> exact rf.elim
 | cont=>
  cases fl with
  | cont=> exact q.elim
  | _=> exact rf.elim
 | ret v=>
  cases fl with
  | ret x=> exact ⟨x,σ',rf,⟨all,mm⟩,q⟩
  | _=> exact rf.elim
end
theorem PSb.back {own: Addr -> Prop} {h₀: Heap} {σ σ': Hp} {s s₁: Shared} {Q: Fl -> Frm -> Hp -> Prop} {f: Flow} {s': Shared} (x: PSb own h₀ σ' s₁ Q f s') (st: StepB own h₀ σ s.heap σ' s₁.heap) (m: Sm s s₁): PSb own h₀ σ s Q f s':= by
 obtain ⟨fl,F',σ'',a,b,m',q⟩:= x;exact ⟨fl,F',σ'',a,st.trans b,m.trans m',q⟩
theorem CB.cons {c: Cfg} {s: Stmt} {a: PS} {ss: List Stmt} {as: List PS} (h: CS c s a) (hs: CB c ss as): CB c (s :: ss) (a :: as):= by
 intro prog w h₀ mg mb Φ n A s σ env own F Q X T v
 refine wpAny_execs_cons (wpAny_mono (h X T v) (fun f s₁ ⟨fl,F₁,σ₁,rf,⟨st,m₁⟩,fr,q⟩=> ?_) fun _ _ f=> f)
 have q:= q.go
 cases f with
 | next=> cases fl <;> first | exact rf.elim | exact wpAny_mono (hs ⟨X.G,X.NM,X.R,st.w,fr,X.fs.step st⟩ T q) (fun _ _ pv=> pv.back st.b m₁) fun _ _ f=> f
 | cont=> cases fl <;> first | exact rf.elim | exact ⟨.cont,F₁,σ₁,rf,st.b,m₁,q⟩
 | brk=> cases fl <;> first | exact rf.elim | exact ⟨.brk,F₁,σ₁,rf,st.b,m₁,q⟩
 | ret v=> cases fl <;> first | exact rf.elim | exact ⟨.ret _,F₁,σ₁,rf,st.b,m₁,q⟩
noncomputable def frzK (k: NameKind): NameKind:= match k with | .cell=> .free | k=> k
noncomputable def Cfg.frz (c: Cfg): Cfg:= { c with sc:= c.sc.map fun x=> (x.1,frzK x.2) }
theorem frz_lookup {x: Str}: ∀ l: List (Str × NameKind),(l.map fun x=> (x.1,frzK x.2)).lookup x = (l.lookup x).map frzK
 | []=> rfl
 | (y,k) :: l=> by
  rw [List.map_cons,List.lookup_cons,List.lookup_cons]
  cases x == y with
  | true=> rfl
  | false=> exact frz_lookup l
theorem frz_names (c: Cfg): c.frz.names = c.names:= by
 unfold Cfg.names Cfg.frz
 have: ∀ l: List (Str × NameKind),((l.map fun x=> (x.1,frzK x.2)).filter fun x=> isVar x.2).map (·.1) = (l.filter fun x=> isVar x.2).map (·.1):= by
  intro l
  induction l with
  | nil=> rfl
  | cons x l ih=>
   obtain ⟨y,k⟩:= x
   have hk: isVar (frzK k) = isVar k:= by cases k <;> rfl
   rw [List.map_cons,List.filter_cons,List.filter_cons]
   dsimp only
   rw [hk]
   cases isVar k with
   | true=> exact congrArg (y :: ·) ih
   | false=> exact ih
 exact this c.sc
inductive NestG (cd: Option (Addr × Str)) (nm: Str) (pos: Pos) (fs: List (Str × Nat)) (L: List (Str × Addr) -> FuncData -> Prop) (i: Nat) (Φ: Fns) (R: Fl -> Frm -> Hp -> Prop) (F: Frm) (σ: Hp): Prop
 | mk (a P: Addr) (q: Str) (ps: Array Value) (h1: cd = some (a,q)) (h2: Φ 1002 [.ref a,.ref P] (fun _ _=> True) σ) (h3: σ P = some (.tab ps (q ++ nm))) (h4: ps = #[] \/ ∃ cv,codeAmong pos ps.toList = some cv) (h5: ∀ x k,(x,k) ∈ fs -> ∃ v,F[k]? = some (some v))
   (h6: ∀ fd cl σ' ps',L cl fd -> σ' P = some (.tab ps' (q ++ nm)) -> (∃ cv,codeAmong pos ps'.toList = some cv) -> (∀ x k v,(x,k) ∈ fs -> F[k]? = some (some v) -> ∃ a,cl.lookup x = some a /\ σ' a = some (.cell v)) -> (∀ b o,σ b = some o -> b ≠ P -> σ' b = some o) -> (∀ b o,σ' b = some o -> σ b = some o \/ b = P \/ ∃ x k v,o = .cell v /\ (x,k) ∈ fs /\ F[k]? = some (some v)) -> R .next (F.set i (some (.func fd))) σ'): NestG cd nm pos fs L i Φ R F σ
noncomputable def PS.nest (cd: Option (Addr × Str)) (nm: Str) (pos: Pos) (fs: List (Str × Nat)) (L: List (Str × Addr) -> FuncData -> Prop) (i: Nat): PS:= fun Φ R F σ=> NestG cd nm pos fs L i Φ R F σ
theorem s_nest (Φ: Fns) (R: Fl -> Frm -> Hp -> Prop) (F: Frm) (σ: Hp) (cd: Option (Addr × Str)) (nm: Str) (pos: Pos) (fs: List (Str × Nat)) (L: List (Str × Addr) -> FuncData -> Prop) (i: Nat): vS Φ (.nest cd nm pos fs L i) R F σ = NestG cd nm pos fs L i Φ R F σ:= rfl
noncomputable def cellsOf (env: Env) (F: Frm) (fs: List (Str × Nat)): List (Addr × V):= fs.map fun x=> ((env.cells.lookup x.1).getD 0,(F[x.2]?.getD none).getD .none)
noncomputable def withCells (cs: List (Addr × V)) (σ: Hp): Hp:= fun b=> match cs.lookup b with | some v=> some (.cell v) | none=> σ b
section
variable {c: Cfg} {env: Env} {own: Addr -> Prop} {F: Frm} {h₀: Heap} {σ: Hp} {h: Heap} {fs: List (Str × Nat)}
structure FsOk (c: Cfg) (fs: List (Str × Nat)): Prop where
 nm: ∀ x k,(x,k) ∈ fs -> c.names[k]? = some x /\ c.sc.lookup x = some .cell
 all: ∀ x,c.sc.lookup x = some .cell -> ∃ k,(x,k) ∈ fs
theorem fs_cell (f: FrOk c env own F h₀ σ h) (K: FsOk c fs) {x: Str} {k: Nat} {v: V} (m: (x,k) ∈ fs) (e: F[k]? = some (some v)): ∃ a w,env.cells.lookup x = some a /\ h.IsCell a (some w) /\ Rep h w v /\ own a /\ σ a = none /\ h₀.get? a = none /\ a ≠ env.locals:= by
 obtain ⟨e1,e2⟩:= K.nm x k m
 have nl: env.kindOf x ≠ some .local:= by
  rcases f.vk k x e1 with ⟨q,_⟩ | ⟨_,q⟩ | ⟨q,_⟩
  ·rw [e2] at q;cases q
  ·rw [q];simp
  ·rw [e2] at q;cases q
 obtain ⟨a,cv,g1,g2,g3,g4,g5,g6⟩:= f.cell k x e1 nl
 obtain ⟨w,rfl,r⟩:= g6 v e
 obtain ⟨o1,o2,o3⟩:= g5 e2
 exact ⟨a,w,g1,g2,r,o1,o2,o3,g4⟩
theorem cs_some (f: FrOk c env own F h₀ σ h) (K: FsOk c fs) (hF: ∀ x k,(x,k) ∈ fs -> ∃ v,F[k]? = some (some v)) {b: Addr} {v: V} (e: (cellsOf env F fs).lookup b = some v): ∃ x k,(x,k) ∈ fs /\ env.cells.lookup x = some b /\ F[k]? = some (some v):= by
 have m: (b,v) ∈ cellsOf env F fs:= by
  obtain ⟨l1,l2,e1,_⟩:= List.lookup_eq_some_iff.mp e
  rw [e1];exact List.mem_append_right _ (.head _)
 unfold cellsOf at m
 obtain ⟨⟨x,k⟩,mk,q⟩:= List.mem_map.mp m
 obtain ⟨u,hu⟩:= hF x k mk
 obtain ⟨a,w,g1,_⟩:= fs_cell f K mk hu
 simp only [g1,hu,Option.getD_some,Prod.mk.injEq] at q
 obtain ⟨rfl,rfl⟩:= q
 exact ⟨x,k,mk,g1,hu⟩
theorem cs_at (f: FrOk c env own F h₀ σ h) (K: FsOk c fs) (hF: ∀ x k,(x,k) ∈ fs -> ∃ v,F[k]? = some (some v)) {x: Str} {k: Nat} {a: Addr} {v: V} (m: (x,k) ∈ fs) (e: F[k]? = some (some v)) (g: env.cells.lookup x = some a): (cellsOf env F fs).lookup a = some v:= by
 have hs: ((cellsOf env F fs).lookup a).isSome = true:= by
  rw [Option.isSome_iff_ne_none,ne_eq,List.lookup_eq_none_iff]
  intro q
  have:= q (a,v) (List.mem_map.mpr ⟨(x,k),m,by simp [g,e]⟩)
  simp at this
 obtain ⟨u,hu⟩:= Option.isSome_iff_exists.mp hs
 obtain ⟨y,j,mj,gy,ey⟩:= cs_some f K hF hu
 have:= f.inj _ _ _ g gy
 subst this
 have:= f.nd k j x (K.nm x k m).1 (K.nm x j mj).1
 subst this
 rw [e] at ey;cases ey;exact hu
theorem with_none {cs: List (Addr × V)} {b: Addr} (e: cs.lookup b = none): withCells cs σ b = σ b:= by unfold withCells;rw [e]
theorem with_some {cs: List (Addr × V)} {b: Addr} {v: V} (e: cs.lookup b = some v): withCells cs σ b = some (.cell v):= by unfold withCells;rw [e]
theorem with_cases (cs: List (Addr × V)) (σ: Hp) (b: Addr): (cs.lookup b = none /\ withCells cs σ b = σ b) \/ ∃ v,cs.lookup b = some v /\ withCells cs σ b = some (.cell v):= by
 cases e: cs.lookup b with
 | none=> exact .inl ⟨rfl,with_none e⟩
 | some v=> exact .inr ⟨v,rfl,with_some e⟩
theorem cells_up (hw: W h₀ σ h) (f: FrOk c env own F h₀ σ h) (K: FsOk c fs) (hF: ∀ x k,(x,k) ∈ fs -> ∃ v,F[k]? = some (some v)): StepB own h₀ σ h (withCells (cellsOf env F fs) σ) h /\ FrOk c.frz env own F h₀ (withCells (cellsOf env F fs) σ) h:= by
 generalize hcs: cellsOf env F fs = cs
 have ex: ∀ b v,cs.lookup b = some v -> ∃ x k,(x,k) ∈ fs /\ env.cells.lookup x = some b /\ F[k]? = some (some v):= fun b v e=> cs_some f K hF (hcs ▸ e)
 have cell: ∀ b v,cs.lookup b = some v -> ∃ w,h.IsCell b (some w) /\ Rep h w v /\ own b /\ h₀.get? b = none /\ b ≠ env.locals:= fun b v e=> by
  obtain ⟨x,k,m,g,q⟩:= ex b v e
  obtain ⟨a,w,g1,g2,g3,g4,g5,g6,g7⟩:= fs_cell f K m q
  rw [g] at g1;cases g1
  exact ⟨w,g2,g3,g4,g6,g7⟩
 have nMut: ∀ b v,cs.lookup b = some v -> ¬ Mut (withCells cs σ) b:= fun b v e ⟨o,q,m⟩=> by rw [with_some e] at q;cases q;cases m
 have back: ∀ b,Mut (withCells cs σ) b -> Mut σ b:= fun b m=> by
  rcases with_cases cs σ b with ⟨_,q⟩ | ⟨v,e,_⟩
  ·obtain ⟨o,e,mm⟩:= m;rw [q] at e;exact ⟨o,e,mm⟩
  ·exact absurd m (nMut b v e)
 have w2: W h₀ (withCells cs σ) h:= by
  refine ⟨hw.stays,fun b o e=> ?_,fun b m=> hw.above b (back b m),fun b o e=> ?_⟩
  ·rcases with_cases cs σ b with ⟨_,q⟩ | ⟨v,ev,q⟩
   ·rw [q] at e;exact hw.holds b o e
   ·rw [q] at e;cases e
    obtain ⟨w,g,r,_⟩:= cell b v ev
    exact ⟨w,g,r⟩
  ·rcases with_cases cs σ b with ⟨_,q⟩ | ⟨v,ev,q⟩
   ·rw [q] at e;exact hw.small b o e
   ·rw [q] at e;cases e;trivial
 refine ⟨⟨w2,fun a o _ _ _ e=> e,fun a o _ _ _ e=> ⟨o.slots,e⟩,fun a no=> ⟨fun m=> .inl (back a m),fun q=> .inl ?_⟩,fun a o e _=> e,fun a o e=> ⟨o,e,id⟩⟩,?_⟩
 ·rcases with_cases cs σ a with ⟨_,r⟩ | ⟨v,ev,_⟩
  ·rw [r] at q;exact q
  ·obtain ⟨w,_,_,o,_⟩:= cell a v ev
   exact absurd o no
 ·have nms: c.frz.names = c.names:= frz_names c
  have lk: ∀ x,c.frz.sc.lookup x = (c.sc.lookup x).map frzK:= fun x=> frz_lookup c.sc
  refine ⟨f.kind,f.glob,f.bi,fun x e=> f.gk x ?_,fun i x e=> ?_,?_,fun i x e n=> ?_,f.inj,⟨f.loc.1,?_,f.loc.2.2⟩,fun i j x e1 e2=> f.nd i j x (nms ▸ e1) (nms ▸ e2),f.ex,f.code⟩
  ·rw [lk] at e
   cases q: c.sc.lookup x with
   | none=> rw [q] at e;cases e
   | some k=> rw [q] at e;cases k <;> first | rfl | cases e
  ·rw [nms] at e
   rw [lk]
   rcases f.vk i x e with ⟨q,r⟩ | ⟨q,r⟩ | ⟨q,r⟩
   ·exact .inl ⟨by rw [q];rfl,r⟩
   ·exact .inr (.inr ⟨by rw [q];rfl,.inl r⟩)
   ·exact .inr (.inr ⟨by rw [q];rfl,r⟩)
  ·obtain ⟨m,hn,r⟩:= f.ns
   exact ⟨m,hn,fun i x v e1 e2 e3=> r i x v (nms ▸ e1) e2 e3⟩
  ·rw [nms] at e
   obtain ⟨a,cv,g1,g2,g3,g4,g5,g6⟩:= f.cell i x e n
   refine ⟨a,cv,g1,g2,fun m=> g3 (back a m),g4,fun q=> ?_,g6⟩
   rw [lk] at q
   cases q2: c.sc.lookup x with
   | none=> rw [q2] at q;cases q
   | some k=> rw [q2] at q;cases k <;> cases q
  ·rcases with_cases cs σ env.locals with ⟨_,q⟩ | ⟨v,ev,_⟩
   ·rw [q];exact f.loc.2.1
   ·obtain ⟨w,_,_,_,_,q⟩:= cell _ v ev
    exact absurd rfl q
theorem frs_cells {A: Around} (fs': Frs A h₀ σ h) (f: FrOk c env own F h₀ σ h) (K: FsOk c fs) (hF: ∀ x k,(x,k) ∈ fs -> ∃ v,F[k]? = some (some v)): Frs A h₀ (withCells (cellsOf env F fs) σ) h:= by
 obtain ⟨l,e,q⟩:= fs'.go
 refine ⟨l,e,fun env' m=> ?_⟩
 obtain ⟨k,L,e1,e2,e3,o,e4,e5⟩:= q env' m
 refine ⟨k,L,e1,e2,?_,o,e4,e5⟩
 rcases with_cases (cellsOf env F fs) σ L with ⟨_,r⟩ | ⟨v,ev,_⟩
 ·rw [r];exact e3
 ·obtain ⟨x,k,m,g,q⟩:= cs_some f K hF ev
  obtain ⟨a,w,g1,⟨o2,g2,g2'⟩,_⟩:= fs_cell f K m q
  rw [g] at g1;cases g1
  rw [e4] at g2;cases g2
  obtain ⟨es,n,d⟩:= e5
  rw [d] at g2';cases g2'
end
section
variable {c: Cfg} {fs: List (Str × Nat)}
theorem nest_go {prog: Program} {w: World} {h₀: Heap} {mg mb: Str -> Option Value} {Φ: Fns} {n: Nat} {A: Around} {s s': Shared} {σ σ1: Hp} {env: Env} {own: Addr -> Prop} {F: Frm} {R: Fl -> Frm -> Hp -> Prop} {x: Str} {i: Nat} {ls: List Stmt} {fa: Addr} {o: Obj} {fd: FuncData} {E: Value -> Shared -> Prop}
  (hx: c.names[i]? = some x) (hl: c.sc.lookup x = some .local) (K: FsOk c fs) (X: Here prog w h₀ mg mb Φ n c A s σ env own F) (hF: ∀ x k,(x,k) ∈ fs -> ∃ v,F[k]? = some (some v)) (st: Step h₀ σ s.heap σ1 s'.heap) (m: Sm s s') (e1: s'.heap.get? fa = some o) (e2: o.data = .func fd) (cr: s'.heap.CodeRec fd.code fd.qualname)
  (go: ∀ s2 σ2 F2,Here prog w h₀ mg mb Φ n c.frz A s2 σ2 env own F2 -> F2 = F.set i (some (.func fd)) -> (∀ x k v,(x,k) ∈ fs -> F[k]? = some (some v) -> ∃ a,env.cells.lookup x = some a /\ σ2 a = some (.cell v)) -> (∀ b o,σ1 b = some o -> σ2 b = some o) -> (∀ b o,σ2 b = some o -> σ1 b = some o \/ ∃ x k v,o = .cell v /\ (x,k) ∈ fs /\ F[k]? = some (some v)) -> wpAny (model prog w) A (execs ls env) (PSb own h₀ σ2 s2 R) E0 s2) :
  wpAny (model prog w) A (storeName env x (.ref fa)) (fun _ s''=> wpAny (model prog w) A (execs ls env) (PSb own h₀ σ s R) E0 s'') E s':= by
 refine (X.f.step st).store st.w hx (by rw [hl];simp) (.func e1 e2 cr) fun s3 m3 st3 f3=> ?_
 have ne: ∀ y k,(y,k) ∈ fs -> k ≠ i:= fun y k mk q=> by
  obtain ⟨q1,q2⟩:= K.nm y k mk
  rw [q,hx] at q1;cases q1;rw [hl] at q2;cases q2
 have at': ∀ y k,(y,k) ∈ fs -> (F.set i (some (.func fd)))[k]? = F[k]?:= fun y k mk=> List.getElem?_set_ne (ne y k mk).symm
 have hF': ∀ y k,(y,k) ∈ fs -> ∃ v,(F.set i (some (.func fd)))[k]? = some (some v):= fun y k mk=> by rw [at' y k mk];exact hF y k mk
 obtain ⟨sb,fr⟩:= cells_up st3.w f3 K hF'
 have fr2:= frs_cells ((X.fs.step st).step st3) f3 K hF'
 refine wpAny_mono (go s3 _ _ ⟨X.G,X.NM,X.R,sb.w,fr,fr2⟩ rfl (fun y k v mk e=> ?_) (fun b o e=> ?_) fun b o e=> ?_) (fun f s4 pb=> pb.back ((StepX.b (Step.any st)).trans (st3.b.trans sb)) (m.trans m3)) fun _ _ f=> f
 ·have e':= (at' y k mk).trans e
  obtain ⟨a,w,g,_⟩:= fs_cell f3 K mk e'
  exact ⟨a,g,with_some (cs_at f3 K hF' mk e' g)⟩
 ·rcases with_cases (cellsOf env (F.set i (some (.func fd))) fs) σ1 b with ⟨_,q⟩ | ⟨v,ev,_⟩
  ·rw [q];exact e
  ·obtain ⟨y,k,mk,g,q⟩:= cs_some f3 K hF' ev
   obtain ⟨a,w,g1,_,_,_,g5,_⟩:= fs_cell f3 K mk q
   rw [g] at g1;cases g1
   rw [e] at g5;cases g5
 ·rcases with_cases (cellsOf env (F.set i (some (.func fd))) fs) σ1 b with ⟨_,q⟩ | ⟨v,ev,q⟩
  ·rw [q] at e;exact .inl e
  ·rw [q] at e;cases e
   obtain ⟨y,k,mk,g,q2⟩:= cs_some f3 K hF' ev
   exact .inr ⟨y,k,v,rfl,mk,(at' y k mk).symm.trans q2⟩
theorem CB.nest {x: Str} {i: Nat} {params: Arguments} {body: List Stmt} {scope: Scope} {pos: Pos} {ls: List Stmt} {ps: List PS} {L: List (Str × Addr) -> FuncData -> Prop} (hx: c.names[i]? = some x) (hl: c.sc.lookup x = some .local) (K: FsOk c fs) (ok: scOk c scope.names = true) (hfs: ∀ y k,(y,k) ∈ fs -> (y,NameKind.free) ∈ scope.names) (hfree: ∀ y,(y,NameKind.free) ∈ scope.names -> ∃ k,(y,k) ∈ fs)
  (hd0: params.defaults = []) (hk0: params.kw_defaults = []) (ha': ∀ env,annTrees params none env = [])
  (hL: ∀ cl qual doc pm cdv ctv,(∀ y,scope.names.lookup y = some .free -> ∃ a,cl.lookup y = some a) -> (∀ y z a,cl.lookup y = some a -> cl.lookup z = some a -> y = z) -> L cl (fnX x qual params body scope cl .none .none doc pm none cdv ctv)) (hs: CB c.frz ls ps) :
  CB c (.FunctionDef x params body [] none [] scope none x pos :: ls) (.nest c.code x pos fs L i :: ps):= by
 intro prog w h₀ mg mb Φ n A s σ env own F Q X T v
 obtain ⟨a,P,q,tps,h1,h2,h3,h4,h5,h6⟩: NestG c.code x pos fs L i Φ (seqQ Φ ps Q) F σ:= v
 have hw:= X.w
 obtain ⟨hP,ht,hrec0⟩: Holds s.heap P (.tab tps (q ++ x)):= hw.holds _ _ h3
 have mP: Mut σ P:= ⟨_,h3,rfl⟩
 have nP:= hw.above P mP
 obtain ⟨C,hb⟩:= X.NM.tb a P σ h2
 have hg:= X.G.g.keeps hw.stays
 have hgP: mainGlobals ≠ P:= fun e=> by
  obtain ⟨o,es,ep,ho,_⟩:= X.G.g
  rw [e,nP] at ho;cases ho
 have hb': s.heap.BuiltinsAt mg P:= by
  obtain ⟨bm,o,b1,b2,b3,b4,b5,b6⟩:= hb
  exact ⟨bm,o,b1,b2,b3,b4,hw.stays _ _ b5,b6⟩
 obtain ⟨hc1,hc2⟩:= X.f.code a q h1
 have hq: qualnameIn env x x = q ++ x:= by
  unfold qualnameIn
  have: (env.kindOf x == some .globalExplicit) = false:= by
   rcases X.f.vk i x hx with ⟨_,r⟩ | ⟨_,r⟩ | ⟨_,r | r⟩ <;> rw [r] <;> rfl
  rw [this,hc2];rfl
 have hcl:= clos_ok ok X.f
 have nd:= ok
 simp only [scOk,Bool.and_eq_true,decide_eq_true_eq,List.all_eq_true] at nd
 have look: ∀ y,(y,NameKind.free) ∈ scope.names -> (clGo env scope.names []).lookup y = some ((env.cells.lookup y).getD 0):= fun y m=> clGo_free _ _ nd.1 m
 have cellAt: ∀ y,(y,NameKind.free) ∈ scope.names -> ∃ b,env.cells.lookup y = some b:= fun y m=> by
  obtain ⟨k,mk⟩:= hfree y m
  obtain ⟨v,hv⟩:= h5 y k mk
  obtain ⟨b,_,g,_⟩:= fs_cell X.f K mk hv
  exact ⟨b,g⟩
 have back: ∀ y b,(clGo env scope.names []).lookup y = some b -> (y,NameKind.free) ∈ scope.names /\ env.cells.lookup y = some b:= fun y b e=> by
  rcases clGo_some _ _ e with r | ⟨m,r⟩
  ·cases r
  ·obtain ⟨b',g⟩:= cellAt y m
   rw [g] at r
   exact ⟨m,by rw [g,r];rfl⟩
 have hLf: ∀ qual doc pm cdv ctv,L (clGo env scope.names []) (fnX x qual params body scope (clGo env scope.names []) .none .none doc pm none cdv ctv):= fun qual doc pm cdv ctv=> hL _ _ _ _ _ _ (fun y e=> ⟨_,look y (PySem.mem_of_lookup e)⟩) fun y z b e1 e2=> X.f.inj y z b (back y b e1).2 (back z b e2).2
 have fin: ∀ (s1: Shared) (σ1: Hp) (tps': Array Value) doc pm cdv ctv fa,Step h₀ σ s.heap σ1 s1.heap -> Sm s s1 -> s1.heap.get? fa = some { cls:= .type "function",data:= .func (fnX x (q ++ x) params body scope (clGo env scope.names []) .none .none doc pm none cdv ctv) } -> s1.heap.CodeRec cdv (q ++ x) ->
   σ1 P = some (.tab tps' (q ++ x)) -> (∃ cv,codeAmong pos tps'.toList = some cv) -> (∀ b o,σ b = some o -> b ≠ P -> σ1 b = some o) -> (∀ b o,σ1 b = some o -> σ b = some o \/ b = P) ->
   wpAny (model prog w) A (storeName env x (.ref fa)) (fun _ s''=> wpAny (model prog w) A (execs ls env) (PSb own h₀ σ s Q) E0 s'') E0 s1:= by
  intro s1 σ1 tps' doc pm cdv ctv fa st m e cr eP hcv keep only
  refine nest_go hx hl K X h5 st m e rfl cr fun s2 σ2 F2 X2 eF hcells hk hk2=> ?_
  subst eF
  refine hs X2 T (h6 _ _ σ2 tps' (hLf _ _ _ _ _) (hk _ _ eP) hcv (fun y k v mk ev=> ?_) (fun b o eb nb=> hk _ _ (keep b o eb nb)) fun b o eb=> ?_).go
  ·obtain ⟨b,g,es⟩:= hcells y k v mk ev
   exact ⟨b,by rw [look y (hfs y k mk),g];rfl,es⟩
  ·rcases hk2 b o eb with q | q
   ·exact (only b o q).imp id .inl
   ·exact .inr (.inr q)
 refine wpAny_execs_cons (nestDef_K hd0 hk0 (ha' env) ?_)
 rw [hq]
 rcases h4 with rfl | ⟨cv,hcv⟩
 ·refine makeFunction_K (ps:= #[]) hcl X.f.glob hg hc1 (C.keeps hw.stays) hP ht rfl hgP hb' fun c' ctv doc h' tk k hge hlt hrec hP'=> ?_
  have hcv': codeAmong pos (#[] ++ #[rawInt pos.line,rawInt pos.col,Value.ref c']).toList = some (.ref c'):= codeAmong_snoc (pos:= pos) (c:= .ref c') [] trivial rfl
  have rec': ∀ p cv,codeAmong p (#[] ++ #[rawInt pos.line,rawInt pos.col,Value.ref c']).toList = some cv -> h'.CodeRec cv (q ++ x):= fun p cv e=> by
   have: cv = .ref c':= by
    have e': codeAmong p [rawInt pos.line,rawInt pos.col,Value.ref c'] = some cv:= e
    simp only [rawInt,codeAmong] at e'
    split at e'
    ·cases e';rfl
    ·cases e'
   rw [this];exact hrec
  have st1: Step h₀ σ s.heap (upd σ P (.tab (#[] ++ #[rawInt pos.line,rawInt pos.col,.ref c']) (q ++ x))) h':= hw.change mP k (fun _=> ⟨hP',by rw [Array.toList_append];exact TriplesOk_snoc _ _ _ _ ht,rec'⟩) trivial
  have st2:= st1.w.extend (h':= h'.push (fnMade x (q ++ x) params body scope (clGo env scope.names []) doc ((mg "__name__").getD .none) c' ctv)) fun b o e=> Heap.get?_push_of_some _ e
  exact fin _ _ _ _ _ _ _ _ (st1.trans st2) ⟨rfl,rfl⟩ (Heap.get?_push_size _ rfl) (st2.tups.code hrec) (upd_same _ _ _) ⟨_,hcv'⟩ (fun b o e nb=> (upd_ne _ _ nb).trans e) fun b o e=> by
   by_cases qb: b = P
   ·exact .inr qb
   ·rw [upd_ne _ _ qb] at e;exact .inl e
 ·refine makeFunction_hit hcl X.f.glob hg hc1 (C.keeps hw.stays) hP ht hcv hb' fun ctv doc h' tk k hsz=> ?_
  have st2:= hw.extend (h':= h'.push { cls:= .type "function",data:= .func (fnX x (q ++ x) params body scope (clGo env scope.names []) .none .none doc ((mg "__name__").getD .none) none cv ctv) }) fun b o e=> Heap.get?_push_of_some _ (k b o e)
  exact fin _ _ _ _ _ _ _ _ st2 ⟨rfl,rfl⟩ (Heap.get?_push_size _ rfl) (st2.tups.code (hrec0 pos cv hcv)) h3 ⟨cv,hcv⟩ (fun b o e _=> e) fun b o e=> .inl e
end
noncomputable def ps_key: List PS:= [.expr (.meth .append (.var 1) [(.var 0)]),.expr (.meth .extend (.var 3) [(.sub (.var 2) (.var 0))]),.ret (.sub (.var 4) (.var 0))]
noncomputable def ps_told (cd: Option (Addr × Str)) (pos: Pos) (L: List (Str × Addr) -> FuncData -> Prop): List PS:= [.assign (.name 8) (.call .list [(.var 2)]),.assign (.name 7) (.list []),.nest cd "_law_key" pos [("below",3),("worths",4),("asked",7),("row",8)] L 5,.ifs (.var 0) [.assign (.name 6) (.ucallk 4 (.var 1) (.var 8) (.var 5))] [.assign (.name 6) (.ucallk 4 (.var 1) (.call .iter [(.var 8)]) (.var 5))],.ret (.list [(.var 6),(.var 7),(.var 8)])]
noncomputable def ps_due: List PS:= [.ifs (.cmp .Lt (.var 1) (.int 1)) [.ret (.list [(.list []),(.list []),(.var 2)])] [],.assign (.name 6) (.var 5),.assign (.name 7) (.var 5),.ifs (.and (.var 0) (.cmp .GtE (.var 1) (.call .len [(.var 2)]))) [.assign (.name 6) (.var 2),.assign (.name 7) (.bin .Add (.var 2) (.comp2 [none,none,none,some 3] (.var 2) 1 (.var 2) 2 (.sub (.var 3) (.var 1))))] [],.assign (.name 8) (.slice (.call .sorted [(.comp [none,none,some 6,some 4] (.tuple [(.sub (.var 3) (.sub (.var 2) (.var 1))),(.var 1)]) (.name 1) .plain (.call .range [(.call .len [(.var 6)])]) [])]) none (some (.var 1)) none),.ret (.list [(.comp [none,none,none,some 6] (.sub (.var 3) (.var 2)) (.tup [1,2]) .plain (.var 8) []),(.var 6),(.var 7)])]
noncomputable def ps_wood: List PS:= [.assign (.name 7) (.bin .Sub (.bin .Mod (.sub (.var 1) (.var 6)) (.bin .Add (.var 6) (.int 1))) (.int 1)),.ifs (.cmp .Lt (.var 7) (.int 0)) [.expr (.meth .append (.var 2) [(.var 6)]),.expr (.meth .append (.var 4) [(.list [(.var 6)])])] [.expr (.meth .append (.sub (.var 3) (.var 7)) [(.var 6)]),.expr (.meth .append (.var 4) [(.bin .Add (.sub (.var 4) (.var 7)) (.list [(.var 6)]))])],.assign (.name 8) (.bin .FloorDiv (.sub (.var 1) (.var 6)) (.bin .Add (.var 6) (.int 1))),.ifs (.cmp .Eq (.bin .Mod (.call .len [(.var 0)]) (.int 2)) (.int 1)) [.assign (.name 8) (.bin .Mod (.var 8) (.int 3))] [],.expr (.meth .append (.var 5) [(.var 8)])]
noncomputable def ps_asks: List PS:= [.assign (.name 9) (.comp [none,none,none,none] (.var 3) (.tup [1,2,3]) .plain (.call .sorted [(.comp [none,none,some 4] (.tuple [(.call .len [(.sub (.var 2) (.var 1))]),(.sub (.var 2) (.var 1)),(.var 1)]) (.name 1) .plain (.call .range [(.call .len [(.var 4)])]) [])]) []),.assign (.name 10) (.bin .Sub (.bin .Mod (.bin .Add (.call .sum [(.var 0)]) (.int 2)) (.bin .Add (.call .len [(.var 2)]) (.int 3))) (.int 1)),.ifs (.cmp .NotEq (.ucall 5 [(.bool true),(.var 10),(.var 2),(.var 3),(.var 5)]) (.ucall 6 [(.bool true),(.var 10),(.var 2),(.var 3),(.var 5),(.var 9)])) [.ret (.bool false)] [],.assign (.name 10) (.bin .Sub (.bin .Mod (.bin .Add (.call .sum [(.var 0)]) (.int 3)) (.bin .Add (.call .len [(.var 1)]) (.int 3))) (.int 1)),.ret (.cmp .Eq (.ucall 5 [(.bool false),(.var 10),(.var 2),(.var 3),(.var 5)]) (.ucall 6 [(.bool false),(.var 10),(.var 2),(.var 3),(.var 5),(.var 9)]))]
noncomputable def ps_law09: List PS:= .assign (.name 1) (.bin .Add (.list [(.int 5),(.int 0),(.int 7),(.int 1)]) (.var 0)) :: .assign (.name 2) (.list []) :: .assign (.name 3) (.comp [none,none] (.list []) (.name 1) .plain (.var 1) []) :: .assign (.name 4) (.list []) :: .assign (.name 5) (.list []) :: .for (.name 6) .plain (.call .range [(.call .len [(.var 1)])]) ps_wood :: ps_asks
structure Wd (roots: List Int) (ch: Int -> List Int) (xs: List Int): Prop where
 eq: xs = roots ++ xs.flatMap ch
 far: ∀ i,i < xs.length -> i < (roots ++ (xs.take i).flatMap ch).length
theorem Wd.split {roots xs: List Int} {ch: Int -> List Int} (h: Wd roots ch xs) (i: Nat): xs = (roots ++ (xs.take i).flatMap ch) ++ (xs.drop i).flatMap ch:= by
 rw [List.append_assoc,<- List.flatMap_append,List.take_append_drop];exact h.eq
theorem Wd.at {roots xs: List Int} {ch: Int -> List Int} (h: Wd roots ch xs) (i: Nat): (roots ++ (xs.take i).flatMap ch)[i]? = xs[i]?:= by
 rcases Nat.lt_or_ge i xs.length with q | q
 ·have:= h.far i q
  conv=> rhs;rw [h.split i]
  rw [List.getElem?_append_left this]
 ·rw [List.take_of_length_le q,<- h.eq]
theorem Wd.len {roots xs: List Int} {ch: Int -> List Int} (h: Wd roots ch xs) (i: Nat): (roots ++ (xs.take i).flatMap ch).length <= xs.length:= by
 conv=> rhs;rw [h.split i]
 rw [List.length_append (as:= roots ++ _)];exact Nat.le_add_right _ _
theorem Wd.succ {roots xs: List Int} {ch: Int -> List Int} {i: Nat} {x: Int} (e: xs[i]? = some x): roots ++ (xs.take (i + 1)).flatMap ch = (roots ++ (xs.take i).flatMap ch) ++ ch x:= by
 rw [List.take_add_one,e];simp
theorem Wd.roots {roots xs: List Int} {ch: Int -> List Int} (h: Wd roots ch xs): xs.take roots.length = roots:= by
 rw [h.eq];exact List.take_left
structure WoodAt (B W: Addr) (bs: List Addr) (ws: List Int) (ch: Int -> List Int) (kf: Int -> Int) (xs: List Int) (σ: Hp): Prop where
 hB: σ B = some (.list (bs.map .ref))
 hW: σ W = some (.list (ws.map .int))
 at': ∀ x ∈ xs,∃ b,nth (bs.map V.ref) x = some (.ref b) /\ σ b = some (.list ((ch x).map .int)) /\ nth (ws.map V.int) x = some (.int (kf x))
inductive keyC (L: List (Str × Addr) -> FuncData -> Prop) (fd: FuncData) (args: List V) (Q: V -> Hp -> Prop) (σ: Hp): Prop
 | mk (j: Int) (as rs ks bs ws: List V) (w: V) (cl: List (Str × Addr)) (cA cB cR cW A B R W b: Addr) (h1: args = [.int j]) (h2: L cl fd)
   (a1: cl.lookup ("asked": Str) = some cA) (a2: cl.lookup ("below": Str) = some cB) (a3: cl.lookup ("row": Str) = some cR) (a4: cl.lookup ("worths": Str) = some cW)
   (b1: σ cA = some (.cell (.ref A))) (b2: σ cB = some (.cell (.ref B))) (b3: σ cR = some (.cell (.ref R))) (b4: σ cW = some (.cell (.ref W)))
   (d1: σ A = some (.list as)) (d2: σ R = some (.list rs)) (d3: σ B = some (.list bs)) (d4: σ W = some (.list ws)) (d5: σ b = some (.list ks)) (n1: A ≠ R) (n2: A ≠ B) (n3: A ≠ W) (n4: R ≠ W) (n5: A ≠ b)
   (e1: nth bs j = some (.ref b)) (e2: nth ws j = some w) (z1: as.length < BIG) (z2: rs.length + ks.length <= BIG) (q: Q w (upd (upd σ A (.list (as ++ [.int j]))) R (.list (rs ++ ks)))): keyC L fd args Q σ
theorem key_v (Φ: Fns) {L: List (Str × Addr) -> FuncData -> Prop} {fd: FuncData} {args: List V} {Q: V -> Hp -> Prop} {σ: Hp} (h: keyC L fd args Q σ): ∃ u cl,∃ A B R W: Addr,∃ cA cB cR cW: Addr,args = [u] /\ L cl fd /\ (cl.lookup ("asked": Str) = some cA /\ cl.lookup ("below": Str) = some cB /\ cl.lookup ("row": Str) = some cR /\ cl.lookup ("worths": Str) = some cW) /\
  (σ cA = some (.cell (.ref A)) /\ σ cB = some (.cell (.ref B)) /\ σ cR = some (.cell (.ref R)) /\ σ cW = some (.cell (.ref W))) /\ vSs Φ ps_key (retV Q) [some u,some (.ref A),some (.ref B),some (.ref R),some (.ref W)] σ:= by
 obtain ⟨j,as,rs,ks,bs,ws,w,cl,cA,cB,cR,cW,A,B,R,W,b,rfl,h2,a1,a2,a3,a4,b1,b2,b3,b4,d1,d2,d3,d4,d5,n1,n2,n3,n4,n5,e1,e2,z1,z2,q⟩:= h
 refine ⟨_,cl,A,B,R,W,cA,cB,cR,cW,rfl,h2,⟨a1,a2,a3,a4⟩,⟨b1,b2,b3,b4⟩,?_⟩
 unfold ps_key
 walk_at "go";((try simp only [s_expr,e_meth,es_cons,es_nil,e_var,look_zero,look_succ]))
 refine ⟨⟨A,_,rfl,d1⟩,m_append d1 z1 ?_⟩
 walk_at "n"
 walk_at "go";((try simp only [s_expr,e_meth,es_cons,es_nil,e_sub,e_var,look_zero,look_succ]))
 have d2': upd σ A (.list (as ++ [.int j])) R = some (.list rs):= (upd_ne _ _ n1.symm).trans d2
 refine ⟨⟨R,_,rfl,d2'⟩,?_⟩
 refine sub_list (x:= .ref b) (listAt_list ((upd_ne _ _ n2.symm).trans d3)) e1 ?_
 refine m_extend d2' ((upd_ne _ _ n5.symm).trans d5) z2 ?_
 walk_at "n"
 walk_at "go";((try simp only [s_ret,e_sub,e_var,look_zero,look_succ]))
 refine sub_list (x:= w) (listAt_list ((upd_ne _ _ n4.symm).trans ((upd_ne _ _ n3.symm).trans d4))) e2 ?_
 ((with_reducible repeat refine q_retI ?_);walk_at "r")
 exact q
inductive KeyCells (L: List (Str × Addr) -> FuncData -> Prop) (fd: FuncData) (A R B W: Addr) (σ: Hp): Prop
 | mk (cl: List (Str × Addr)) (cA cB cR cW: Addr) (h: L cl fd) (a1: cl.lookup ("asked": Str) = some cA) (a2: cl.lookup ("below": Str) = some cB) (a3: cl.lookup ("row": Str) = some cR) (a4: cl.lookup ("worths": Str) = some cW)
   (b1: σ cA = some (.cell (.ref A))) (b2: σ cB = some (.cell (.ref B))) (b3: σ cR = some (.cell (.ref R))) (b4: σ cW = some (.cell (.ref W))): KeyCells L fd A R B W σ
structure TB (L: List (Str × Addr) -> FuncData -> Prop) (fd: FuncData) (A R B W: Addr) (bs: List Addr) (ws: List Int) (ch: Int -> List Int) (kf: Int -> Int) (roots xs: List Int) (σ: Hp): Prop where
 key: KeyCells L fd A R B W σ
 hA: σ A = some (.list [])
 hR: σ R = some (.list (roots.map .int))
 wood: WoodAt B W bs ws ch kf xs σ
 wd: Wd roots ch xs
 AR: A ≠ R
 nB: B ≠ A /\ B ≠ R
 nW: W ≠ A /\ W ≠ R
 nb: ∀ x ∈ xs,∀ b,nth (bs.map V.ref) x = some (.ref b) -> b ≠ A /\ b ≠ R
 flat: ∀ a o,σ a = some o -> o.flat
 len: xs.length < 128
structure TSt (A R: Addr) (ch: Int -> List Int) (roots xs: List Int) (σ: Hp) (i: Nat) (τ: Hp): Prop where
 hA: τ A = some (.list ((xs.take i).map .int))
 hR: τ R = some (.list ((roots ++ (xs.take i).flatMap ch).map .int))
 same: ∀ a,σ a ≠ none -> a ≠ A -> a ≠ R -> τ a = σ a
theorem ints_flat (xs: List Int): AObj.flat (.list (xs.map .int)):= fun x m=> by obtain ⟨i,_,rfl⟩:= List.mem_map.mp m;trivial
theorem TB.row {L: List (Str × Addr) -> FuncData -> Prop} {fd: FuncData} {A R B W: Addr} {bs: List Addr} {ws: List Int} {ch: Int -> List Int} {kf: Int -> Int} {roots xs: List Int} {σ: Hp} (T: TB L fd A R B W bs ws ch kf roots xs σ): KRow (keyC L) fd xs kf R (fun a=> σ a ≠ none) (TSt A R ch roots xs σ):= by
 refine ⟨fun i x τ Q hx h q=> ?_,fun i τ h=> ?_,fun i τ τ' h k=> ?_,fun i τ a h s=> ?_,fun i τ a o h s e=> ?_⟩
 ·have mx:= List.mem_of_getElem? hx
  obtain ⟨cl,cA,cB,cR,cW,hL,a1,a2,a3,a4,b1,b2,b3,b4⟩:= T.key
  obtain ⟨b,eb,hb,ew⟩:= T.wood.at' x mx
  obtain ⟨n1,n2⟩:= T.nb x mx b eb
  have cl: ∀ {c: Addr} {v: V},σ c = some (.cell v) -> τ c = some (.cell v):= fun {c v} e=> (h.same c (by rw [e];simp) (by rintro rfl;rw [T.hA] at e;cases e) (by rintro rfl;rw [T.hR] at e;cases e)).trans e
  have ol: ∀ {c: Addr} {o: AObj},σ c = some o -> c ≠ A -> c ≠ R -> τ c = some o:= fun e n1 n2=> (h.same _ (by rw [e];simp) n1 n2).trans e
  have hi:= (List.getElem?_eq_some_iff.mp hx).1
  have hl:= T.len
  have l1:= T.wd.len (i + 1)
  rw [Wd.succ hx,List.length_append] at l1
  refine ⟨x,_,_,_,_,_,_,_,cA,cB,cR,cW,A,B,R,W,b,rfl,hL,a1,a2,a3,a4,cl b1,cl b2,cl b3,cl b4,h.hA,h.hR,ol T.wood.hB T.nB.1 T.nB.2,ol T.wood.hW T.nW.1 T.nW.2,ol hb n1 n2,T.AR,T.nB.1.symm,T.nW.1.symm,T.nW.2.symm,n1.symm,eb,ew,?_,?_,?_⟩
  ·rw [List.length_map,List.length_take];exact Nat.lt_of_lt_of_le (Nat.lt_of_le_of_lt (Nat.min_le_right _ _) hl) (by decide)
  ·rw [List.length_map,List.length_map];exact Nat.le_trans l1 (Nat.le_trans (Nat.le_of_lt hl) (by decide))
  ·refine q _ ⟨?_,?_,fun a s n1 n2=> ?_⟩ fun a s=> ?_
   ·rw [upd_ne _ _ T.AR,upd_same,List.take_add_one,hx,List.map_append];rfl
   ·rw [upd_same,Wd.succ hx];simp only [List.map_append]
   ·rw [upd_ne _ _ n2,upd_ne _ _ n1];exact h.same a s n1 n2
   ·rw [upd_ne _ _ (by rintro rfl;exact s (by rw [T.hR];simp)),upd_ne _ _ (by rintro rfl;exact s (by rw [T.hA];simp))]
 ·exact ⟨_,listAt_list h.hR,by rw [List.getElem?_map,List.getElem?_map,T.wd.at i]⟩
 ·exact ⟨(k A (by rw [T.hA];simp)).trans h.hA,(k R (by rw [T.hR];simp)).trans h.hR,fun a s n1 n2=> (k a s).trans (h.same a s n1 n2)⟩
 ·by_cases q1: a = A
  ·rw [q1,h.hA];simp
  ·by_cases q2: a = R
   ·rw [q2,h.hR];simp
   ·rw [h.same a s q1 q2];exact s
 ·by_cases q1: a = A
  ·rw [q1,h.hA] at e;cases e;exact ints_flat _
  ·by_cases q2: a = R
   ·rw [q2,h.hR] at e;cases e;exact ints_flat _
   ·rw [h.same a s q1 q2] at e;exact T.flat a o e
noncomputable def toldOf (n: Int) (listed: Bool) (roots xs: List Int) (kf: Int -> Int): List Int:= (stab iLt kf (xs.take (asks n (if listed then some roots.length else none) xs.length))).take n.toNat
noncomputable def askedOf (n: Int) (listed: Bool) (roots xs: List Int): List Int:= xs.take (asks n (if listed then some roots.length else none) xs.length)
inductive toldC (pos: Pos) (cd: Addr × Str) (P: Addr) (args: List V) (Q: V -> Hp -> Prop) (σ: Hp): Prop
 | mk (listed: Bool) (n: Int) (rt B W: Addr) (bs: List Addr) (ws: List Int) (ch: Int -> List Int) (kf: Int -> Int) (roots xs: List Int) (ps: Array Value) (h1: args = [.bool listed,.int n,.ref rt,.ref B,.ref W]) (h2: listAt σ rt = some (roots.map .int)) (h3: WoodAt B W bs ws ch kf xs σ) (h4: Wd roots ch xs)
   (h5: 2 <= roots.length) (h6: xs.length < 128) (h7: -1000 <= n) (h8: n <= 1000) (h9: ∀ a o,σ a = some o -> o.flat) (h10: σ P = some (.tab ps (cd.2 ++ "_law_key"))) (h11: ps = #[] \/ ∃ cv,codeAmong pos ps.toList = some cv)
   (q: ∀ b a1 a2 a3 τ ps',τ b = some (.list [.ref a1,.ref a2,.ref a3]) -> listAt τ a1 = some ((toldOf n listed roots xs kf).map .int) -> listAt τ a2 = some ((askedOf n listed roots xs).map .int) -> listAt τ a3 = some ((roots ++ (askedOf n listed roots xs).flatMap ch).map .int) ->
    τ P = some (.tab ps' (cd.2 ++ "_law_key")) -> (∃ cv,codeAmong pos ps'.toList = some cv) -> (∀ a o,σ a = some o -> a ≠ P -> τ a = some o) -> Q (.ref b) τ): toldC pos cd P args Q σ
theorem told_k {x: Str} {k: Nat} (m: (x,k) ∈ [(("below": Str),3),("worths",4),("asked",7),("row",8)]): k = 3 \/ k = 4 \/ k = 7 \/ k = 8:= by
 simp only [List.mem_cons,Prod.mk.injEq,List.not_mem_nil,or_false] at m
 rcases m with m | m | m | m
 ·exact .inl m.2
 ·exact .inr (.inl m.2)
 ·exact .inr (.inr (.inl m.2))
 ·exact .inr (.inr (.inr m.2))
theorem told_val {x0 x1 x2 x5 x6: Option V} {B W A R: Addr} {x: Str} {k: Nat} (m: (x,k) ∈ [(("below": Str),3),("worths",4),("asked",7),("row",8)]): ∃ a: Addr,[x0,x1,x2,some (.ref B),some (.ref W),x5,x6,some (.ref A),some (.ref R)][k]? = some (some (.ref a)):= by
 rcases told_k m with q | q | q | q <;> (subst q;exact ⟨_,rfl⟩)
theorem told_tb {L: List (Str × Addr) -> FuncData -> Prop} {fd: FuncData} {cl: List (Str × Addr)} {A R B W P: Addr} {bs: List Addr} {ws: List Int} {ch: Int -> List Int} {kf: Int -> Int} {roots xs: List Int} {ps ps': Array Value} {nm: Str} {σ σ3: Hp} {x0 x1 x2 x5 x6: Option V} (hL: L cl fd) (h3: WoodAt B W bs ws ch kf xs σ) (h4: Wd roots ch xs) (h6: xs.length < 128) (h9: ∀ a o,σ a = some o -> o.flat) (h10: σ P = some (.tab ps nm)) (e1: σ3 P = some (.tab ps' nm)) (hR: σ R = none) (hA: σ A = none) (nAR: A ≠ R)
  (hc: ∀ x k v,(x,k) ∈ [(("below": Str),3),("worths",4),("asked",7),("row",8)] -> [x0,x1,x2,some (.ref B),some (.ref W),x5,x6,some (.ref A),some (.ref R)][k]? = some (some v) -> ∃ a,cl.lookup x = some a /\ σ3 a = some (.cell v)) (keep: ∀ b o,upd (upd σ R (.list (roots.map .int))) A (.list []) b = some o -> b ≠ P -> σ3 b = some o)
  (only: ∀ b o,σ3 b = some o -> upd (upd σ R (.list (roots.map .int))) A (.list []) b = some o \/ b = P \/ ∃ x k v,o = .cell v /\ (x,k) ∈ [(("below": Str),3),("worths",4),("asked",7),("row",8)] /\ [x0,x1,x2,some (.ref B),some (.ref W),x5,x6,some (.ref A),some (.ref R)][k]? = some (some v)): TB L fd A R B W bs ws ch kf roots xs σ3:= by
 have old: ∀ {a: Addr} {o: AObj},σ a = some o -> a ≠ A /\ a ≠ R:= fun e=> ⟨ne_of_none hA e,ne_of_none hR e⟩
 have keep': ∀ b xs,σ b = some (.list xs) -> σ3 b = some (.list xs):= fun b xs e=> keep b _ (by rw [upd_ne _ _ (old e).1,upd_ne _ _ (old e).2];exact e) (fun q=> by rw [q,h10] at e;cases e)
 have nP:= old h10
 have eA: σ3 A = some (.list []):= keep _ _ (upd_same _ _ _) nP.1.symm
 have eR: σ3 R = some (.list (roots.map .int)):= keep _ _ (by rw [upd_ne _ _ nAR.symm];exact upd_same _ _ _) nP.2.symm
 refine ⟨?_,eA,eR,⟨keep' _ _ h3.hB,keep' _ _ h3.hW,fun x m=> ?_⟩,h4,nAR,old h3.hB,old h3.hW,fun x m b e=> ?_,fun a o e=> ?_,h6⟩
 ·obtain ⟨cB,p1,q1⟩:= hc "below" 3 _ (.head _) rfl
  obtain ⟨cW,p2,q2⟩:= hc "worths" 4 _ (.tail _ (.head _)) rfl
  obtain ⟨cA,p3,q3⟩:= hc "asked" 7 _ (.tail _ (.tail _ (.head _))) rfl
  obtain ⟨cR,p4,q4⟩:= hc "row" 8 _ (.tail _ (.tail _ (.tail _ (.head _)))) rfl
  exact ⟨cl,cA,cB,cR,cW,hL,p3,p1,p4,p2,q3,q1,q4,q2⟩
 ·obtain ⟨b,q1,q2,q3⟩:= h3.at' x m
  exact ⟨b,q1,keep' _ _ q2,q3⟩
 ·obtain ⟨b',q1,q2,q3⟩:= h3.at' x m
  rw [q1] at e
  injection Option.some.inj e with this
  rw [<- this]
  exact old q2
 ·rcases only a o e with q | q | ⟨x,k,v,eo,m,q⟩
  ·by_cases qA: a = A
   ·rw [qA,eA] at e;rw [<- Option.some.inj e];exact fun x m=> nomatch m
   ·by_cases qR: a = R
    ·rw [qR,eR] at e;rw [<- Option.some.inj e];exact ints_flat _
    ·rw [upd_ne _ _ qA,upd_ne _ _ qR] at q;exact h9 a o q
  ·rw [q,e1] at e;rw [<- Option.some.inj e];trivial
  ·obtain ⟨c,ec⟩:= told_val m (x0:= x0) (x1:= x1) (x2:= x2) (x5:= x5) (x6:= x6) (B:= B) (W:= W) (A:= A) (R:= R)
   rw [ec] at q
   rw [eo,<- Option.some.inj (Option.some.inj q)];trivial
theorem told_v (Φ: Fns) (L: List (Str × Addr) -> FuncData -> Prop) (hN: ∀ args Q σ,nsC (keyC L) args Q σ -> Φ 4 args Q σ) (pos: Pos) (cd: Addr × Str) (P: Addr) (hΦ: ∀ σ,Φ 1002 [.ref cd.1,.ref P] (fun _ _=> True) σ)
  (args: List V) (Q: V -> Hp -> Prop) (σ: Hp) (F: Frm) (h: toldC pos cd P args Q σ) (hF: F = args.map some ++ [none,none,none,none]): vSs Φ (ps_told (some cd) pos L) (retV Q) F σ:= by
 obtain ⟨listed,n,rt,B,W,bs,ws,ch,kf,roots,xs,ps,rfl,h2,h3,h4,h5,h6,h7,h8,h9,h10,h11,q⟩:= h
 subst hF
 have hlen:= h4.len 0
 simp only [List.take_zero,List.flatMap_nil,List.append_nil] at hlen
 unfold ps_told
 walk_at "go";((try simp only [List.map,List.cons_append,List.nil_append,s_assign,bt_name,List.set_cons_succ,List.set_cons_zero,e_call,es_cons,es_nil,e_var,look_succ,look_zero]))
 refine call_list h2 ⟨(by rw [List.length_map];exact big_of (ar_v0 (Nat.lt_of_le_of_lt hlen h6))),fun R hR=> ?_⟩
 ((try simp only []);walk_at "n")
 walk_at "go";((try simp only [s_assign,bt_name,List.set_cons_succ,List.set_cons_zero,e_list,es_nil]))
 refine ⟨Nat.zero_le _,fun A hA=> ?_⟩
 ((try simp only []);walk_at "n")
 have nAR: A ≠ R:= by rintro rfl;rw [upd_same] at hA;cases hA
 have hA': σ A = none:= by rw [upd_ne _ _ nAR] at hA;exact hA
 refine go_cons ?_
 rw [s_nest]
 have nP: P ≠ A /\ P ≠ R:= ⟨(by rintro rfl;rw [hA'] at h10;cases h10),(by rintro rfl;rw [hR] at h10;cases h10)⟩
 have up: ∀ b o,σ b = some o -> upd (upd σ R (.list (roots.map .int))) A (.list []) b = some o:= fun b o e=> by
  rw [upd_ne _ _ (by rintro rfl;rw [hA'] at e;cases e),upd_ne _ _ (by rintro rfl;rw [hR] at e;cases e)];exact e
 refine ⟨cd.1,P,cd.2,ps,rfl,hΦ _,up _ _ h10,h11,fun x k m=> ?_,fun fd cl σ3 ps' hL e1 e2 hc keep only=> ?_⟩
 ·obtain ⟨c,ec⟩:= told_val m (x0:= some (.bool listed)) (x1:= some (.int n)) (x2:= some (.ref rt)) (x5:= none) (x6:= none) (B:= B) (W:= W) (A:= A) (R:= R)
  exact ⟨_,ec⟩
 ((try simp only [List.set_cons_succ,List.set_cons_zero]);walk_at "n")
 have keep': ∀ b o,σ b = some o -> b ≠ P -> σ3 b = some o:= fun b o e n=> keep b o (up b o e) n
 have old: ∀ {a: Addr} {o: AObj},σ a = some o -> a ≠ A /\ a ≠ R:= fun e=> ⟨ne_of_none hA' e,ne_of_none hR e⟩
 have T:= told_tb hL h3 h4 h6 h9 h10 e1 hR hA' nAR hc keep only
 have eA:= T.hA
 have eR:= T.hR
 have K:= T.row
 have s0: TSt A R ch roots xs σ3 0 σ3:= ⟨eA,by rw [List.take_zero,List.flatMap_nil,List.append_nil];exact eR,fun _ _ _ _=> rfl⟩
 have x2: 2 <= xs.length:= Nat.le_trans h5 hlen
 have fin: ∀ (b1: Addr) (τ: Hp),TSt A R ch roots xs σ3 (asks n (if listed then some roots.length else none) xs.length) τ -> τ b1 = some (.list ((toldOf n listed roots xs kf).map .int)) ->
   vSs Φ [.ret (.list [(.var 6),(.var 7),(.var 8)])] (retV Q) [some (.bool listed),some (.int n),some (.ref rt),some (.ref B),some (.ref W),some (.func fd),some (.ref b1),some (.ref A),some (.ref R)] τ:= by
  intro b1 τ st e
  walk_at "go";((try simp only [s_ret,e_list,es_cons,es_nil,e_var,look_succ,look_zero]))
  refine ⟨big_of (n:= 3) (by decide),fun b hb=> ?_⟩
  ((try simp only []);(with_reducible repeat refine q_retI ?_);walk_at "r")
  have ne: ∀ {a: Addr} {o: AObj},τ a = some o -> a ≠ b:= fun e=> by rintro rfl;rw [hb] at e;cases e
  have at': ∀ a o,σ a = some o -> a ≠ P -> τ a = some o:= fun a o e n=> by
   obtain ⟨n1,n2⟩:= old e
   have e3:= keep' a o e n
   rw [st.same a (by rw [e3];simp) n1 n2];exact e3
  have eP: τ P = some (.tab ps' (cd.2 ++ "_law_key")):= (st.same P (by rw [e1];simp) nP.1 nP.2).trans e1
  exact q b b1 A R _ ps' (upd_same _ _ _) (listAt_list ((upd_ne _ _ (ne e)).trans e)) (listAt_list ((upd_ne _ _ (ne st.hA)).trans st.hA)) (listAt_list ((upd_ne _ _ (ne st.hR)).trans st.hR)) ((upd_ne _ _ (ne eP)).trans eP) e2 fun a o e n=> (upd_ne _ _ (ne (at' a o e n))).trans (at' a o e n)
 walk_at "go";((try simp only [s_ifs,t_var,look_zero,t_bool]))
 cases listed with
 | true=>
  simp only [if_true]
  walk_at "go";((try simp only [s_assign,bt_name,List.set_cons_succ,List.set_cons_zero,e_ucallk,e_var,look_succ,look_zero,es_cons,es_nil]))
  refine ⟨_,_,rfl,?_⟩
  walk_at "r"
  refine hN _ _ _ ⟨n,.ref R,fd,xs,kf,R,_,_,some roots.length,rfl,x2,h6,h7,h8,K,s0,.list ?_ h5 hlen (fun a s=> s),fun b τ st e=> ?_⟩
  ·rw [h4.roots];exact listAt_list eR
  ·((with_reducible repeat first | refine q_nextI ?_ | refine ss_nilI ?_))
   exact fin b τ st e
 | false=>
  simp only [Bool.false_eq_true,if_false]
  walk_at "go";((try simp only [s_assign,bt_name,List.set_cons_succ,List.set_cons_zero,e_ucallk,e_var,look_succ,look_zero,es_cons,es_nil,e_call]))
  refine call_iter_list (listAt_list eR) fun it hit=> ?_
  walk_at "r"
  have nit: ∀ {a: Addr},σ3 a ≠ none -> a ≠ it:= fun s=> by rintro rfl;exact s hit
  refine ⟨_,_,rfl,?_⟩
  walk_at "r"
  refine hN _ _ _ ⟨n,.ref it,fd,xs,kf,R,_,_,none,rfl,x2,h6,h7,h8,K,K.put s0 (fun s=> s hit) _,.iter (upd_same _ _ _) (fun s=> s hit) (fun a s=> ?_),fun b τ st e=> ?_⟩
  ·by_cases qa: a = it
   ·exact .inr qa
   ·rw [upd_ne _ _ qa] at s;exact .inl s
  ·((with_reducible repeat first | refine q_nextI ?_ | refine ss_nilI ?_))
   exact fin b τ st e
noncomputable def ps_dueEnd: List PS:= [.assign (.name 8) (.slice (.call .sorted [(.comp [none,none,some 6,some 4] (.tuple [(.sub (.var 3) (.sub (.var 2) (.var 1))),(.var 1)]) (.name 1) .plain (.call .range [(.call .len [(.var 6)])]) [])]) none (some (.var 1)) none),.ret (.list [(.comp [none,none,none,some 6] (.sub (.var 3) (.var 2)) (.tup [1,2]) .plain (.var 8) []),(.var 6),(.var 7)])]
noncomputable def ps_dueRow: List PS:= [.assign (.name 6) (.var 2),.assign (.name 7) (.bin .Add (.var 2) (.comp2 [none,none,none,some 3] (.var 2) 1 (.var 2) 2 (.sub (.var 3) (.var 1))))]
theorem ps_due_eq: ps_due = .ifs (.cmp .Lt (.var 1) (.int 1)) [.ret (.list [(.list []),(.list []),(.var 2)])] [] :: .assign (.name 6) (.var 5) :: .assign (.name 7) (.var 5) :: .ifs (.and (.var 0) (.cmp .GtE (.var 1) (.call .len [(.var 2)]))) ps_dueRow [] :: ps_dueEnd:= rfl
theorem nth_getD {ys: List Int} {i: Nat} (h: i < ys.length): nth (ys.map V.int) (i: Int) = some (.int (ys.getD i 0)):= by
 rw [nth_nat,List.getElem?_map,List.getD_eq_getElem?_getD,List.getElem?_eq_getElem h];rfl
noncomputable def duePr (kf: Int -> Int) (ys: List Int): List (List Int):= (List.range ys.length).map fun i=> [kf (ys.getD i 0),(i: Int)]
theorem duePr_at {kf: Int -> Int} {ys: List Int} {i: Nat} (h: i < ys.length): (duePr kf ys).getD i [] = [kf (ys.getD i 0),(i: Int)]:= by
 unfold duePr;simp [List.getD_eq_getElem?_getD,h]
theorem due_lt {ka kb: Int} {a b: Nat} (h1: ltI [kb,(b: Int)] [ka,(a: Int)] = false) (h2: ltI [ka,(a: Int)] [kb,(b: Int)] = false -> a < b): decide (kb < ka) = false /\ (decide (ka < kb) = false -> a < b):= by
 by_cases q: kb = ka
 ·subst q
  refine ⟨by simp,fun _=> ?_⟩
  simp only [ltI,if_true] at h1 h2
  by_cases r: a = b
  ·subst r;exact h2 (by simp)
  ·rw [if_neg (fun z: (b: Int) = (a: Int)=> r (Int.ofNat.inj z).symm)] at h1
   have:= of_decide_eq_false h1
   lia
 ·simp only [ltI] at h1
  rw [if_neg q] at h1
  have:= of_decide_eq_false h1
  exact ⟨h1,fun e=> by have:= of_decide_eq_false e;lia⟩
theorem due_up {kf: Int -> Int} {ys: List Int} {p: Array Nat} (hp: Pre ys.length p ys.length) (hu: Up (fun i j=> ltI ((duePr kf ys).getD i []) ((duePr kf ys).getD j [])) p ys.length): Up (fun i j=> iLt (kf (ys.getD i 0)) (kf (ys.getD j 0))) p ys.length:= by
 intro i j hij hj
 obtain ⟨h1,h2⟩:= hu i j hij hj
 have gi:= hp.low i (Nat.lt_trans hij hj)
 have gj:= hp.low j hj
 simp only [duePr_at gi,duePr_at gj] at h1 h2
 exact due_lt h1 h2
theorem due_end (Φ: Fns) {kf: Int -> Int} {ys ws: List Int} {τ: Hp} {se ro W: Addr} {n: Int} (hs: listAt τ se = some (ys.map .int)) (hW: listAt τ W = some (ws.map .int)) (hk: ∀ y ∈ ys,nth (ws.map V.int) y = some (.int (kf y))) (h2: 2 <= ys.length) (h64: ys.length < 128) (hn: 1 <= n) {Q: V -> Hp -> Prop} {x0 x2 x3 x5 x8: Option V}
  (q: ∀ b a1 τ',τ' b = some (.list [.ref a1,.ref se,.ref ro]) -> listAt τ' a1 = some (((stab iLt kf ys).take n.toNat).map .int) -> Ext τ τ' -> Q (.ref b) τ') :
  vSs Φ ps_dueEnd (retV Q) [x0,some (.int n),x2,x3,some (.ref W),x5,some (.ref se),some (.ref ro),x8] τ:= by
 have l1000: ys.length <= 1000:= ar_v0 h64
 unfold ps_dueEnd
 walk_at "go";((try simp only [s_assign,bt_name,List.set_cons_succ,List.set_cons_zero,e_slice,o_none,o_some,e_var,look_succ,look_zero,e_call,es_cons,es_nil,e_comp,frOf,List.map]))
 refine call_len hs ?_
 rw [List.length_map]
 ((try simp only [c_range1,i_rng]))
 refine ⟨rok_of (Int.natCast_nonneg _) (by exact Nat.ToInt.of_le rfl rfl l1000) (by decide) (by decide),?_⟩
 have rl: rlen 0 (ys.length: Int) 1 = ys.length:= by unfold rlen;simp
 rw [rl]
 refine comp_rule (xs:= (List.range ys.length).map fun (i: Nat)=> V.int (0 + (i: Int) * 1)) (fun v=> match v with | .int i=> some (tupV [kf (ys.getD i.toNat 0),i]) | _=> none) (by rw [List.length_map,List.length_range];exact big_of l1000) (yields_rng _ _ _ _) ?_ ?_
 ·intro y my τ1 hE K N hK hN
  obtain ⟨i,mi,rfl⟩:= List.mem_map.mp my
  have hi: i < ys.length:= by simpa using mi
  have ei: 0 + (i: Int) * 1 = (i: Nat):= by lia
  rw [ei] at hK hN ⊢
  ((try simp only [e_tuple,es_cons,es_nil,e_var,e_sub,ts_nil,bt_name,List.set_cons_succ,List.set_cons_zero,look_succ,look_zero]))
  simp only [if_true]
  refine sub_list (hE.listAt hs) (nth_getD hi) ?_
  refine sub_list (hE.listAt hW) (hk _ (by rw [List.getD_eq_getElem?_getD,List.getElem?_eq_getElem hi];exact List.getElem_mem hi)) ?_
  walk_at "r"
  exact ⟨big_of (n:= 2) (by decide),hK _ _ rfl .rfl⟩
 ·intro τ1 hE1 a ha
  have e1: ((List.range ys.length).map fun (i: Nat)=> V.int (0 + (i: Int) * 1)).filterMap (fun v=> match v with | .int i=> some (tupV [kf (ys.getD i.toNat 0),i]) | _=> none) = (duePr kf ys).map fun x=> .tup (x.map .int):= by
   unfold duePr
   rw [List.filterMap_map,List.map_map]
   exact fm_some _ fun i _=> by
    have ei: 0 + (i: Int) * 1 = (i: Nat):= by lia
    simp only [Function.comp_apply,ei,Int.toNat_natCast];rfl
  rw [e1]
  have dl: (duePr kf ys).length = ys.length:= by unfold duePr;simp
  refine call_sorted (lt:= fun i j=> ltI ((duePr kf ys).getD i []) ((duePr kf ys).getD j [])) (ltI_sw.weak fun i=> (duePr kf ys).getD i []) (listAt_list (upd_same _ _ _)) (by rw [List.length_map,dl];exact h2) (by rw [List.length_map,dl];exact h64) (fun h₀ h vs hw r=> sorts_tups (by rw [dl];exact h2) r fun x m=> ?_) fun p hp hu=> ?_
  ·unfold duePr at m
   obtain ⟨i,_,rfl⟩:= List.mem_map.mp m;simp
  rw [List.length_map,dl] at hp hu
  have hm: ∀ i ∈ p.toList,i < ys.length:= fun i m=> by have:= hp.perm.mem_iff.mp m;simpa using this
  have pl: p.toList.length = ys.length:= by have:= hp.size;simpa using this
  have e2: (p.toList.map fun i=> ((duePr kf ys).map fun x=> V.tup (x.map .int)).getD i .none) = p.toList.map fun i=> tupV [kf (ys.getD i 0),(i: Int)]:= List.map_congr_left fun i m=> by
   have:= hm i m
   rw [List.getD_eq_getElem?_getD,List.getElem?_map,<- duePr_at this,List.getD_eq_getElem?_getD,List.getElem?_eq_getElem (by rw [dl];exact this)];rfl
  rw [e2]
  refine newL_of (by rw [List.length_map,pl];exact big_of l1000) fun b τ2 x2' n2 g2=> ?_
  have hn': n = ((n.toNat: Nat): Int):= (Int.toNat_of_nonneg (by exact Int.le_of_lt hn)).symm
  rw [hn']
  refine slice_take (listAt_list g2) (by rw [List.length_map,pl];exact big_of l1000) ?_
  refine newL_of (by rw [List.length_take,List.length_map,pl];exact big_of (Nat.le_trans (Nat.min_le_right _ _) l1000)) fun c τ3 x3' n3 g3=> ?_
  have xx: Ext τ τ3:= hE1.trans ((Ext.upd _ ha).trans (x2'.trans x3'))
  walk_at "n"
  walk_at "go";((try simp only [s_ret,e_list,es_cons,es_nil,e_var,look_succ,look_zero,e_comp,frOf,List.map,i_ref]))
  refine ⟨⟨_,listAt_list g3⟩,?_⟩
  refine comp_rule (xs:= (p.toList.map fun i=> tupV [kf (ys.getD i 0),(i: Int)]).take n.toNat) (fun v=> match v with | .tup [_,.int i]=> some (.int (ys.getD i.toNat 0)) | _=> none) (by rw [List.length_take,List.length_map,pl];exact big_of (Nat.le_trans (Nat.min_le_right _ _) l1000)) (yields_lst (fun σ' h=> h.listAt (listAt_list g3)) _ 0 rfl) ?_ ?_
  ·intro x mx τ4 hE4 K N hK hN
   obtain ⟨i,mi,rfl⟩:= List.mem_map.mp (List.mem_of_mem_take mx)
   unfold tupV at hK ⊢
   ((try simp only [List.map,e_sub,e_var,ts_nil,bt_tup,sa_cons,List.set_cons_succ,List.set_cons_zero,sa_nil,look_succ,look_zero]))
   refine ⟨rfl,?_⟩
   walk_at "r"
   refine sub_list ((xx.trans hE4).listAt hs) (nth_getD (hm i mi)) ?_
   exact hK _ _ rfl .rfl
  ·intro τ4 hE4 d hd
   have e3: ((p.toList.map fun i=> tupV [kf (ys.getD i 0),(i: Int)]).take n.toNat).filterMap (fun v=> match v with | .tup [_,.int i]=> some (V.int (ys.getD i.toNat 0)) | _=> none) = ((stab iLt kf ys).take n.toNat).map .int:= by
    rw [<- stab_all iLt_sw hp (due_up hp hu),<- List.map_take,<- List.map_take,List.filterMap_map,List.map_map]
    exact fm_some _ fun i _=> rfl
   rw [e3]
   walk_at "r"
   refine newL_of (big_of (n:= 3) (by decide)) fun b2 τ5 x5' n5 g5=> ?_
   ((with_reducible repeat refine q_retI ?_);walk_at "r")
   exact q b2 d τ5 g5 (x5'.listAt (listAt_list (upd_same _ _ _))) (xx.trans (hE4.trans ((Ext.upd _ hd).trans x5')))
inductive dueC (args: List V) (Q: V -> Hp -> Prop) (σ: Hp): Prop
 | mk (listed: Bool) (n: Int) (rt B W od: Addr) (bs: List Addr) (ws: List Int) (ch: Int -> List Int) (kf: Int -> Int) (roots xs: List Int) (h1: args = [.bool listed,.int n,.ref rt,.ref B,.ref W,.ref od]) (h2: listAt σ rt = some (roots.map .int)) (h3: WoodAt B W bs ws ch kf xs σ) (h4: Wd roots ch xs) (h5: listAt σ od = some (xs.map .int))
   (h6: 2 <= roots.length) (h7: xs.length < 128)
   (q: ∀ b a1 a2 a3 τ,τ b = some (.list [.ref a1,.ref a2,.ref a3]) -> listAt τ a1 = some ((toldOf n listed roots xs kf).map .int) -> listAt τ a2 = some ((askedOf n listed roots xs).map .int) -> listAt τ a3 = some ((roots ++ (askedOf n listed roots xs).flatMap ch).map .int) -> Ext σ τ -> Q (.ref b) τ): dueC args Q σ
theorem due_v (Φ: Fns) (args: List V) (Q: V -> Hp -> Prop) (σ: Hp) (F: Frm) (h: dueC args Q σ) (hF: F = args.map some ++ [none,none,none]): vSs Φ ps_due (retV Q) F σ:= by
 obtain ⟨listed,n,rt,B,W,od,bs,ws,ch,kf,roots,xs,rfl,h2,h3,h4,h5,h6,h7,q⟩:= h
 subst hF
 have hlen:= h4.len 0
 simp only [List.take_zero,List.flatMap_nil,List.append_nil] at hlen
 have x2: 2 <= xs.length:= Nat.le_trans h6 hlen
 have hk: ∀ y ∈ xs,nth (ws.map V.int) y = some (.int (kf y)):= fun y m=> by obtain ⟨_,_,_,e⟩:= h3.at' y m;exact e
 rw [ps_due_eq]
 walk_at "go";((try simp only [List.map,List.cons_append,List.nil_append,s_ifs,ss_nil,t_cmp,e_int,e_var,look_succ,look_zero,c_lt,t_bool]);(repeat (first | rw [q_next])))
 by_cases hn: n < 1
 ·rw [decide_eq_true hn]
  simp only [if_true]
  have ea: asks n (if listed then some roots.length else none) xs.length = 0:= by unfold asks;rw [if_pos (by exact Int.le_iff_lt_add_one.mpr hn)]
  have t0: toldOf n listed roots xs kf = []:= by unfold toldOf;rw [ea,show n.toNat = 0 by lia];rfl
  have a0: askedOf n listed roots xs = []:= by unfold askedOf;rw [ea];rfl
  walk_at "go";((try simp only [s_ret,e_list,es_cons,es_nil,e_var,look_succ,look_zero]))
  refine newL_of (Nat.zero_le _) fun a1 τ1 x1 n1 g1=> ?_
  refine newL_of (Nat.zero_le _) fun a2 τ2 x2' n2 g2=> ?_
  walk_at "r"
  refine newL_of (big_of (n:= 3) (by decide)) fun b τ3 x3 n3 g3=> ?_
  ((with_reducible repeat refine q_retI ?_);walk_at "r")
  exact q b a1 a2 rt τ3 g3 (by rw [t0];exact (x2'.trans x3).listAt (listAt_list g1)) (by rw [a0];exact x3.listAt (listAt_list g2)) (by rw [a0];simpa using (x1.trans (x2'.trans x3)).listAt h2) (x1.trans (x2'.trans x3))
 ·rw [decide_eq_false hn]
  simp only [Bool.false_eq_true,if_false]
  have hn1: 1 <= n:= by exact Int.not_lt.mp hn
  have rest: ∀ (τ: Hp) (se ro: Addr) (ys: List Int) (x8: Option V),Ext σ τ -> ys = askedOf n listed roots xs -> listAt τ se = some (ys.map .int) -> listAt τ ro = some ((roots ++ ys.flatMap ch).map .int) -> 2 <= ys.length -> vSs Φ ps_dueEnd (retV Q) [some (.bool listed),some (.int n),some (.ref rt),some (.ref B),some (.ref W),some (.ref od),some (.ref se),some (.ref ro),x8] τ:= by
   intro τ se ro ys x8 xt hys e1 e2 l2
   have sub: ∀ y ∈ ys,y ∈ xs:= fun y m=> by rw [hys] at m;exact List.mem_of_mem_take m
   have l3: ys.length < 128:= by rw [hys];exact Nat.lt_of_le_of_lt (List.length_take_le' _ _) h7
   refine due_end Φ e1 (xt.listAt (listAt_list h3.hW)) (fun y m=> hk y (sub y m)) l2 l3 hn1 fun b a1 τ' g1 g2 x'=> ?_
   refine q b a1 se ro τ' g1 ?_ ?_ ?_ (xt.trans x')
   ·rw [g2,hys];rfl
   ·rw [<- hys];exact x'.listAt e1
   ·rw [<- hys];exact x'.listAt e2
  walk_at "r"
  walk_at "go";((try simp only [s_assign,bt_name,List.set_cons_succ,List.set_cons_zero,e_var,look_succ,look_zero]);walk_at "n")
  walk_at "go";((try simp only [s_assign,bt_name,List.set_cons_succ,List.set_cons_zero,e_var,look_succ,look_zero]);walk_at "n")
  walk_at "go";((try simp only [s_ifs,ss_nil,t_and,t_cmp,e_call,es_cons,es_nil,e_var,look_succ,look_zero,t_var,t_bool]);(repeat (first | rw [q_next])))
  have whole: (listed = true -> n < (roots.length: Int)) -> askedOf n listed roots xs = xs:= fun hc=> by
   unfold askedOf
   rw [asks_B (fun k e=> by cases listed <;> simp at e;subst e;exact hc rfl),if_neg (by exact Int.not_le.mpr hn1),List.take_length]
  have all: (listed = true -> n < (roots.length: Int)) -> ∀ x8,vSs Φ ps_dueEnd (retV Q) [some (.bool listed),some (.int n),some (.ref rt),some (.ref B),some (.ref W),some (.ref od),some (.ref od),some (.ref od),x8] σ:= fun hc x8=> by
   refine rest σ od od xs x8 .rfl (whole hc).symm h5 ?_ x2
   rw [<- h4.eq];exact h5
  cases listed with
  | false=>
   simp only [Bool.false_eq_true,if_false]
   walk_at "r"
   exact all (fun h=> nomatch h) _
  | true=>
   simp only [if_true]
   refine call_len h2 ?_
   rw [List.length_map]
   ((try simp only [c_ge,t_bool]);(repeat (first | rw [q_next])))
   by_cases hc: (roots.length: Int) <= n
   ·rw [decide_eq_true hc]
    simp only [if_true]
    have ea: askedOf n true roots xs = roots:= by
     unfold askedOf asks
     simp only [if_true]
     rw [if_neg (by exact Int.not_le.mpr hn1),if_pos hc];exact h4.roots
    have rf: roots ++ roots.flatMap ch = roots ++ (xs.take roots.length).flatMap ch:= by rw [h4.roots]
    have rl:= h4.len roots.length
    rw [<- rf] at rl
    have sub: ∀ y ∈ roots,y ∈ xs:= fun y m=> by rw [<- h4.roots] at m;exact List.mem_of_mem_take m
    unfold ps_dueRow
    walk_at "go";((try simp only [s_assign,bt_name,List.set_cons_succ,List.set_cons_zero,e_var,look_succ,look_zero]);walk_at "n")
    walk_at "go";((try simp only [s_assign,bt_name,List.set_cons_succ,List.set_cons_zero,e_bin,e_comp2,frOf,List.map,e_var,look_succ,look_zero,i_ref]))
    refine ⟨⟨_,h2⟩,?_⟩
    have fe: (roots.map V.int).flatMap (fun v=> match v with | .int i=> (ch i).map V.int | _=> []) = (roots.flatMap ch).map V.int:= by
     rw [List.flatMap_map,List.map_flatMap]
    refine comp2_rule (xs:= roots.map .int) (fun v=> match v with | .int i=> (ch i).map V.int | _=> []) (by rw [fe,List.length_map];rw [List.length_append] at rl;exact big_of (by lia)) (yields_lst (fun σ' h=> by rw [h];exact h2) _ 0 rfl) ?_ ?_ ?_
    ·intro x mx K hK
     obtain ⟨j,mj,rfl⟩:= List.mem_map.mp mx
     obtain ⟨b,e1,e2,_⟩:= h3.at' j (sub j mj)
     ((try simp only [List.set_cons_succ,List.set_cons_zero,e_sub,e_var,look_succ,look_zero]))
     exact sub_list (listAt_list h3.hB) e1 (hK b (listAt_list e2))
    ·intro x z K hK
     ((try simp only [List.set_cons_succ,List.set_cons_zero,e_var,look_succ,look_zero]))
     exact hK
    ·rw [fe]
     refine newL_of (by rw [List.length_map];rw [List.length_append] at rl;exact big_of (by lia)) fun a τ1 x1 n1 g1=> ?_
     refine add_lists (x1.listAt h2) (listAt_list g1) ?_
     rw [<- List.map_append]
     refine newL_of (by rw [List.length_map];exact big_of (by lia)) fun c τ2 x2' n2 g2=> ?_
     ((with_reducible repeat first | refine q_nextI ?_ | refine ss_nilI ?_))
     exact rest τ2 rt c roots _ (x1.trans x2') ea.symm ((x1.trans x2').listAt h2) (listAt_list g2) h6
   ·rw [decide_eq_false hc]
    simp only [Bool.false_eq_true,if_false]
    walk_at "r"
    exact all (fun _=> by exact Int.lt_of_not_ge hc) _
structure Wood (up: Nat -> Int) (w: Nat -> List Int): Prop where
 lt: ∀ j,up j < j
 root: ∀ j,up j < 0 -> w j = [(j: Int)]
 kid: ∀ j p: Nat,up j = p -> w j = w p ++ [(j: Int)]
noncomputable def wKey (w: Nat -> List Int) (j: Nat): List Int:= ((w j).length: Int) :: w j
noncomputable def rootsN (up: Nat -> Int) (m: Nat): List Nat:= (List.range m).filter fun j=> decide (up j < 0)
noncomputable def kidsN (up: Nat -> Int) (m p: Nat): List Nat:= (List.range m).filter fun j=> decide (up j = p)
theorem mem_roots {up: Nat -> Int} {m j: Nat}: j ∈ rootsN up m ↔ j < m /\ up j < 0:= by unfold rootsN;simp
theorem mem_kids {up: Nat -> Int} {m p j: Nat}: j ∈ kidsN up m p ↔ j < m /\ up j = p:= by unfold kidsN;simp
theorem ltI_snoc: ∀ (a b: List Int) (x y: Int),a.length = b.length -> ltI (a ++ [x]) (b ++ [y]) = if a = b then decide (x < y) else ltI a b
 | [],[],x,y,_=> by
  simp only [List.nil_append,ltI,if_true]
  by_cases h: x = y
  ·rw [if_pos h,h];simp
  ·rw [if_neg h]
 | a :: as,b :: bs,x,y,h=> by
  have ih:= ltI_snoc as bs x y (by simpa using h)
  simp only [List.cons_append,ltI,List.cons.injEq]
  by_cases e: a = b
  ·simp only [e,true_and,if_true];exact ih
  ·simp only [e,false_and,if_false]
section
variable {up: Nat -> Int} {w: Nat -> List Int} (H: Wood up w)
include H
theorem Wood.cases (j: Nat): (up j < 0 /\ w j = [(j: Int)]) \/ ∃ p: Nat,p < j /\ up j = p /\ w j = w p ++ [(j: Int)]:= by
 rcases Int.lt_or_le (up j) 0 with q | q
 ·exact .inl ⟨q,H.root j q⟩
 ·have e: up j = (up j).toNat:= (Int.toNat_of_nonneg q).symm
  have:= H.lt j
  exact .inr ⟨_,by exact (Int.toNat_lt q).mpr this,e,H.kid j _ e⟩
theorem Wood.last (j: Nat): ∃ l,w j = l ++ [(j: Int)]:= by
 rcases H.cases j with ⟨_,e⟩ | ⟨p,_,_,e⟩
 ·exact ⟨[],e⟩
 ·exact ⟨_,e⟩
theorem Wood.inj {i j: Nat} (e: w i = w j): i = j:= by
 obtain ⟨l,e1⟩:= H.last i
 obtain ⟨l',e2⟩:= H.last j
 rw [e1,e2] at e
 have:= List.append_inj_right' e rfl
 exact Int.ofNat_inj.mp (by simpa using this)
theorem Wood.pos (j: Nat): 1 <= (w j).length:= by
 obtain ⟨l,e⟩:= H.last j
 rw [e,List.length_append];exact Nat.le_add_left 1 _
theorem Wood.kid_len {j p: Nat} (h: up j = p): (w j).length = (w p).length + 1:= by rw [H.kid j p h,List.length_append];rfl
theorem Wood.key_inj {i j: Nat} (e: wKey w i = wKey w j): i = j:= H.inj (List.cons.inj e).2
noncomputable def bel (w: Nat -> List Int) (a b: Nat): Prop:= ltI (wKey w a) (wKey w b) = true
omit H in
theorem bel_len {a b: Nat} (h: (w a).length < (w b).length): bel w a b:= by
 unfold bel wKey
 simp only [ltI]
 rw [if_neg (by lia)];exact decide_eq_true (by exact Int.ofNat_lt.mpr h)
omit H in
theorem bel_le {a b: Nat} (h: bel w a b): (w a).length <= (w b).length:= by
 unfold bel wKey at h
 simp only [ltI] at h
 by_cases e: ((w a).length: Int) = (w b).length
 ·exact Nat.le_of_eq (by exact Int.ofNat_inj.mp e)
 ·rw [if_neg e] at h;have:= of_decide_eq_true h;lia
omit H in
theorem bel_irr {a: Nat} (h: bel w a a): False:= by unfold bel at h;rw [ltI_sw.irr] at h;cases h
omit H in
theorem bel_asym {a b: Nat} (h: bel w a b) (g: bel w b a): False:= by
 unfold bel at h g;rw [ltI_sw.asym _ _ h] at g;cases g
theorem Wood.same_par {p x y: Nat} (hx: up x = p) (hy: up y = p) (h: x < y): bel w x y:= by
 unfold bel wKey
 rw [H.kid x p hx,H.kid y p hy]
 simp only [ltI,List.length_append,List.length_cons,List.length_nil,if_true]
 rw [ltI_snoc _ _ _ _ rfl,if_pos rfl];exact decide_eq_true (by exact Int.ofNat_lt.mpr h)
theorem Wood.two_par {p q x y: Nat} (hx: up x = p) (hy: up y = q) (h: bel w p q): bel w x y:= by
 have l1:= H.kid_len hx
 have l2:= H.kid_len hy
 have le:= bel_le h
 rcases Nat.lt_or_ge (w p).length (w q).length with g | g
 ·exact bel_len (by lia)
 ·have e: (w p).length = (w q).length:= Nat.le_antisymm le g
  unfold bel wKey at h ⊢
  simp only [ltI] at h ⊢
  rw [if_pos (by exact Int.ofNat_inj.mpr e)] at h
  rw [if_pos (by lia),H.kid x p hx,H.kid y q hy,ltI_snoc _ _ _ _ e]
  rw [if_neg (fun z=> by rw [z,ltI_sw.irr] at h;cases h)];exact h
theorem Wood.roots_up {x y: Nat} (hx: up x < 0) (hy: up y < 0) (h: x < y): bel w x y:= by
 unfold bel wKey
 rw [H.root x hx,H.root y hy]
 simp only [ltI,List.length_cons,List.length_nil,if_true]
 rw [if_neg (by lia)];exact decide_eq_true (by exact Int.ofNat_lt.mpr h)
omit H in
theorem range_pw {m: Nat} {p: Nat -> Bool} {R: Nat -> Nat -> Prop} (h: ∀ x y,p x = true -> p y = true -> x < y -> R x y): ((List.range m).filter p).Pairwise R:= by
 rw [List.pairwise_filter]
 exact (List.pairwise_lt_range (n:= m)).imp fun q a b=> h _ _ a b q
theorem Wood.order {m: Nat} {xs: List Nat} (hp: xs.Perm (List.range m)) (hs: xs.Pairwise fun a b=> ltI (wKey w b) (wKey w a) = false) :
  xs = rootsN up m ++ xs.flatMap (kidsN up m) /\ ∀ i,i < xs.length -> i < (rootsN up m ++ (xs.take i).flatMap (kidsN up m)).length:= by
 have nd: xs.Nodup:= hp.nodup_iff.mpr List.nodup_range
 have mx: ∀ j,j ∈ xs ↔ j < m:= fun j=> by rw [hp.mem_iff,List.mem_range]
 have st: xs.Pairwise (bel w):= by
  have:= hs.and (List.nodup_iff_pairwise_ne.mp nd)
  refine this.imp fun {a b} h=> ?_
  unfold bel
  cases q: ltI (wKey w a) (wKey w b) with
  | true=> rfl
  | false=> exact absurd (H.key_inj (ltI_eq _ _ q h.1)) h.2
 have rs: (rootsN up m ++ xs.flatMap (kidsN up m)).Pairwise (bel w):= by
  rw [List.pairwise_append,List.pairwise_flatMap]
  refine ⟨range_pw fun x y a b h=> H.roots_up (of_decide_eq_true a) (of_decide_eq_true b) h,⟨fun p _=> range_pw fun x y a b h=> H.same_par (of_decide_eq_true a) (of_decide_eq_true b) h,st.imp fun h x mx y my=> H.two_par (mem_kids.mp mx).2 (mem_kids.mp my).2 h⟩,fun x mx y my=> ?_⟩
  obtain ⟨p,_,mp⟩:= List.mem_flatMap.mp my
  refine bel_len ?_
  have:= H.kid_len (mem_kids.mp mp).2
  have:= H.pos p
  rw [H.root x (mem_roots.mp mx).2]
  simp only [List.length_cons,List.length_nil];lia
 have rn: (rootsN up m ++ xs.flatMap (kidsN up m)).Nodup:= List.nodup_iff_pairwise_ne.mpr (rs.imp fun h e=> by rw [e] at h;exact bel_irr h)
 have rm: ∀ j,j ∈ rootsN up m ++ xs.flatMap (kidsN up m) ↔ j < m:= fun j=> by
  rw [List.mem_append,List.mem_flatMap]
  refine ⟨fun q=> ?_,fun q=> ?_⟩
  ·rcases q with q | ⟨p,_,q⟩
   ·exact (mem_roots.mp q).1
   ·exact (mem_kids.mp q).1
  ·rcases H.cases j with ⟨r,_⟩ | ⟨p,pj,r,_⟩
   ·exact .inl (mem_roots.mpr ⟨q,r⟩)
   ·exact .inr ⟨p,(mx p).mpr (Nat.lt_trans pj q),mem_kids.mpr ⟨q,r⟩⟩
 have eq: xs = rootsN up m ++ xs.flatMap (kidsN up m):= by
  refine List.Perm.eq_of_pairwise (le:= bel w) (fun a b _ _ h g=> (bel_asym h g).elim) st rs ?_
  rw [List.perm_ext_iff_of_nodup nd rn]
  exact fun j=> (mx j).trans (rm j).symm
 refine ⟨eq,fun i hi=> ?_⟩
 have sp: xs = (rootsN up m ++ (xs.take i).flatMap (kidsN up m)) ++ (xs.drop i).flatMap (kidsN up m):= by
  rw [List.append_assoc,<- List.flatMap_append,List.take_append_drop];exact eq
 refine Nat.lt_of_not_le fun hk=> ?_
 generalize hpre: rootsN up m ++ (xs.take i).flatMap (kidsN up m) = pre at sp hk
 have hkx: pre.length < xs.length:= Nat.lt_of_le_of_lt hk hi
 -- the thing there
 have hx:= List.getElem_mem hkx
 generalize hxe: xs[pre.length] = x at hx
 have npre: x ∉ pre:= fun mp=> by
  obtain ⟨q,hq,eq2⟩:= List.getElem_of_mem mp
  have hq': q < xs.length:= Nat.lt_trans hq hkx
  have: xs[q] = x:= by
   rw [<- eq2]
   conv=> lhs;arg 1;rw [sp]
   rw [List.getElem_append_left hq]
  have e3: q = pre.length:= (List.getElem_inj (h₀:= hq') (h₁:= hkx) nd).mp (this.trans hxe.symm)
  rw [e3] at hq;exact Nat.lt_irrefl _ hq
 apply npre
 rw [<- hpre,List.mem_append]
 rcases H.cases x with ⟨r,_⟩ | ⟨p,px,r,_⟩
 ·exact .inl (mem_roots.mpr ⟨(mx x).mp hx,r⟩)
 ·refine .inr (List.mem_flatMap.mpr ⟨p,?_,mem_kids.mpr ⟨(mx x).mp hx,r⟩⟩)
  have mp: p ∈ xs:= (mx p).mpr (Nat.lt_trans px ((mx x).mp hx))
  obtain ⟨q,hq,eq2⟩:= List.getElem_of_mem mp
  have bpx: bel w p x:= bel_len (by rw [H.kid_len r];exact Nat.lt_succ_self _)
  have qk: q < pre.length:= by
   refine Nat.lt_of_not_le fun g=> ?_
   rcases Nat.lt_or_ge pre.length q with g2 | g2
   ·have:= List.pairwise_iff_getElem.mp st _ _ hkx hq g2
    rw [hxe,eq2] at this
    exact bel_asym bpx this
   ·have e3: q = pre.length:= Nat.le_antisymm g2 g
    subst e3
    rw [hxe] at eq2
    rw [<- eq2] at bpx;exact bel_irr bpx
  have qi: q < i:= Nat.lt_of_lt_of_le qk hk
  rw [<- eq2]
  have: (xs.take i)[q]'(by rw [List.length_take];exact Nat.lt_min.mpr ⟨qi,hq⟩) = xs[q]:= List.getElem_take
  rw [<- this];exact List.getElem_mem _
end
theorem Wood.wd {up: Nat -> Int} {w: Nat -> List Int} (H: Wood up w) {m: Nat} {xs: List Nat} (hp: xs.Perm (List.range m)) (hs: xs.Pairwise fun a b=> ltI (wKey w b) (wKey w a) = false) :
  Wd ((rootsN up m).map fun j: Nat=> (j: Int)) (fun x=> (kidsN up m x.toNat).map fun j: Nat=> (j: Int)) (xs.map fun j: Nat=> (j: Int)):= by
 obtain ⟨h1,h2⟩:= H.order hp hs
 have fm: ∀ l: List Nat,(l.map fun j: Nat=> (j: Int)).flatMap (fun x=> (kidsN up m x.toNat).map fun j: Nat=> (j: Int)) = (l.flatMap (kidsN up m)).map fun j: Nat=> (j: Int):= fun l=> by
  rw [List.flatMap_map,List.map_flatMap];rfl
 refine ⟨?_,fun i hi=> ?_⟩
 ·rw [fm,<- List.map_append,<- h1]
 ·rw [<- List.map_take,fm,<- List.map_append,List.length_map]
  exact h2 i (by simpa using hi)
noncomputable def upN (ns: List Int) (j: Nat): Int:= (ns.getD j 0).fmod ((j: Int) + 1) - 1
noncomputable def waysL (ns: List Int): Nat -> List (List Int)
 | 0=> []
 | j + 1=> waysL ns j ++ [if upN ns j < 0 then [(j: Int)] else (waysL ns j).getD (upN ns j).toNat [] ++ [(j: Int)]]
noncomputable def wayN (ns: List Int) (j: Nat): List Int:= (waysL ns (j + 1)).getD j []
noncomputable def wtN (ns: List Int) (odd: Bool) (j: Nat): Int:= if odd then ((ns.getD j 0).fdiv ((j: Int) + 1)).fmod 3 else (ns.getD j 0).fdiv ((j: Int) + 1)
theorem waysL_length (ns: List Int): ∀ j,(waysL ns j).length = j
 | 0=> rfl
 | j + 1=> by unfold waysL;rw [List.length_append,waysL_length ns j];rfl
theorem waysL_at (ns: List Int) {i: Nat}: ∀ {j: Nat},i < j -> (waysL ns j).getD i [] = wayN ns i
 | 0,h=> absurd h (Nat.not_lt_zero _)
 | j + 1,h=> by
  by_cases e: i = j
  ·subst e;rfl
  ·have hi: i < j:= Nat.lt_of_le_of_ne (Nat.le_of_lt_succ h) e
   rw [<- waysL_at ns hi]
   conv=> lhs;unfold waysL
   rw [List.getD_eq_getElem?_getD,List.getD_eq_getElem?_getD,List.getElem?_append_left (by rw [waysL_length];exact hi),<- List.getD_eq_getElem?_getD]
theorem wayN_eq (ns: List Int) (j: Nat): wayN ns j = if upN ns j < 0 then [(j: Int)] else (waysL ns j).getD (upN ns j).toNat [] ++ [(j: Int)]:= by
 unfold wayN
 conv=> lhs;unfold waysL
 rw [List.getD_eq_getElem?_getD,List.getElem?_append_right (by rw [waysL_length];exact Nat.le_refl _),waysL_length,Nat.sub_self];rfl
theorem up_lt (ns: List Int) (j: Nat): upN ns j < j:= by
 unfold upN
 have:= Int.fmod_lt_of_pos (ns.getD j 0) (b:= (j: Int) + 1) (by exact Int.succ_ofNat_pos j)
 (exact Int.sub_lt_iff.mpr this)
theorem wood (ns: List Int): Wood (upN ns) (wayN ns):= by
 refine ⟨up_lt ns,fun j h=> ?_,fun j p h=> ?_⟩
 ·rw [wayN_eq,if_pos h]
 ·have:= up_lt ns j
  rw [wayN_eq,if_neg (by lia),h,Int.toNat_natCast,waysL_at ns (by lia)]
theorem roots_succ (up: Nat -> Int) (j: Nat): rootsN up (j + 1) = rootsN up j ++ if up j < 0 then [j] else []:= by
 unfold rootsN
 rw [List.range_succ,List.filter_append]
 congr 1
 by_cases h: up j < 0 <;> simp [h]
theorem kids_succ (up: Nat -> Int) (j p: Nat): kidsN up (j + 1) p = kidsN up j p ++ if up j = p then [j] else []:= by
 unfold kidsN
 rw [List.range_succ,List.filter_append]
 congr 1
 by_cases h: up j = p <;> simp [h]
noncomputable def vN (l: List Nat): List V:= l.map fun j: Nat=> V.int j
structure GrowJ (ns: List Int) (odd: Bool) (σ1: Hp) (rt Y W: Addr) (bs: List Addr) (j k: Nat) (ys: List Addr) (τ: Hp): Prop where
 hr: τ rt = some (.list (vN (rootsN (upN ns) j)))
 hb: ∀ (i: Nat) a,bs[i]? = some a -> τ a = some (.list (vN (kidsN (upN ns) j i)))
 hY: τ Y = some (.list (ys.map .ref))
 hy: ∀ (i: Nat) a,ys[i]? = some a -> τ a = some (.list ((wayN ns i).map .int))
 ly: ys.length = j
 ny: ∀ a ∈ ys,a ∉ rt :: Y :: W :: bs
 hW: τ W = some (.list ((List.range k).map fun i=> V.int (wtN ns odd i)))
 keep: ∀ a o,σ1 a = some o -> a ∉ rt :: Y :: W :: bs -> τ a = some o
theorem filter_len {m: Nat} (p: Nat -> Bool): ((List.range m).filter p).length <= m:= by
 have:= List.length_filter_le p (List.range m)
 rwa [List.length_range] at this
theorem notM {a rt Y W: Addr} {bs: List Addr}: a ∉ rt :: Y :: W :: bs ↔ a ≠ rt /\ a ≠ Y /\ a ≠ W /\ a ∉ bs:= by simp only [List.mem_cons,not_or]
structure Ap (rt Y W: Addr) (bs: List Addr): Prop where
 rY: rt ≠ Y
 rW: rt ≠ W
 YW: Y ≠ W
 Yb: Y ∉ bs
 Wb: W ∉ bs
 b: ∀ (i: Nat) a,bs[i]? = some a -> a ≠ rt /\ a ≠ Y /\ a ≠ W
 nd: bs.Nodup
theorem Ap.of {rt Y W: Addr} {bs: List Addr} (nd: (rt :: Y :: W :: bs).Nodup): Ap rt Y W bs:= by
 simp only [List.nodup_cons,List.mem_cons,not_or] at nd
 obtain ⟨⟨n1,n2,n3⟩,⟨n4,n5⟩,n6,nb⟩:= nd
 refine ⟨n1,n2,n4,n5,n6,fun i a e=> ?_,nb⟩
 have m:= List.mem_of_getElem? e
 exact ⟨fun q=> n3 (q ▸ m),fun q=> n5 (q ▸ m),fun q=> n6 (q ▸ m)⟩
theorem some_ne {σ: Hp} {a b: Addr} {o: AObj} (e: σ b = some o) (n: σ a = none): a ≠ b:= fun q=> by rw [q,e] at n;cases n
theorem link_fin {ns: List Int} {odd: Bool} {σ1: Hp} {rt Y W: Addr} {bs ys: List Addr} {j: Nat} {τ τ1 τ2: Hp} {a: Addr} (N: Ap rt Y W bs) (G: GrowJ ns odd σ1 rt Y W bs j j ys τ) (x: Ext τ1 τ2) (na: τ1 a = none) (ga: τ2 a = some (.list ((wayN ns j).map .int))) (hr: τ1 rt = some (.list (vN (rootsN (upN ns) (j + 1))))) (hb: ∀ (i: Nat) a,bs[i]? = some a -> τ1 a = some (.list (vN (kidsN (upN ns) (j + 1) i))))
  (same: ∀ c,c ≠ rt -> c ∉ bs -> τ1 c = τ c): GrowJ ns odd σ1 rt Y W bs (j + 1) j (ys ++ [a]) (upd τ2 Y (.list ((ys ++ [a]).map .ref))):= by
 have sY: τ1 Y = _:= (same Y N.rY.symm N.Yb).trans G.hY
 have sW: τ1 W = _:= (same W N.rW.symm N.Wb).trans G.hW
 have aY:= some_ne sY na
 have aM: a ∉ rt :: Y :: W :: bs:= notM.mpr ⟨some_ne hr na,aY,some_ne sW na,fun m=> by
  obtain ⟨i,hi,e⟩:= List.getElem_of_mem m
  exact some_ne (hb i a (by rw [List.getElem?_eq_getElem hi,e])) na rfl⟩
 refine ⟨(upd_ne _ _ N.rY).trans (x _ _ hr),fun i b e=> (upd_ne _ _ (N.b i b e).2.1).trans (x _ _ (hb i b e)),upd_same _ _ _,fun i b e=> ?_,by rw [List.length_append,G.ly];rfl,fun b m=> ?_,(upd_ne _ _ N.YW.symm).trans (x _ _ sW),fun b o e m=> ?_⟩
 ·rcases Nat.lt_or_ge i ys.length with hi | hi
  ·rw [List.getElem?_append_left hi] at e
   obtain ⟨m1,m2,m3,m4⟩:= notM.mp (G.ny b (List.mem_of_getElem? e))
   exact (upd_ne _ _ m2).trans (x _ _ ((same b m1 m4).trans (G.hy i b e)))
  ·rw [List.getElem?_append_right hi] at e
   have h0:= (List.getElem?_eq_some_iff.mp e).1
   have h0: i - ys.length < 1:= h0
   have hil: i = ys.length:= Nat.le_antisymm (Nat.sub_eq_zero_iff_le.mp (Nat.lt_one_iff.mp h0)) hi
   rw [hil,Nat.sub_self] at e
   rw [<- Option.some.inj e,upd_ne _ _ aY,ga,hil,G.ly]
 ·rcases List.mem_append.mp m with m | m
  ·exact G.ny b m
  ·rw [List.mem_singleton.mp m];exact aM
 ·obtain ⟨m1,m2,m3,m4⟩:= notM.mp m
  exact (upd_ne _ _ m2).trans (x _ _ ((same b m1 m4).trans (G.keep b o e m)))
theorem big70 {n: Nat} (h: n <= 70): n < BIG:= by unfold BIG;lia
theorem way_len (ns: List Int): ∀ k p,p < k -> (wayN ns p).length <= p + 1:= by
 intro k
 induction k with
 | zero=> intro p h;exact absurd h (Nat.not_lt_zero _)
 | succ k ih=>
  intro p h
  rcases (wood ns).cases p with ⟨_,e⟩ | ⟨r,hr,e1,e⟩
  ·rw [e];exact Nat.le_add_left 1 p
  ·rw [e,List.length_append]
   exact Nat.succ_le_succ (Nat.le_trans (ih r (Nat.lt_of_lt_of_le hr (Nat.le_of_lt_succ h))) hr)
noncomputable def ps_linkR: List PS:= [.expr (.meth .append (.var 2) [(.var 6)]),.expr (.meth .append (.var 4) [(.list [(.var 6)])])]
noncomputable def ps_linkK: List PS:= [.expr (.meth .append (.sub (.var 3) (.var 7)) [(.var 6)]),.expr (.meth .append (.var 4) [(.bin .Add (.sub (.var 4) (.var 7)) (.list [(.var 6)]))])]
theorem link_root (Φ: Fns) {ns: List Int} {odd: Bool} {σ1: Hp} {rt Y W: Addr} {bs ys: List Addr} {j: Nat} {τ: Hp} (N: Ap rt Y W bs) (hj: j < 70) (G: GrowJ ns odd σ1 rt Y W bs j j ys τ) (hu: upN ns j < 0) {x0 x1 x3 x5 x7 x8 x9 x10: Option V} {R: Fl -> Frm -> Hp -> Prop}
  (q: ∀ ys' τ',GrowJ ns odd σ1 rt Y W bs (j + 1) j ys' τ' -> R .next [x0,x1,some (.ref rt),x3,some (.ref Y),x5,some (.int j),x7,x8,x9,x10] τ') :
  vSs Φ ps_linkR R [x0,x1,some (.ref rt),x3,some (.ref Y),x5,some (.int j),x7,x8,x9,x10] τ:= by
 have er: rootsN (upN ns) (j + 1) = rootsN (upN ns) j ++ [j]:= by rw [roots_succ,if_pos hu]
 have ek: ∀ i,kidsN (upN ns) (j + 1) i = kidsN (upN ns) j i:= fun i=> by rw [kids_succ,if_neg (by lia),List.append_nil]
 unfold ps_linkR
 walk_at "go";((try simp only [s_expr,e_meth,es_cons,es_nil,e_var,look_succ,look_zero]))
 refine ⟨⟨rt,_,rfl,G.hr⟩,m_append G.hr (big70 (by unfold vN;rw [List.length_map];exact Nat.le_trans (filter_len _) (Nat.le_of_lt hj))) ?_⟩
 walk_at "n"
 walk_at "go";((try simp only [s_expr,e_meth,es_cons,es_nil,e_list,e_var,look_succ,look_zero]))
 have hY1: upd τ rt (.list (vN (rootsN (upN ns) j) ++ [.int j])) Y = some (.list (ys.map .ref)):= (upd_ne _ _ N.rY.symm).trans G.hY
 refine ⟨⟨Y,_,rfl,hY1⟩,?_⟩
 refine newL_of (big_of (n:= 1) (by decide)) fun a τ2 x na ga=> ?_
 refine m_append (x _ _ hY1) (big70 (by rw [List.length_map,G.ly];exact Nat.le_of_lt hj)) ?_
 ((with_reducible repeat first | refine q_nextI ?_ | refine ss_nilI ?_))
 have:= link_fin N G x na (by rw [ga,wayN_eq,if_pos hu];rfl) (by rw [upd_same,er];unfold vN;rw [List.map_append];rfl) (fun i b e=> by rw [upd_ne _ _ (N.b i b e).1,ek];exact G.hb i b e) (fun c h1 _=> upd_ne _ _ h1)
 rw [List.map_append] at this
 exact q _ _ this
theorem link_kid (Φ: Fns) {ns: List Int} {odd: Bool} {σ1: Hp} {rt B Y W: Addr} {bs ys: List Addr} {j p: Nat} {τ: Hp} (N: Ap rt Y W bs) (hj: j < bs.length) (h70: j < 70) (G: GrowJ ns odd σ1 rt Y W bs j j ys τ) (hB: τ B = some (.list (bs.map .ref))) (e0: upN ns j = p) {x0 x1 x2 x5 x8 x9 x10: Option V} {R: Fl -> Frm -> Hp -> Prop}
  (q: ∀ ys' τ',GrowJ ns odd σ1 rt Y W bs (j + 1) j ys' τ' -> R .next [x0,x1,x2,some (.ref B),some (.ref Y),x5,some (.int j),some (.int p),x8,x9,x10] τ') :
  vSs Φ ps_linkK R [x0,x1,x2,some (.ref B),some (.ref Y),x5,some (.int j),some (.int p),x8,x9,x10] τ:= by
 have hlt:= up_lt ns j
 have pj: p < j:= by lia
 have er: rootsN (upN ns) (j + 1) = rootsN (upN ns) j:= by rw [roots_succ,if_neg (by lia),List.append_nil]
 have ew: wayN ns j = wayN ns p ++ [(j: Int)]:= (wood ns).kid j p e0
 obtain ⟨b,eb⟩: ∃ b,bs[p]? = some b:= ⟨_,List.getElem?_eq_getElem (Nat.lt_trans pj hj)⟩
 obtain ⟨y,ey⟩: ∃ y,ys[p]? = some y:= ⟨_,List.getElem?_eq_getElem (by rw [G.ly];exact pj)⟩
 have hbp:= G.hb p b eb
 obtain ⟨m1,m2,m3⟩:= N.b p b eb
 have yb: y ≠ b:= fun e=> (notM.mp (G.ny y (List.mem_of_getElem? ey))).2.2.2 (by rw [e];exact List.mem_of_getElem? eb)
 have wl:= way_len ns (p + 1) p (Nat.lt_succ_self _)
 unfold ps_linkK
 walk_at "go";((try simp only [s_expr,e_meth,es_cons,es_nil,e_var,look_succ,look_zero,e_sub]))
 refine sub_list (x:= .ref b) (listAt_list hB) (by rw [nth_nat,List.getElem?_map,eb];rfl) ?_
 refine ⟨⟨b,_,rfl,hbp⟩,m_append hbp (big70 (by unfold vN;rw [List.length_map];exact Nat.le_trans (filter_len _) (Nat.le_of_lt h70))) ?_⟩
 walk_at "n"
 walk_at "go";((try simp only [s_expr,e_meth,es_cons,es_nil,e_bin,e_list,e_var,look_succ,look_zero,e_sub]))
 have hY1: upd τ b (.list (vN (kidsN (upN ns) j p) ++ [.int j])) Y = some (.list (ys.map .ref)):= (upd_ne _ _ m2.symm).trans G.hY
 refine ⟨⟨Y,_,rfl,hY1⟩,?_⟩
 refine sub_list (x:= .ref y) (listAt_list hY1) (by rw [nth_nat,List.getElem?_map,ey];rfl) ?_
 refine newL_of (big_of (n:= 1) (by decide)) fun a0 τ2 x2 na2 ga2=> ?_
 refine add_lists (x2.listAt (listAt_list ((upd_ne _ _ yb).trans (G.hy p y ey)))) (listAt_list ga2) ?_
 refine newL_of (by rw [List.length_append,List.length_map];exact big_of (by simp only [List.length_cons,List.length_nil];lia)) fun a τ3 x3 na3 ga3=> ?_
 refine m_append ((x2.trans x3) _ _ hY1) (big70 (by rw [List.length_map,G.ly];exact Nat.le_of_lt h70)) ?_
 ((with_reducible repeat first | refine q_nextI ?_ | refine ss_nilI ?_))
 have:= link_fin N G (x2.trans x3) (x2.fresh na3) (by rw [ga3,ew,List.map_append];rfl) (by rw [upd_ne _ _ m1.symm,er];exact G.hr) (fun i c e=> by
  rw [kids_succ]
  by_cases ic: i = p
  ·rw [ic] at e ⊢
   rw [<- Option.some.inj (eb.symm.trans e),upd_same,if_pos e0];unfold vN;rw [List.map_append];rfl
  ·rw [if_neg (by lia),List.append_nil,upd_ne _ _ (fun z=> ic ?_)]
   ·exact G.hb i c e
   ·exact (List.getElem?_inj (List.getElem?_eq_some_iff.mp e).1 N.nd).mp (e.trans (z ▸ eb.symm))) (fun c _ h2=> upd_ne _ _ (fun z=> h2 (by rw [z];exact List.mem_of_getElem? eb)))
 rw [List.map_append] at this
 exact q _ _ this
theorem step_link (Φ: Fns) {ns: List Int} {odd: Bool} {σ1: Hp} {l nu rt B Y W: Addr} {bs ys: List Addr} {j: Nat} {τ: Hp} (nd: (rt :: Y :: W :: bs).Nodup) (hj: j < bs.length) (h70: bs.length <= 70) (G: GrowJ ns odd σ1 rt Y W bs j j ys τ) (hB: σ1 B = some (.list (bs.map .ref))) (nB: B ∉ rt :: Y :: W :: bs) {x8 x9 x10: Option V} {R: Fl -> Frm -> Hp -> Prop}
  (q: ∀ ys' τ',GrowJ ns odd σ1 rt Y W bs (j + 1) j ys' τ' -> R .next [some (.ref l),some (.ref nu),some (.ref rt),some (.ref B),some (.ref Y),some (.ref W),some (.int j),some (.int (upN ns j)),x8,x9,x10] τ') :
  vS Φ (.ifs (.cmp .Lt (.var 7) (.int 0)) ps_linkR ps_linkK) R [some (.ref l),some (.ref nu),some (.ref rt),some (.ref B),some (.ref Y),some (.ref W),some (.int j),some (.int (upN ns j)),x8,x9,x10] τ:= by
 have N:= Ap.of nd
 have j70:= Nat.lt_of_lt_of_le hj h70
 ((try simp only [s_ifs,t_cmp,e_int,e_var,look_succ,look_zero,c_lt,t_bool]))
 by_cases hu: upN ns j < 0
 ·rw [decide_eq_true hu]
  simp only [if_true]
  exact link_root Φ N j70 G hu q
 ·rw [decide_eq_false hu]
  simp only [Bool.false_eq_true,if_false]
  have e0: upN ns j = ((upN ns j).toNat: Int):= (Int.toNat_of_nonneg (Int.not_lt.mp hu)).symm
  generalize (upN ns j).toNat = p at e0
  rw [e0] at q ⊢
  exact link_kid Φ N hj j70 G (G.keep _ _ hB nB) e0 q
structure WoodB (ns sc: List Int) (odd: Bool) (σ1: Hp) (l nu rt B Y W: Addr) (bs: List Addr): Prop where
 nd: (rt :: Y :: W :: bs).Nodup
 len: bs.length = ns.length
 h70: ns.length <= 70
 hB: σ1 B = some (.list (bs.map .ref))
 nB: B ∉ rt :: Y :: W :: bs
 hn: listAt σ1 nu = some (ns.map .int)
 nn: nu ∉ rt :: Y :: W :: bs
 hl: listAt σ1 l = some (sc.map .int)
 nl: l ∉ rt :: Y :: W :: bs
 ho: odd = ((sc.length: Int).fmod 2 == 1)
theorem keep_list {σ1 τ: Hp} {M: List Addr} {a: Addr} {xs: List V} (k: ∀ a o,σ1 a = some o -> a ∉ M -> τ a = some o) (e: listAt σ1 a = some xs) (n: a ∉ M): listAt τ a = some xs:= by
 unfold listAt at e ⊢
 split at e
 ·rename_i q;rw [k _ _ q n];exact e
 ·rename_i q;rw [k _ _ q n];exact e
 ·cases e
theorem step_wood (Φ: Fns) {ns sc: List Int} {odd: Bool} {σ1: Hp} {l nu rt B Y W: Addr} {bs ys: List Addr} {j: Nat} {τ: Hp} (C: WoodB ns sc odd σ1 l nu rt B Y W bs) (hj: j < ns.length) (G: GrowJ ns odd σ1 rt Y W bs j j ys τ) {x7 x8 x9 x10: Option V} {R: Fl -> Frm -> Hp -> Prop}
  (q: ∀ y7 y8 ys' τ',GrowJ ns odd σ1 rt Y W bs (j + 1) (j + 1) ys' τ' -> R .next [some (.ref l),some (.ref nu),some (.ref rt),some (.ref B),some (.ref Y),some (.ref W),some (.int j),y7,y8,x9,x10] τ') :
  vSs Φ ps_wood R [some (.ref l),some (.ref nu),some (.ref rt),some (.ref B),some (.ref Y),some (.ref W),some (.int j),x7,x8,x9,x10] τ:= by
 have j1: (j: Int) + 1 ≠ 0:= by exact Ne.symm ((fun {x y}=> bi_ine.mp) rfl)
 unfold ps_wood
 walk_at "go";((try simp only [s_assign,bt_name,List.set_cons_succ,List.set_cons_zero,e_bin,e_int,e_var,look_succ,look_zero,b_add,e_sub]))
 refine sub_list (keep_list G.keep C.hn C.nn) (nth_getD hj) ?_
 ((try simp only [b_mod,b_sub]);(repeat (first | rw [q_next])))
 refine ⟨j1,?_⟩
 walk_at "r"
 refine go_cons ?_
 refine step_link Φ C.nd (by rw [C.len];exact hj) (by rw [C.len];exact C.h70) G C.hB C.nB fun ys' τ1 G1=> ?_
 walk_at "n"
 walk_at "go";((try simp only [s_assign,bt_name,List.set_cons_succ,List.set_cons_zero,e_bin,e_int,e_var,look_succ,look_zero,b_add,e_sub]))
 refine sub_list (keep_list G1.keep C.hn C.nn) (nth_getD hj) ?_
 ((try simp only [b_div]);(repeat (first | rw [q_next])))
 refine ⟨j1,?_⟩
 walk_at "r"
 walk_at "go";((try simp only [s_ifs,ss_nil,t_cmp,e_int,e_bin,e_call,es_cons,es_nil,e_var,look_zero]))
 refine call_len (keep_list G1.keep C.hl C.nl) ?_
 rw [List.length_map]
 ((try simp only [b_mod,c_eq,t_bool]);(repeat (first | rw [q_next])))
 refine ⟨by decide,?_⟩
 rw [<- C.ho]
 have nd':= C.nd
 simp only [List.nodup_cons,List.mem_cons,not_or] at nd'
 obtain ⟨⟨n1,n2,n3⟩,⟨n4,n5⟩,n6,nb⟩:= nd'
 have fin: ∀ y8: Option V,vSs Φ [.expr (.meth .append (.var 5) [(.var 8)])] R [some (.ref l),some (.ref nu),some (.ref rt),some (.ref B),some (.ref Y),some (.ref W),some (.int j),some (.int (upN ns j)),some (.int (wtN ns odd j)),x9,x10] τ1:= by
  intro _
  walk_at "go";((try simp only [s_expr,e_meth,es_cons,es_nil,e_var,look_succ,look_zero]))
  refine ⟨⟨W,_,rfl,G1.hW⟩,m_append G1.hW (by rw [List.length_map,List.length_range];have:= C.h70;unfold BIG;lia) ?_⟩
  ((with_reducible repeat first | refine q_nextI ?_ | refine ss_nilI ?_))
  refine q _ _ ys' _ ⟨(upd_ne _ _ n2).trans G1.hr,fun i b e=> (upd_ne _ _ (fun z: b = W=> n6 (z ▸ List.mem_of_getElem? e))).trans (G1.hb i b e),(upd_ne _ _ n4).trans G1.hY,fun i b e=> (upd_ne _ _ (fun z=> G1.ny b (List.mem_of_getElem? e) (by rw [z];exact .tail _ (.tail _ (.head _))))).trans (G1.hy i b e),G1.ly,G1.ny,?_,fun b o e m=> (upd_ne _ _ (fun z=> m (by rw [z];exact .tail _ (.tail _ (.head _))))).trans (G1.keep b o e m)⟩
  rw [upd_same,List.range_succ,List.map_append];rfl
 cases ho: odd with
 | false=>
  subst ho
  simp only [Bool.false_eq_true,if_false]
  walk_at "r"
  exact fin none
 | true=>
  subst ho
  simp only [if_true]
  walk_at "go";((try simp only [s_assign,bt_name,List.set_cons_succ,List.set_cons_zero,e_bin,e_int,e_var,look_succ,look_zero,b_mod]);(repeat (first | rw [q_next] | rw [ss_nil])))
  refine ⟨by decide,?_⟩
  walk_at "r"
  exact fin none
noncomputable def WoodL (ns: List Int) (odd: Bool) (σ1: Hp) (l nu rt B Y W: Addr) (bs: List Addr) (i: Nat) (F: Frm) (τ: Hp): Prop:= ∃ ys e6 e7 e8,F = [some (.ref l),some (.ref nu),some (.ref rt),some (.ref B),some (.ref Y),some (.ref W),e6,e7,e8,none,none] /\ GrowJ ns odd σ1 rt Y W bs i i ys τ
theorem wood_v (Φ: Fns) {ns sc: List Int} {odd: Bool} {σ1: Hp} {l nu rt B Y W: Addr} {bs: List Addr} (C: WoodB ns sc odd σ1 l nu rt B Y W bs) (h0: GrowJ ns odd σ1 rt Y W bs 0 0 [] σ1) {ss: List PS} {R: Fl -> Frm -> Hp -> Prop}
  (q: ∀ ys e6 e7 e8 τ,GrowJ ns odd σ1 rt Y W bs ns.length ns.length ys τ -> vSs Φ ss R [some (.ref l),some (.ref nu),some (.ref rt),some (.ref B),some (.ref Y),some (.ref W),e6,e7,e8,none,none] τ) :
  vSs Φ (.for (.name 6) .plain (.call .range [(.call .len [(.var 1)])]) ps_wood :: ss) R [some (.ref l),some (.ref nu),some (.ref rt),some (.ref B),some (.ref Y),some (.ref W),none,none,none,none,none] σ1:= by
 walk_at "go";((try simp only [s_for,e_call,es_cons,es_nil,e_var,look_succ,look_zero]))
 refine call_len C.hn ?_
 rw [List.length_map]
 ((try simp only [c_range1,i_rng]))
 have h70:= C.h70
 refine ⟨rok_of (Int.natCast_nonneg _) (by lia) (by decide) (by decide),?_⟩
 have rl: rlen 0 (ns.length: Int) 1 = ns.length:= by unfold rlen;simp
 rw [rl]
 refine for_rule (xs:= (List.range ns.length).map fun (i: Nat)=> V.int (0 + (i: Int) * 1)) (WoodL ns odd σ1 l nu rt B Y W bs) (yields_rng _ _ _ _) ⟨[],_,_,_,rfl,h0⟩ ?_ ?_
 ·rintro i x F τ hx ⟨ys,e6,e7,e8,rfl,G⟩ K k1 k2 k3 k4
  rw [List.getElem?_map,Option.map_eq_some_iff] at hx
  obtain ⟨i',hi',rfl⟩:= hx
  obtain ⟨hi,rfl⟩:= List.getElem?_eq_some_iff.mp hi'
  rw [List.getElem_range] at *
  rw [List.length_range] at hi
  have ei: 0 + (i: Int) * 1 = (i: Nat):= by lia
  rw [ei,bt_name]
  exact step_wood Φ C hi G fun y7 y8 ys' τ' G'=> k1 _ _ ⟨ys',_,y7,y8,rfl,G'⟩
 ·rintro F τ ⟨ys,e6,e7,e8,rfl,G⟩
  rw [List.length_map,List.length_range] at G
  walk_at "n"
  exact q ys e6 e7 e8 τ G
section
open PySem PySem.W PyProof.Rows PySem.SeqAt
structure Tr where
 k: Int
 w: List Int
 ad: Addr
 o: Int
noncomputable def Tr.v (t: Tr): V:= .tup [.int t.k,.ref t.ad,.int t.o]
noncomputable def Tr.key (t: Tr): List Int:= t.k :: t.w
theorem eqvAll_ints: ∀ xs ys: List Int,PyData.eqvAll (xs.map .int) (ys.map .int) = decide (xs = ys)
 | [],[]=> by simp [PyData.eqvAll]
 | [],_ :: _=> by simp [PyData.eqvAll]
 | _ :: _,[]=> by simp [PyData.eqvAll]
 | x :: xs,y :: ys=> by
  simp only [List.map_cons,PyData.eqvAll,PyData.eqv,eqvAll_ints xs ys,List.cons.injEq]
  by_cases h: x = y <;> simp [h]
theorem ls_reads {h₀ h h': Heap} {σ: Hp} {a: Addr} {w: List Int} (hw: W h₀ σ h) (e: listAt σ a = some (w.map .int)) (k: ∀ b o,h.get? b = some o -> h'.get? b = some o): ∃ as,Reads h' (.ref a) (.list (w.map .int)) as:= by
 obtain ⟨vs,⟨o,ho,hc,n,hd⟩,r⟩:= hw.list e
 have rdI: ∀ (l: List Int) (ws: List Value),Reps h ws (l.map .int) -> ReadsAll h' ws (l.map .int) []:= by
  intro l
  induction l with
  | nil=> intro ws r;obtain rfl:= r.inil;exact .nil
  | cons x l ih=>
   intro ws r
   obtain ⟨v,us,rfl,r5,r6⟩:= r.icons
   obtain ⟨t,rfl⟩:= r5.iint
   exact .cons (as:= []) (.int x t) (ih us r6)
 exact ⟨_,.list (k _ _ ho) hc hd (rdI _ _ r)⟩
section
variable {A: Around} {s: Shared} {v u: Value} {w w': List Int} {as bs: List Addr}
theorem ls_lay (w: List Int): (PyData.list (w.map .int)).canLay0 = true:= by
 have:= (Dat.list (σ:= fun _=> some (.list (w.map V.int))) (a:= 0) (listAt_list rfl) (dats_intsV _ w)).lay
 exact this
theorem ls_lt (hu: A.units <= 9500) (ra: Reads s.heap v (.list (w.map .int)) as) (rb: Reads s.heap u (.list (w'.map .int)) bs): LtAt A s v u (ltI w w'):=
 ltAt_reads 59 A s (by show A.units + 59 + 64 < 9900;lia) _ _ _ _ _ _ _ ra rb (ls_lay _) (ls_lay _) (by have:= depthAll_ints w;simp only [PyData.depth];lia) (lexD_ints 57 w w')
theorem ls_eq (hu: A.units <= 9500) (ra: Reads s.heap v (.list (w.map .int)) as) (rb: Reads s.heap u (.list (w'.map .int)) bs): EqAt A s v u (decide (w = w')):= by
 have e: PyData.eqv (.list (w.map .int)) (.list (w'.map .int)) = decide (w = w'):= eqvAll_ints w w'
 rw [<- e]
 exact eqAt_reads _ _ A s _ _ _ _ ra rb (ls_lay _) (ls_lay _) (by have:= depthAll_ints w;have:= Nat.min_le_left (PyData.list (w.map .int)).depth (PyData.list (w'.map .int)).depth;simp only [PyData.depth] at *;show A.units + _ < 9900;lia)
end
theorem kat_ints {prog: Program} {w: World} {A: Around} {s: Shared} {x y: Int} {t u: Tok} {b fin: Bool} {i: Nat} {r: List (Value × Value)} {Q: Bool -> Shared -> Prop} (h: if x = y then KatLex prog w A b fin Q r (i + 1) s else Q (decide (x < y)) s): KatLex prog w A b fin Q ((.int x t,.int y u) :: r) i s:= by
 refine kat_cons (wpAny_eqBool_int ?_)
 by_cases e: x = y
 ·rw [if_pos e] at h
  rw [show (x == y) = true by simp [e]]
  exact kat_yes h
 ·rw [if_neg e] at h
  rw [show (x == y) = false by simp [e]]
  refine kat_no ?_
  cases hb: (b && i == 0) with
  | true=> exact oneLt_int h
  | false=> exact kat_one _ _ (lt_int h)
theorem katTups_tr {h h': Heap} (k: ∀ b o,h.get? b = some o -> Imm o -> h'.get? b = some o): ∀ {vs: List Value} (es: List Tr),Reps h vs (es.map Tr.v) -> ∃ fs,KatTups h' vs fs /\ fs.length = vs.length /\ ∀ f ∈ fs,∃ n t,f = .int n t
 | vs,[],r=> by obtain rfl:= r.inil;exact ⟨[],.nil,rfl,fun f m=> by cases m⟩
 | vs,e :: es,r=> by
  obtain ⟨v,us,rfl,r1,rs⟩:= r.icons
  obtain ⟨fs,t1,t2,t3⟩:= katTups_tr k es rs
  obtain ⟨av,us',rfl,⟨o,eo,c,n,dd⟩,rr⟩:= Rep.itup r1
  obtain ⟨u1,us,rfl,r2,rr⟩:= rr.icons
  obtain ⟨t,rfl⟩:= r2.iint
  exact ⟨.int e.k t :: fs,.cons (k _ _ eo (.inl ⟨c,_,_,dd⟩)) c dd (by simp) t1,by simp [t2],fun f m=> by
   rcases List.mem_cons.mp m with rfl | m
   ·exact ⟨_,_,rfl⟩
   ·exact t3 f m⟩
theorem sorts_tr {h₀ h: Heap} {σ: Hp} {vs: List Value} {ts: List Tr} {d: Tr} (hw: W h₀ σ h) (hx: ∀ t ∈ ts,listAt σ t.ad = some (t.w.map .int)) (ho: ∀ a ∈ ts,∀ b ∈ ts,a.w = b.w -> a.o = b.o) (h2: 2 <= ts.length) (r: Reps h vs (ts.map Tr.v)): Sorts (fun _=> True) h vs (fun i j=> ltI (ts.getD i d).key (ts.getD j d).key):= by
 have hlen:= r.length
 rw [List.length_map] at hlen
 have at': ∀ k,k < vs.length -> ∃ a o us n tk tk2,vs.getD k Value.none = .ref a /\ h.get? a = some o /\ o.cls = .type "tuple" /\ o.data = .seq us n /\ us.toList = [.int (ts.getD k d).k tk,.ref (ts.getD k d).ad,.int (ts.getD k d).o tk2] /\ ts.getD k d ∈ ts:= fun k hk=> by
  have hk': k < ts.length:= by exact Nat.lt_of_lt_of_eq hk hlen
  have eg: ts.getD k d = ts[k]:= by rw [List.getD_eq_getElem?_getD,List.getElem?_eq_getElem hk'];rfl
  obtain ⟨v,e1,rv⟩:= r.get (i:= k) (x:= (ts[k]).v) (by rw [List.getElem?_map,List.getElem?_eq_getElem hk'];rfl)
  obtain ⟨av,us,rfl,⟨o,eo,c,n,dd⟩,rr⟩:= Rep.itup rv
  obtain ⟨u1,us,rfl,r1,rr⟩:= rr.icons
  obtain ⟨u2,us,rfl,r2,rr⟩:= rr.icons
  obtain ⟨u3,rfl,r3⟩:= one_rep rr
  obtain ⟨t,rfl⟩:= r1.iint
  obtain rfl:= r2.iref
  obtain ⟨t2,rfl⟩:= r3.iint
  exact ⟨_,o,_,n,t,t2,by rw [List.getD_eq_getElem?_getD,e1];rfl,eo,c,dd,by rw [eg],by rw [eg];exact List.getElem_mem hk'⟩
 refine ⟨tuples' (Value.type "int" != Value.type "tuple"),fun prog w A s hu k=> ⟨fun Q q=> ?_,fun i j C hi hj hc=> ?_⟩⟩
 ·obtain ⟨fs,t1,t2,t3⟩:= katTups_tr (fun b o e i=> k b o e (.inl i)) ts r
  refine kat_kind (T:= .type "int") t1 (by lia) (fun f m=> ?_) (by decide) q
  obtain ⟨n,t,rfl⟩:= t3 f m
  exact .now
 ·obtain ⟨a1,o1,u1,n1,t1,t1',e1,g1,c1,d1,l1,m1⟩:= at' i hi
  obtain ⟨a2,o2,u2,n2,t2,t2',e2,g2,c2,d2,l2,m2⟩:= at' j hj
  have hc: C (ltI (ts.getD i d).key (ts.getD j d).key) s:= hc
  generalize ts.getD i d = x1 at *
  generalize ts.getD j d = x2 at *
  obtain ⟨as,rd1⟩:= ls_reads hw (hx _ m1) (fun b o e=> k b o e (.inr trivial))
  obtain ⟨bs,rd2⟩:= ls_reads hw (hx _ m2) (fun b o e=> k b o e (.inr trivial))
  have hoo:= ho _ m1 _ m2
  unfold Tr.key at hc
  simp only [ltI] at hc
  unfold kas_ask
  rw [e1,e2,show (Value.type "int" != Value.type "tuple") = true by decide]
  refine kat_lt (k _ _ g1 (.inr trivial)) d1 (k _ _ g2 (.inr trivial)) d2 ?_
  have hs: u1.size = 3 /\ u2.size = 3:= by rw [<- Array.length_toList,<- Array.length_toList,l1,l2];exact ⟨rfl,rfl⟩
  rw [l1,l2,hs.1,hs.2]
  refine kat_ints ?_
  by_cases c: x1.k = x2.k
  ·rw [if_pos c] at hc ⊢
   refine kat_cons (ls_eq (by lia) rd1 rd2 prog w _ _ ?_)
   by_cases c3: x1.w = x2.w
   ·rw [decide_eq_true c3]
    rw [c3,ltI_sw.irr] at hc
    refine kat_yes (kat_ints ?_)
    rw [if_pos (hoo c3)]
    exact kat_nil hc
   ·rw [decide_eq_false c3]
    exact kat_no (kat_one _ _ (ls_lt (by lia) rd1 rd2 prog w _ _ hc))
  ·rw [if_neg c] at hc ⊢
   exact hc
end
noncomputable def trOf (ns: List Int) (ys: List Addr) (i: Nat): Tr:= ⟨((wayN ns i).length: Int),wayN ns i,ys.getD i 0,(i: Int)⟩
noncomputable def trL (ns: List Int) (ys: List Addr): List Tr:= (List.range ys.length).map (trOf ns ys)
theorem trL_at {ns: List Int} {ys: List Addr} {i: Nat} (h: i < ys.length) {d: Tr}: (trL ns ys).getD i d = trOf ns ys i:= by
 unfold trL;simp [List.getD_eq_getElem?_getD,h]
theorem order_v (Φ: Fns) {ns: List Int} {ys: List Addr} {Y: Addr} {τ: Hp} (hY: listAt τ Y = some (ys.map .ref)) (hy: ∀ (i: Nat) a,ys[i]? = some a -> listAt τ a = some ((wayN ns i).map .int)) (h2: 2 <= ys.length) (h70: ys.length <= 70) {x0 x1 x2 x3 x5 x6 x7 x8 x9 x10: Option V} {ss: List PS} {R: Fl -> Frm -> Hp -> Prop}
  (q: ∀ (xs: List Nat) od τ',Ext τ τ' -> xs.Perm (List.range ys.length) -> xs.Pairwise (fun a b=> ltI (wKey (wayN ns) b) (wKey (wayN ns) a) = false) -> τ' od = some (.list (vN xs)) -> vSs Φ ss R [x0,x1,x2,x3,some (.ref Y),x5,x6,x7,x8,some (.ref od),x10] τ') :
  vSs Φ (.assign (.name 9) (.comp [none,none,none,none] (.var 3) (.tup [1,2,3]) .plain (.call .sorted [(.comp [none,none,some 4] (.tuple [(.call .len [(.sub (.var 2) (.var 1))]),(.sub (.var 2) (.var 1)),(.var 1)]) (.name 1) .plain (.call .range [(.call .len [(.var 4)])]) [])]) []) :: ss) R [x0,x1,x2,x3,some (.ref Y),x5,x6,x7,x8,x9,x10] τ:= by
 have l1000: ys.length <= 1000:= by lia
 walk_at "go";((try simp only [s_assign,bt_name,List.set_cons_succ,List.set_cons_zero,e_comp,frOf,List.map,e_call,es_cons,es_nil,e_var,look_succ,look_zero]))
 refine call_len hY ?_
 rw [List.length_map]
 ((try simp only [c_range1,i_rng]))
 refine ⟨rok_of (Int.natCast_nonneg _) (by exact Nat.ToInt.of_le rfl rfl l1000) (by decide) (by decide),?_⟩
 have rl: rlen 0 (ys.length: Int) 1 = ys.length:= by unfold rlen;simp
 rw [rl]
 refine comp_rule (xs:= (List.range ys.length).map fun (i: Nat)=> V.int (0 + (i: Int) * 1)) (fun v=> match v with | .int i=> some (trOf ns ys i.toNat).v | _=> none) (by rw [List.length_map,List.length_range];exact big_of l1000) (yields_rng _ _ _ _) ?_ ?_
 ·intro y my τ1 hE K N hK hN
  obtain ⟨i,mi,rfl⟩:= List.mem_map.mp my
  have hi: i < ys.length:= by simpa using mi
  have ei: 0 + (i: Int) * 1 = (i: Nat):= by lia
  rw [ei] at hK hN ⊢
  have ea: ys[i]? = some (ys.getD i 0):= by rw [List.getD_eq_getElem?_getD,List.getElem?_eq_getElem hi];rfl
  have nr: nth (ys.map V.ref) (i: Int) = some (.ref (ys.getD i 0)):= by rw [nth_nat,List.getElem?_map,ea];rfl
  ((try simp only [e_tuple,es_cons,es_nil,e_var,e_sub,e_call,ts_nil,bt_name,List.set_cons_succ,List.set_cons_zero,look_succ,look_zero]))
  simp only [if_true]
  refine sub_list (hE.listAt hY) nr ?_
  refine call_len (hE.listAt (hy i _ ea)) ?_
  rw [List.length_map]
  refine sub_list (hE.listAt hY) nr ?_
  walk_at "r"
  exact ⟨big_of (n:= 3) (by decide),hK _ _ rfl .rfl⟩
 ·intro τ1 hE1 a ha
  have e1: ((List.range ys.length).map fun (i: Nat)=> V.int (0 + (i: Int) * 1)).filterMap (fun v=> match v with | .int i=> some (trOf ns ys i.toNat).v | _=> none) = (trL ns ys).map Tr.v:= by
   unfold trL
   rw [List.filterMap_map,List.map_map]
   exact fm_some _ fun i _=> by
    have ei: 0 + (i: Int) * 1 = (i: Nat):= by lia
    simp only [Function.comp_apply,ei,Int.toNat_natCast]
  rw [e1]
  have dl: (trL ns ys).length = ys.length:= by unfold trL;simp
  have xa: Ext τ (upd τ1 a (.list ((trL ns ys).map Tr.v))):= hE1.trans (Ext.upd _ ha)
  generalize hd: (⟨0,[],0,0⟩: Tr) = d
  have mt: ∀ t ∈ trL ns ys,∃ i,i < ys.length /\ t = trOf ns ys i:= fun t m=> by
   unfold trL at m
   obtain ⟨i,mi,rfl⟩:= List.mem_map.mp m
   exact ⟨i,List.mem_range.mp mi,rfl⟩
  refine call_sorted (lt:= fun i j=> ltI ((trL ns ys).getD i d).key ((trL ns ys).getD j d).key) (ltI_sw.weak fun i=> ((trL ns ys).getD i d).key) (listAt_list (upd_same _ _ _)) (by rw [List.length_map,dl];exact h2) (by rw [List.length_map,dl];lia) (fun h₀ h vs hw r=> sorts_tr hw (fun t m=> ?_) (fun s ms t mt' e=> ?_) (by rw [dl];exact h2) r) fun p hp hu=> ?_
  ·obtain ⟨i,hi,rfl⟩:= mt t m
   exact xa.listAt (hy i _ (by show ys[i]? = some (ys.getD i 0);rw [List.getD_eq_getElem?_getD,List.getElem?_eq_getElem hi];rfl))
  ·obtain ⟨i,hi,rfl⟩:= mt s ms
   obtain ⟨j,hj,rfl⟩:= mt t mt'
   have: i = j:= (wood ns).inj e
   rw [this]
  rw [List.length_map,dl] at hp hu
  have hm: ∀ i ∈ p.toList,i < ys.length:= fun i m=> by have:= hp.perm.mem_iff.mp m;simpa using this
  have pl: p.toList.length = ys.length:= by have:= hp.size;simpa using this
  have e2: (p.toList.map fun i=> ((trL ns ys).map Tr.v).getD i .none) = p.toList.map fun i=> (trOf ns ys i).v:= List.map_congr_left fun i m=> by
   have h':= hm i m
   rw [List.getD_eq_getElem?_getD,List.getElem?_map,<- trL_at (ns:= ns) (d:= d) h',List.getD_eq_getElem?_getD,List.getElem?_eq_getElem (by rw [dl];exact h')];rfl
  rw [e2]
  refine newL_of (by rw [List.length_map,pl];exact big_of l1000) fun b τ2 x2' n2 g2=> ?_
  ((try simp only [i_ref]))
  refine ⟨⟨_,listAt_list g2⟩,?_⟩
  refine comp_rule (xs:= p.toList.map fun i=> (trOf ns ys i).v) (fun v=> match v with | .tup [_,_,a]=> some a | _=> none) (by rw [List.length_map,pl];exact big_of l1000) (yields_lst (fun σ' h=> h.listAt (listAt_list g2)) _ 0 rfl) ?_ ?_
  ·intro x mx τ4 hE4 K N hK hN
   obtain ⟨i,mi,rfl⟩:= List.mem_map.mp mx
   unfold Tr.v at hK ⊢
   ((try simp only [e_var,ts_nil,bt_tup,sa_cons,List.set_cons_succ,List.set_cons_zero,sa_nil,look_succ,look_zero]))
   refine ⟨rfl,?_⟩
   walk_at "r"
   exact hK _ _ rfl .rfl
  ·intro τ4 hE4 c hc
   have e3: (p.toList.map fun i=> (trOf ns ys i).v).filterMap (fun v=> match v with | .tup [_,_,a]=> some a | _=> none) = vN p.toList:= by
    unfold vN
    rw [List.filterMap_map]
    exact fm_some _ fun i _=> rfl
   rw [e3]
   walk_at "n"
   refine q p.toList c _ (xa.trans (x2'.trans (hE4.trans (Ext.upd _ hc)))) hp.perm ?_ (upd_same _ _ _)
   refine (up_pairs hp.size hu).imp_of_mem fun {a b} ma mb h=> ?_
   have h1:= h.1
   simp only [trL_at (hm a ma),trL_at (hm b mb)] at h1
   exact h1
set_option tactic.hygienic true
section
open Classical in
noncomputable def flatPart (σ: Hp): Hp:= fun a=> match σ a with | some o=> if o.flat then some o else none | none=> none
theorem flat_some {σ: Hp} {a: Addr} {o: AObj} (e: flatPart σ a = some o): σ a = some o /\ o.flat:= by
 unfold flatPart at e
 split at e
 ·rename_i o' q
  split at e
  ·rename_i f;cases e;exact ⟨q,f⟩
  ·cases e
 ·cases e
theorem flat_at {σ: Hp} {a: Addr} {o: AObj} (e: σ a = some o) (f: o.flat): flatPart σ a = some o:= by
 unfold flatPart;rw [e];exact if_pos f
noncomputable def less (C: List V -> (V -> Hp -> Prop) -> Hp -> Prop) (args: List V) (Q: V -> Hp -> Prop) (σ: Hp): Prop:= ∃ σ',(∀ a o,σ' a = some o -> σ a = some o) /\ C args Q σ'
theorem vN_eq (l: List Nat): vN l = (l.map fun j: Nat=> (j: Int)).map V.int:= by unfold vN;rw [List.map_map];rfl
theorem ints_flat' (xs: List Int): ∀ x ∈ xs.map V.int,x.flat:= fun x m=> by obtain ⟨i,_,rfl⟩:= List.mem_map.mp m;trivial
theorem vN_flat (l: List Nat): ∀ x ∈ vN l,x.flat:= by rw [vN_eq];exact ints_flat' _
theorem refs_flat (l: List Addr): ∀ x ∈ l.map V.ref,x.flat:= fun x m=> by obtain ⟨i,_,rfl⟩:= List.mem_map.mp m;trivial
inductive Rows (σ: Hp) (b: Addr) (x y z: List Int): Prop
 | mk (a1 a2 a3: Addr) (h: listAt σ b = some [.ref a1,.ref a2,.ref a3]) (h1: listAt σ a1 = some (x.map .int)) (h2: listAt σ a2 = some (y.map .int)) (h3: listAt σ a3 = some (z.map .int)): Rows σ b x y z
theorem Rows.dat {σ: Hp} {b: Addr} {x y z: List Int} (h: Rows σ b x y z): Dat σ (.ref b) (.list [.list (x.map .int),.list (y.map .int),.list (z.map .int)]):= by
 obtain ⟨a1,a2,a3,h,h1,h2,h3⟩:= h
 exact .list h (.cons (.list h1 (dats_intsV σ x)) (.cons (.list h2 (dats_intsV σ y)) (.cons (.list h3 (dats_intsV σ z)) .nil)))
theorem rows_depth (x y z: List Int): (PyData.list [.list (x.map .int),.list (y.map .int),.list (z.map .int)]).depth <= 60:= by
 have:= depthAll_ints x
 have:= depthAll_ints y
 have:= depthAll_ints z
 simp only [PyData.depth,PyData.depthAll];lia
theorem rows_eq {σ: Hp} {a b: Addr} {x y z: List Int} (ha: Rows σ a x y z) (hb: Rows σ b x y z) {Q: V -> Hp -> Prop} (q: Q (.bool true) σ): opCmp .Eq (.ref a) (.ref b) Q σ:= by
 refine eq_dat ha.dat hb.dat (rows_depth x y z) ?_
 rw [PySem.SeqAt.eqv_refl _ (Dat.lay ha.dat)];exact q
theorem rows_ne {σ: Hp} {a b: Addr} {x y z: List Int} (ha: Rows σ a x y z) (hb: Rows σ b x y z) {Q: V -> Hp -> Prop} (q: Q (.bool false) σ): opCmp .NotEq (.ref a) (.ref b) Q σ:= by
 refine ne_dat ha.dat hb.dat (rows_depth x y z) ?_
 rw [PySem.SeqAt.eqv_refl _ (Dat.lay ha.dat)];exact q
structure Ready (ns sc: List Int) (odd: Bool) (l nu rt B W od P: Addr) (bs: List Addr) (xs: List Nat) (pos: Pos) (nm: Str) (τ: Hp): Prop where
 hl: τ l = some (.flist (sc.map .int))
 hn: τ nu = some (.list (ns.map .int))
 hr: τ rt = some (.list (vN (rootsN (upN ns) ns.length)))
 hB: τ B = some (.list (bs.map .ref))
 hb: ∀ (i: Nat) a,bs[i]? = some a -> τ a = some (.list (vN (kidsN (upN ns) ns.length i)))
 hW: τ W = some (.list ((List.range ns.length).map fun i=> V.int (wtN ns odd i)))
 ho: τ od = some (.list (vN xs))
 hP: ∃ ps,τ P = some (.tab ps nm) /\ (ps = #[] \/ ∃ cv,codeAmong pos ps.toList = some cv)
theorem Ready.by {ns sc: List Int} {odd: Bool} {l nu rt B W od P: Addr} {bs: List Addr} {xs: List Nat} {pos: Pos} {nm: Str} {τ τ': Hp} (h: Ready ns sc odd l nu rt B W od P bs xs pos nm τ) (k: ∀ a o,τ a = some o -> o.flat -> a ≠ P -> τ' a = some o) (hP: ∃ ps,τ' P = some (.tab ps nm) /\ (ps = #[] \/ ∃ cv,codeAmong pos ps.toList = some cv)): Ready ns sc odd l nu rt B W od P bs xs pos nm τ':= by
 obtain ⟨ps,eP,_⟩:= h.hP
 have nP: ∀ {a: Addr} {o: AObj},τ a = some o -> (∀ ps q,o ≠ .tab ps q) -> a ≠ P:= fun e n=> by rintro rfl;rw [e] at eP;cases eP;exact n _ _ rfl
 have nl: ∀ {a: Addr} {vs: List V},τ a = some (.list vs) -> (∀ x ∈ vs,x.flat) -> τ' a = some (.list vs):= fun e f=> k _ _ e f (nP e fun _ _ q=> by cases q)
 exact ⟨k _ _ h.hl (ints_flat' _) (nP h.hl fun _ _ q=> by cases q),nl h.hn (ints_flat' _),nl h.hr (vN_flat _),nl h.hB (refs_flat _),fun i a e=> nl (h.hb i a e) (vN_flat _),nl h.hW (fun x m=> by obtain ⟨i,_,rfl⟩:= List.mem_map.mp m;trivial),nl h.ho (vN_flat _),hP⟩
theorem Ready.ext {ns sc: List Int} {odd: Bool} {l nu rt B W od P: Addr} {bs: List Addr} {xs: List Nat} {pos: Pos} {nm: Str} {τ τ': Hp} (h: Ready ns sc odd l nu rt B W od P bs xs pos nm τ) (x: Ext τ τ'): Ready ns sc odd l nu rt B W od P bs xs pos nm τ':= by
 refine h.by (fun a o e _ _=> x a o e) ?_
 obtain ⟨ps,eP,q⟩:= h.hP
 exact ⟨ps,x _ _ eP,q⟩
noncomputable def rootsI (ns: List Int): List Int:= (rootsN (upN ns) ns.length).map fun j: Nat=> (j: Int)
noncomputable def kidsI (ns: List Int) (x: Int): List Int:= (kidsN (upN ns) ns.length x.toNat).map fun j: Nat=> (j: Int)
noncomputable def wtI (ns: List Int) (odd: Bool) (x: Int): Int:= wtN ns odd x.toNat
noncomputable def natI (xs: List Nat): List Int:= xs.map fun j: Nat=> (j: Int)
theorem Ready.wood {ns sc: List Int} {odd: Bool} {l nu rt B W od P: Addr} {bs: List Addr} {xs: List Nat} {pos: Pos} {nm: Str} {τ: Hp} (h: Ready ns sc odd l nu rt B W od P bs xs pos nm τ) (hbs: bs.length = ns.length) (hx: ∀ j ∈ xs,j < ns.length) :
  WoodAt B W bs ((List.range ns.length).map (wtN ns odd)) (kidsI ns) (wtI ns odd) (natI xs) τ:= by
 refine ⟨h.hB,by rw [h.hW,List.map_map];rfl,fun x m=> ?_⟩
 obtain ⟨j,mj,rfl⟩:= List.mem_map.mp m
 have hj:= hx j mj
 obtain ⟨b,eb⟩: ∃ b,bs[j]? = some b:= ⟨_,List.getElem?_eq_getElem (by rw [hbs];exact hj)⟩
 refine ⟨b,by rw [nth_nat,List.getElem?_map,eb];rfl,?_,?_⟩
 ·rw [h.hb j b eb,vN_eq];rfl
 ·rw [nth_nat,List.getElem?_map,List.getElem?_map,List.getElem?_range hj];rfl
theorem ask_v (Φ: Fns) {pos: Pos} {cd: Addr × Str} {P: Addr} (h5: ∀ args Q σ,less (toldC pos cd P) args Q σ -> Φ 5 args Q σ) (h6: ∀ args Q σ,dueC args Q σ -> Φ 6 args Q σ) {ns sc: List Int} {odd: Bool} {l nu rt B W od: Addr} {bs: List Addr} {xs: List Nat} {τ: Hp}
  (h: Ready ns sc odd l nu rt B W od P bs xs pos (cd.2 ++ "_law_key") τ) (hbs: bs.length = ns.length) (hm: ns.length <= 70) (hx: ∀ j ∈ xs,j < ns.length) (xl: xs.length = ns.length) (wd: Wd (rootsI ns) (kidsI ns) (natI xs)) (r2: 2 <= (rootsI ns).length) {n: Int} (n0: -1000 <= n) (n1: n <= 1000) (listed: Bool) {K: V -> V -> Hp -> Prop}
  (q: ∀ b b2 τ' x y z,Ready ns sc odd l nu rt B W od P bs xs pos (cd.2 ++ "_law_key") τ' -> Rows τ' b x y z -> Rows τ' b2 x y z -> K (.ref b) (.ref b2) τ') :
  Φ 5 [.bool listed,.int n,.ref rt,.ref B,.ref W] (fun v σ=> Φ 6 [.bool listed,.int n,.ref rt,.ref B,.ref W,.ref od] (fun u σ=> K v u σ) σ) τ:= by
 have xl': (natI xs).length < 128:= by unfold natI;rw [List.length_map,xl];lia
 obtain ⟨ps,eP,hps⟩:= h.hP
 have hf: Ready ns sc odd l nu rt B W od P bs xs pos (cd.2 ++ "_law_key") (flatPart τ):= h.by (fun a o e f _=> flat_at e f) ⟨ps,flat_at eP trivial,hps⟩
 refine h5 _ _ _ ⟨flatPart τ,fun a o e=> (flat_some e).1,⟨listed,n,rt,B,W,bs,_,kidsI ns,wtI ns odd,rootsI ns,natI xs,ps,rfl,?_,hf.wood hbs hx,wd,r2,xl',n0,n1,fun a o e=> (flat_some e).2,flat_at eP trivial,hps,?_⟩⟩
 ·rw [listAt_list hf.hr,vN_eq];rfl
 intro b a1 a2 a3 τ1 ps' g g1 g2 g3 gP hcv keep
 have h1: Ready ns sc odd l nu rt B W od P bs xs pos (cd.2 ++ "_law_key") τ1:= hf.by (fun a o e _ nP=> keep a o e nP) ⟨ps',gP,.inr hcv⟩
 refine h6 _ _ _ ⟨listed,n,rt,B,W,od,bs,_,kidsI ns,wtI ns odd,rootsI ns,natI xs,rfl,?_,h1.wood hbs hx,wd,?_,r2,xl',?_⟩
 ·rw [listAt_list h1.hr,vN_eq];rfl
 ·rw [listAt_list h1.ho,vN_eq];rfl
 intro b2 c1 c2 c3 τ2 e e1 e2 e3 x
 exact q b b2 τ2 _ _ _ (h1.ext x) ⟨a1,a2,a3,x.listAt (listAt_list g),x.listAt g1,x.listAt g2,x.listAt g3⟩ ⟨c1,c2,c3,listAt_list e,e1,e2,e3⟩
end
set_option tactic.hygienic false
noncomputable def ps_asksEnd: List PS:= [.assign (.name 10) (.bin .Sub (.bin .Mod (.bin .Add (.call .sum [(.var 0)]) (.int 2)) (.bin .Add (.call .len [(.var 2)]) (.int 3))) (.int 1)),.ifs (.cmp .NotEq (.ucall 5 [(.bool true),(.var 10),(.var 2),(.var 3),(.var 5)]) (.ucall 6 [(.bool true),(.var 10),(.var 2),(.var 3),(.var 5),(.var 9)])) [.ret (.bool false)] [],.assign (.name 10) (.bin .Sub (.bin .Mod (.bin .Add (.call .sum [(.var 0)]) (.int 3)) (.bin .Add (.call .len [(.var 1)]) (.int 3))) (.int 1)),.ret (.cmp .Eq (.ucall 5 [(.bool false),(.var 10),(.var 2),(.var 3),(.var 5)]) (.ucall 6 [(.bool false),(.var 10),(.var 2),(.var 3),(.var 5),(.var 9)]))]
theorem ps_asks_eq: ps_asks = .assign (.name 9) (.comp [none,none,none,none] (.var 3) (.tup [1,2,3]) .plain (.call .sorted [(.comp [none,none,some 4] (.tuple [(.call .len [(.sub (.var 2) (.var 1))]),(.sub (.var 2) (.var 1)),(.var 1)]) (.name 1) .plain (.call .range [(.call .len [(.var 4)])]) [])]) []) :: ps_asksEnd:= rfl
theorem wish_in (s: Int) {k: Int} (hk: 0 < k) (h: k <= 900): -1000 <= s.fmod k - 1 /\ s.fmod k - 1 <= 1000:= by
 have:= Int.fmod_nonneg_of_pos s hk
 have:= Int.fmod_lt_of_pos s hk
 lia
theorem asks_v (Φ: Fns) {pos: Pos} {cd: Addr × Str} {P: Addr} (h5: ∀ args Q σ,less (toldC pos cd P) args Q σ -> Φ 5 args Q σ) (h6: ∀ args Q σ,dueC args Q σ -> Φ 6 args Q σ) {ns sc: List Int} {odd: Bool} {l nu rt B Y W od: Addr} {bs: List Addr} {xs: List Nat} {τ: Hp}
  (h: Ready ns sc odd l nu rt B W od P bs xs pos (cd.2 ++ "_law_key") τ) (hbs: bs.length = ns.length) (hm: ns.length <= 70) (hx: ∀ j ∈ xs,j < ns.length) (xl: xs.length = ns.length) (wd: Wd (rootsI ns) (kidsI ns) (natI xs)) (r2: 2 <= (rootsI ns).length) {x6 x7 x8 x10: Option V} :
  vSs Φ ps_asksEnd (retV fun v τ=> v = .bool true /\ ∃ ps q,τ P = some (.tab ps q)) [some (.ref l),some (.ref nu),some (.ref rt),some (.ref B),some (.ref Y),some (.ref W),x6,x7,x8,some (.ref od),x10] τ:= by
 have rl: (rootsN (upN ns) ns.length).length <= ns.length:= filter_len _
 unfold ps_asksEnd
 walk_at "go";((try simp only [s_assign,bt_name,List.set_cons_succ,List.set_cons_zero,e_bin,e_int,e_call,es_cons,es_nil,e_var,look_succ,look_zero]))
 refine call_sum (listAt_flist h.hl) ?_
 ((try simp only [b_add]))
 refine call_len (listAt_list h.hr) ?_
 ((try simp only [b_add,b_mod,b_sub]);(repeat (first | rw [q_next])))
 have vl: ((vN (rootsN (upN ns) ns.length)).length: Int) = ((rootsN (upN ns) ns.length).length: Int):= by unfold vN;rw [List.length_map]
 rw [vl]
 refine ⟨by exact Ne.symm ((fun {x y}=> bi_ine.mp) rfl),?_⟩
 walk_at "r"
 obtain ⟨w0,w1⟩:= wish_in (sc.sum + 2) (k:= ((rootsN (upN ns) ns.length).length: Int) + 3) (by exact Int.sign_eq_one_iff_pos.mp rfl) (by lia)
 walk_at "go";((try simp only [s_ifs,ss_nil,t_cmp,e_ucall,es_cons,es_nil,e_var,look_succ,look_zero,e_bool]))
 refine ask_v Φ h5 h6 h hbs hm hx xl wd r2 w0 w1 true (K:= fun v u σ=> opCmp .NotEq v u _ σ) fun b b2 τ1 x y z h1 ra rb=> ?_
 refine rows_ne ra rb ?_
 ((try simp only [t_bool]);(repeat (first | rw [q_next])))
 simp only [Bool.false_eq_true,if_false]
 walk_at "r"
 walk_at "go";((try simp only [s_assign,bt_name,List.set_cons_succ,List.set_cons_zero,e_bin,e_int,e_call,es_cons,es_nil,e_var,look_succ,look_zero]))
 refine call_sum (listAt_flist h1.hl) ?_
 ((try simp only [b_add]))
 refine call_len (listAt_list h1.hn) ?_
 rw [List.length_map]
 ((try simp only [b_add,b_mod,b_sub]);(repeat (first | rw [q_next])))
 refine ⟨by exact Ne.symm ((fun {x y}=> bi_ine.mp) rfl),?_⟩
 walk_at "r"
 obtain ⟨w2,w3⟩:= wish_in (sc.sum + 3) (k:= (ns.length: Int) + 3) (by exact Int.sign_eq_one_iff_pos.mp rfl) (by lia)
 walk_at "go";((try simp only [s_ret,e_cmp,e_ucall,es_cons,es_nil,e_var,look_succ,look_zero,e_bool]))
 refine ask_v Φ h5 h6 h1 hbs hm hx xl wd r2 w2 w3 false (K:= fun v u σ=> opCmp .Eq v u _ σ) fun b b2 τ2 x y z h2 ra rb=> ?_
 refine rows_eq ra rb ?_
 ((with_reducible repeat refine q_retI ?_);walk_at "r")
 obtain ⟨ps,eP,_⟩:= h2.hP
 exact ⟨trivial,ps,_,eP⟩
theorem empties {Φ: Fns} {F0: Frm} {Q: V -> Hp -> Prop} {σ: Hp} {a: Addr} {ns: List Int} (e: listAt σ a = some (ns.map .int)) (hb: ns.length <= 900) (q: ∀ (bs: List Addr) B τ,Ext σ τ -> bs.length = ns.length -> bs.Nodup -> (∀ b ∈ bs,τ b = some (.list []) /\ σ b = none) -> τ B = some (.list (bs.map .ref)) -> B ∉ bs -> σ B = none -> Q (.ref B) τ) :
  CompG Φ [] (.list []) (.name 1) F0 Q (.lst a 0) σ:= by
 refine comp_inv (xs:= ns.map .int) (fun i acc τ=> ∃ bs: List Addr,acc = bs.map .ref /\ bs.length = i /\ bs.Nodup /\ (∀ b ∈ bs,τ b = some (.list []) /\ σ b = none) /\ Ext σ τ) (yields_lst (fun τ ⟨_,_,bs,_,_,_,_,x⟩=> x.listAt e) _ 0 rfl) ⟨[],rfl,rfl,List.nodup_nil,(fun _ m=> nomatch m),.rfl⟩ (fun i acc τ ⟨bs,h,hl,_⟩=> by rw [h,List.length_map,hl];exact Nat.le_refl _) (by rw [List.length_map];exact big_of (by lia)) ?_ ?_
 ·rintro i x acc τ hx ⟨bs,rfl,hl,nd,hbs,hE⟩ K N hK hN
  rw [bt_name]
  simp only [ts_nil,e_list,es_nil,if_true]
  refine ⟨Nat.zero_le _,fun b hb=> hK _ _ ⟨bs ++ [b],by rw [List.map_append];rfl,by rw [List.length_append,hl];rfl,?_,fun c m=> ?_,hE.trans (Ext.upd _ hb)⟩⟩
  ·rw [List.nodup_append]
   refine ⟨nd,List.nodup_cons.mpr ⟨(fun m=> nomatch m),List.nodup_nil⟩,fun c mc d md q=> ?_⟩
   obtain rfl:= List.mem_singleton.mp md
   subst q
   have:= (hbs _ mc).1
   rw [hb] at this;cases this
  ·rcases List.mem_append.mp m with m | m
   ·have:= (hbs c m).1
    exact ⟨by rw [upd_ne _ _ (by rintro rfl;rw [hb] at this;cases this)];exact this,(hbs c m).2⟩
   ·obtain rfl:= List.mem_singleton.mp m
    exact ⟨upd_same _ _ _,hE.fresh hb⟩
 ·rintro acc τ ⟨bs,rfl,hl,nd,hbs,hE⟩
  rw [List.length_map] at hl
  refine newL_of (by rw [List.length_map,hl];exact big_of (by lia)) fun B τ' x n g=> q bs B τ' (hE.trans x) hl nd (fun b m=> ⟨x _ _ (hbs b m).1,(hbs b m).2⟩) g (fun m=> ?_) (hE.fresh n)
  have:= (hbs B m).1
  rw [n] at this;cases this
theorem roots_two {ns: List Int} (h: 4 <= ns.length) (h0: ns.getD 0 0 = 5) (h1: ns.getD 1 0 = 0): 2 <= (rootsI ns).length:= by
 unfold rootsI rootsN
 rw [List.length_map]
 obtain ⟨k,hk⟩:= Nat.le.dest (Nat.le_trans (by decide: 2 <= 4) h)
 rw [<- hk,List.range_add,List.filter_append,List.length_append]
 have e0: upN ns 0 = -1:= by unfold upN;rw [h0];decide
 have e1: upN ns 1 = -1:= by unfold upN;rw [h1];decide
 have: ((List.range 2).filter fun j=> decide (upN ns j < 0)) = [0,1]:= by
  show ([0,1].filter fun j=> decide (upN ns j < 0)) = [0,1]
  simp [List.filter_cons,e0,e1]
 rw [this];exact Nat.le_add_right 2 _
theorem law09_v (Φ: Fns) (pos: Pos) (cd: Addr × Str) (P l: Addr) (h5: ∀ args Q σ,less (toldC pos cd P) args Q σ -> Φ 5 args Q σ) (h6: ∀ args Q σ,dueC args Q σ -> Φ 6 args Q σ) (sc: List Int) (hsc: sc.length <= 63) (σ: Hp) (hP: σ P = some (.tab #[] (cd.2 ++ "_law_key"))) (hl: σ l = some (.flist (sc.map .int))) :
  vSs Φ ps_law09 (retV fun v τ=> v = .bool true /\ ∃ ps q,τ P = some (.tab ps q)) [some (.ref l),none,none,none,none,none,none,none,none,none,none] σ:= by
 unfold ps_law09
 walk_at "go";((try simp only [s_assign,bt_name,List.set_cons_succ,List.set_cons_zero,e_bin,e_var,look_zero,e_list,es_cons,es_nil,e_int]))
 refine newL_of (big_of (n:= 4) (by decide)) fun c σ1 x1 n1 g1=> ?_
 refine add_lists (listAt_list g1) (x1.listAt (listAt_flist hl)) ?_
 have ens: [V.int 5,V.int 0,V.int 7,V.int 1] ++ sc.map V.int = ([5,0,7,1] ++ sc).map V.int:= rfl
 rw [ens]
 generalize hns: ([5,0,7,1] ++ sc: List Int) = ns
 have nl: ns.length = sc.length + 4:= by rw [<- hns,List.length_append];exact Nat.add_comm _ _
 have g0: ns.getD 0 0 = 5:= by rw [<- hns];rfl
 have g0': ns.getD 1 0 = 0:= by rw [<- hns];rfl
 refine newL_of (by rw [List.length_map];exact big_of (by lia)) fun nu σ2 x2 n2 g2=> ?_
 walk_at "n"
 walk_at "go";((try simp only [s_assign,bt_name,List.set_cons_succ,List.set_cons_zero,e_list,es_nil]))
 refine newL_of (Nat.zero_le _) fun rt σ3 x3 n3 g3=> ?_
 walk_at "n"
 walk_at "go";((try simp only [s_assign,bt_name,List.set_cons_succ,List.set_cons_zero,e_comp,frOf,List.map,e_var,look_succ,look_zero,i_ref]))
 refine ⟨⟨_,listAt_list (x3 _ _ g2)⟩,?_⟩
 refine empties (listAt_list (x3 _ _ g2)) (by lia) fun bs B σ4 x4 lb ndb hbs gB nB nB3=> ?_
 walk_at "n"
 walk_at "go";((try simp only [s_assign,bt_name,List.set_cons_succ,List.set_cons_zero,e_list,es_nil]))
 refine newL_of (Nat.zero_le _) fun Y σ5 x5 n5 g5=> ?_
 walk_at "n"
 walk_at "go";((try simp only [s_assign,bt_name,List.set_cons_succ,List.set_cons_zero,e_list,es_nil]))
 refine newL_of (Nat.zero_le _) fun W σ6 x6 n6 g6=> ?_
 walk_at "n"
 have ne: ∀ {τ: Hp} {a b: Addr} {o: AObj},τ a = some o -> τ b = none -> a ≠ b:= fun e n=> by rintro rfl;rw [n] at e;cases e
 have x46:= x5.trans x6
 have x36:= x4.trans x46
 have x06:= (x1.trans x2).trans (x3.trans x36)
 have l6: σ6 l = some (.flist (sc.map .int)):= x06 _ _ hl
 have M: ∀ {a: Addr} {o: AObj},σ2 a = some o -> a ∉ rt :: Y :: W :: bs:= fun {a o} e m=> by
  simp only [List.mem_cons] at m
  rcases m with q | q | q | q
  ·exact ne e n3 q
  ·exact ne ((x3.trans x4) _ _ e) n5 q
  ·exact ne ((x3.trans (x4.trans x5)) _ _ e) n6 q
  ·exact ne (x3 _ _ e) (hbs a q).2 rfl
 have nBM: B ∉ rt :: Y :: W :: bs:= fun m=> by
  simp only [List.mem_cons] at m
  rcases m with q | q | q | q
  ·exact ne g3 nB3 q.symm
  ·exact ne gB n5 q
  ·exact ne (x5 _ _ gB) n6 q
  ·exact nB q
 have C: WoodB ns sc ((sc.length: Int).fmod 2 == 1) σ6 l nu rt B Y W bs:= by
  refine ⟨?_,lb,by lia,x46 _ _ gB,nBM,listAt_list (x3.trans x36 _ _ g2),M g2,listAt_flist l6,M ((x1.trans x2) _ _ hl),rfl⟩
  simp only [List.nodup_cons,List.mem_cons,not_or]
  refine ⟨⟨ne (x4 _ _ g3) n5,ne ((x4.trans x5) _ _ g3) n6,fun m=> ne g3 (hbs _ m).2 rfl⟩,⟨ne g5 n6,fun m=> ne (hbs _ m).1 n5 rfl⟩,fun m=> ne (x5 _ _ (hbs _ m).1) n6 rfl,ndb⟩
 refine wood_v Φ C ⟨x36 _ _ g3,fun i a e=> ?_,x6 _ _ g5,fun i a e=> (nomatch e),rfl,fun _ m=> (nomatch m),g6,fun a o e _=> e⟩ fun ys e6 e7 e8 τ G=> ?_
 ·have hz: vN (kidsN (upN ns) 0 i) = []:= rfl
  rw [hz];exact x46 _ _ (hbs a (List.mem_of_getElem? e)).1
 rw [ps_asks_eq]
 refine order_v Φ (listAt_list G.hY) (fun i a e=> listAt_list (G.hy i a e)) (by rw [G.ly];lia) (by rw [G.ly];(exact C.h70)) fun xs od τ' x hp hs eo=> ?_
 rw [G.ly] at hp
 have wd:= (wood ns).wd hp hs
 have keep: ∀ {a: Addr} {o: AObj},σ2 a = some o -> τ' a = some o:= fun e=> x _ _ (G.keep _ _ ((x3.trans x36) _ _ e) (M e))
 have hR: Ready ns sc ((sc.length: Int).fmod 2 == 1) l nu rt B W od P bs xs pos (cd.2 ++ "_law_key") τ':=
  ⟨keep ((x1.trans x2) _ _ hl),keep g2,x _ _ G.hr,x _ _ (G.keep _ _ (x46 _ _ gB) nBM),fun i a e=> x _ _ (G.hb i a e),x _ _ G.hW,eo,#[],keep ((x1.trans x2) _ _ hP),.inl rfl⟩
 exact asks_v Φ h5 h6 hR lb (by exact C.h70) (fun j m=> List.mem_range.mp (hp.mem_iff.mp m)) (by rw [hp.length_eq,List.length_range]) wd (roots_two (by lia) g0 g0')
theorem len_cons {α: Type} {n: Nat} {l: List α} (h: l.length = n + 1): ∃ a t,l = a :: t /\ t.length = n:= by
 cases l with
 | nil=> cases h
 | cons a t=> exact ⟨a,t,rfl,Nat.succ.inj h⟩
noncomputable def defAt (p: Program) (i: Nat): Arguments × List Stmt × Scope:= match p.main.body[i]? with
 | some (.FunctionDef _ a b _ _ _ sc _ _ _)=> (a,b,sc)
 | _=> (⟨[],[],none,[],[],none,[]⟩,[],⟨.function,[],false,false,[]⟩)
noncomputable def recIn (p: Program) (name: Str): DefRec:= match defOf p name with
 | some (d,_)=> d
 | none=> ⟨name,⟨[],[],none,[],[],none,[]⟩,[],⟨.function,[],false,false,[]⟩,⟨0,0,0,0⟩⟩
theorem FnOk.false {prog: Program} {w: World} {h₀: Heap} {n: Nat} {fa: Addr} {o: Obj} {fd: FuncData} (ho: h₀.get? fa = some o) (hd: o.data = .func fd) (hc: h₀.CodeRec fd.code fd.qualname): FnOk prog w h₀ n (.ref fa) (fun _ _ _=> False):=
 ⟨fa,o,fd,rfl,ho,hd,fun _ _ _ _ _ _ _ _ _ _ _ _ _ _ _ _ _ f=> f.elim,hc⟩
noncomputable def Φs (l: List (List V -> (V -> Hp -> Prop) -> Hp -> Prop)): Fns:= fun i=> match l[i]? with | some C=> C | none=> fun _ _ _=> False
theorem bi_free {p: Program} {loose: List Str} {mean: ExcName -> Option Value} {mg mb: Str -> Option Value} {h: Heap} (T: Top p loose mean mg mb h)
  (hf: ∀ x ∈ freeNames,x ∉ startupNames /\ x ∉ loose /\ x ∉ (recsOf p).map (·.name) /\ x ∉ (litsOf p).map (·.1) /\ x ∉ (clssOf p loose).map (·.name)) :
  ∀ x ∈ freeNames,mg x = none:= fun x hx=> by
  obtain ⟨a,b,c,d,e⟩:= hf x hx;exact T.free x a b c d e
theorem dfl {mg: Str -> Option Value} {h: Heap} {params: Arguments} {dV kV: Value} (D: Dflts mg h params [] dV kV) (hp: params.defaults = []): dV = .none /\ kV = .none:= by
 refine ⟨?_,?_⟩
 ·rcases D.pos with ⟨_,e⟩ | ⟨n,_⟩
  ·exact e
  ·exact absurd hp n
 ·rcases D.kw with ⟨_,e⟩ | ⟨n,_⟩
  ·exact e
  ·exact absurd rfl n
noncomputable def Shown (mg: Str -> Option Value) (h: Heap) (name: Str) (d: DefRec): Prop:=
 ∃ a o pm cd doc,mg name = some (.ref a) /\ h.get? a = some o /\ o.data = .func { Calls.docDef d.name d.params d.body d.scope pm cd doc with defaults:= .none,kwdefaults:= .none } /\ h.CodeRec cd d.name
theorem shown_of {p: Program} {loose: List Str} {R: WRecords} {XP: (Str -> Option Value) -> Heap -> Prop} {w: World} {s₀: Shared} {mg mb: Str -> Option Value} {h: Heap}
  (G: Ground p loose R XP w s₀ mg mb h) (name: Str) (d: DefRec) (e: defOf p name = some (d,[])) (hp: d.params.defaults = []): Shown mg h name d:= by
 obtain ⟨a,o,pm,cd,doc,dV,kV,h1,h2,h3,h4,h5⟩:= G.fn e
 obtain ⟨rfl,rfl⟩:= dfl h5 hp
 exact ⟨a,o,pm,cd,doc,h1,h2,h3,h4⟩
noncomputable def noC: List V -> (V -> Hp -> Prop) -> Hp -> Prop:= fun _ _ _=> False
noncomputable def cvC (fdH: FuncData) (KC: FuncData -> List V -> (V -> Hp -> Prop) -> Hp -> Prop) (args: List V) (Q: V -> Hp -> Prop) (σ: Hp): Prop:= ∃ fd rest,args = .func fd :: rest /\ ((fd = fdH /\ heapreplaceC rest Q σ) \/ KC fd rest Q σ)
noncomputable def gvC (fdH fdT: FuncData) (iH iT: Int) (args: List V) (Q: V -> Hp -> Prop) (σ: Hp): Prop:= ∃ (i: Int) (fd: FuncData),args = [.int i,.func fd] /\ (i = iH -> fd = fdH) /\ (i = iT -> fd = fdT)
theorem FnOk.fd {prog: Program} {w: World} {h₀: Heap} {n: Nat} {fa: Addr} {Φ: List V -> (V -> Hp -> Prop) -> Hp -> Prop} {o: Obj} {fd: FuncData} (h: FnOk prog w h₀ n (.ref fa) Φ) (ho: h₀.get? fa = some o) (hd: o.data = .func fd): FdOk prog w h₀ n fd Φ:= by
 obtain ⟨fa',o',fd',e,a,b,call,cr⟩:= h
 cases e
 rw [ho] at a;cases a
 rw [hd] at b;cases b
 exact call
theorem cv_ok {prog: Program} {w: World} {h₀: Heap} {n: Nat} {fdH: FuncData} {KC: FuncData -> List V -> (V -> Hp -> Prop) -> Hp -> Prop} (h1: FdOk prog w h₀ n fdH heapreplaceC) (h2: ∀ fd,FdOk prog w h₀ n fd (KC fd)) (fd: FuncData): FdOk prog w h₀ n fd (fun args Q σ=> cvC fdH KC (.func fd :: args) Q σ):= by
 intro A s σ fa o ar vals args Q ho hd hc hb R fs hw ra v
 obtain ⟨fd',rest,e,v⟩:= v
 cases e
 rcases v with ⟨rfl,v⟩ | v
 ·exact h1 A s σ fa o ar vals args Q ho hd hc hb R fs hw ra v
 ·exact h2 fd A s σ fa o ar vals args Q ho hd hc hb R fs hw ra v
theorem cv_no {prog: Program} {w: World} {h₀: Heap} {n: Nat} (fd: FuncData): FdOk prog w h₀ n fd (fun args Q σ=> noC (.func fd :: args) Q σ):= fun _ _ _ _ _ _ _ _ _ _ _ _ _ _ _ _ _ f=> f.elim
noncomputable def BA (fd: FuncData) (ar: Args) (items: Array Value) (binds: List (Str × Value)): Prop:= ∃ k: Option (Array Value) -> Sem (List (Str × Value)),bindArgs fd ar = seqItems? fd.defaults >>= k /\ k (some items) = pure binds
theorem BA.to {s: Shared} {fd: FuncData} {ar: Args} {items: Array Value} {binds: List (Str × Value)} (h: BA fd ar items binds) {T: Addr} {o: Obj} {n: Nat} (hd: fd.defaults = .ref T) (ho: s.heap.get? T = some o) (hs: o.data = .seq items n): BindsTo s fd ar binds:= by
 obtain ⟨k,h1,h2⟩:= h
 exact BindsTo.of_defaults hd ho hs h1 h2
theorem BA.swap {s: Shared} {fd: FuncData} {ar ar': Args} {items: Array Value} {binds: List (Str × Value)} (h: BA fd ar items binds) (h': BA fd ar' items binds) {T: Addr} {o: Obj} {n: Nat} (hd: fd.defaults = .ref T) (ho: s.heap.get? T = some o) (hs: o.data = .seq items n) {b: List (Str × Value)} (hb: BindsTo s fd ar b): BindsTo s fd ar' b:= fun M A E Q q Γ p hΓ=> by
 obtain ⟨k,h1,h2⟩:= h
 obtain ⟨k',h1',h2'⟩:= h'
 have:= hb M A E Q q Γ p hΓ
 rw [h1,hd] at this
 rw [h1',hd]
 unfold seqItems? at this ⊢
 simp only [Sem.wp_bind',Sem.wp_load_of M Γ _ p s ho,hs,Sem.wp_pure'] at this ⊢
 rw [h2'] ;rw [h2] at this;exact this
theorem fd_uniq {mg: Str -> Option Value} {h: Heap} {x: Str} {a a': Addr} {o o': Obj} {fd fd': FuncData} (m: mg x = some (.ref a)) (m': mg x = some (.ref a')) (g: h.get? a = some o) (g': h.get? a' = some o') (d: o.data = .func fd) (d': o'.data = .func fd'): fd' = fd:= by
 rw [m] at m';cases m'
 rw [g] at g';cases g'
 rw [d] at d';cases d';rfl
inductive AtDef (mg: Str -> Option Value) (h₀: Heap) (name: Str) (A: Arguments × List Stmt × Scope) (fns params: List Str) (ps: List PS): Prop
 | mk (a: Addr) (o: Obj) (fd: FuncData) (m: mg name = some (.ref a)) (g: h₀.get? a = some o) (d: o.data = .func fd) (c: h₀.CodeRec fd.code fd.qualname) (p: fd.params = A.1) (s: fd.scope = A.2.2) (D: DefOk h₀ fd fns params A.2.1 ps): AtDef mg h₀ name A fns params ps
inductive AtDefD (mg: Str -> Option Value) (h₀: Heap) (name: Str) (A: Arguments × List Stmt × Scope) (fns params: List Str) (ps: List PS): Prop
 | mk (a: Addr) (o: Obj) (fd: FuncData) (m: mg name = some (.ref a)) (g: h₀.get? a = some o) (d: o.data = .func fd) (c: h₀.CodeRec fd.code fd.qualname) (p: fd.params = A.1) (s: fd.scope = A.2.2) (D: DefOk h₀ fd fns params A.2.1 ps) (T: Addr) (oT: Obj) (n: Nat) (t1: fd.defaults = .ref T) (t2: h₀.get? T = some oT) (t3: oT.data = .seq #[.none] n): AtDefD mg h₀ name A fns params ps
noncomputable def ShownD (mg: Str -> Option Value) (h: Heap) (name: Str) (d: DefRec): Prop:=
 ∃ a o pm cd doc T oT n,mg name = some (.ref a) /\ h.get? a = some o /\ o.data = .func { Calls.docDef d.name d.params d.body d.scope pm cd doc with defaults:= .ref T,kwdefaults:= .none } /\ h.CodeRec cd d.name /\ h.get? T = some oT /\ oT.data = .seq #[.none] n
theorem shownD_of {p: Program} {loose: List Str} {R: WRecords} {XP: (Str -> Option Value) -> Heap -> Prop} {w: World} {s₀: Shared} {mg mb: Str -> Option Value} {h: Heap}
  (G: Ground p loose R XP w s₀ mg mb h) (name: Str) (d: DefRec) (e: defOf p name = some (d,[])) (hp: ∃ e,d.params.defaults = [e] /\ literalOfW? e = some .none): ShownD mg h name d:= by
 obtain ⟨a,o,pm,cd,doc,dV,kV,h1,h2,h3,h4,h5⟩:= G.fn e
 obtain ⟨e,he,hl⟩:= hp
 obtain ⟨D1,D2⟩:= h5
 have hk: kV = .none:= by
  rcases D2 with ⟨_,e⟩ | ⟨n,_⟩
  ·exact e
  ·exact absurd rfl n
 subst hk
 rcases D1 with ⟨n,_⟩ | ⟨_,T,oT,vs,n,rfl,t1,t2,t3,t4⟩
 ·rw [he] at n;cases n
 rw [he] at t4
 obtain ⟨l⟩:= vs
 cases t4 with
 | cons q r=>
  cases r
  refine ⟨a,o,pm,cd,doc,T,oT,n,h1,h2,h3,h4,t1,?_⟩
  rcases q with ⟨d,x,rd⟩ | ⟨c,p,x,_⟩
  ·rw [hl] at x;cases x
   cases rd
   exact t3
  ·subst x;cases hl
noncomputable def ΦL (l: List (List V -> (V -> Hp -> Prop) -> Hp -> Prop)) (cv gv tb: List V -> (V -> Hp -> Prop) -> Hp -> Prop): Fns:= fun i=> if i = 1000 then cv else if i = 1001 then gv else if i = 1002 then tb else Φs l i
noncomputable def tbC (ca P: Addr) (args: List V) (Q: V -> Hp -> Prop) (σ: Hp): Prop:= args = [.ref ca,.ref P]
theorem FrOk.with {c: Cfg} {env: Env} {own: Addr -> Prop} {F: Frm} {h₀: Heap} {σ: Hp} {h: Heap} (f: FrOk c env own F h₀ σ h) {cd: Option (Addr × Str)} (hc: ∀ a q,cd = some (a,q) -> env.code = .ref a /\ env.qual = q): FrOk { c with code:= cd } env own F h₀ σ h:=
 ⟨f.kind,f.glob,f.bi,f.gk,f.vk,(let ⟨m,h1,h2⟩:= f.ns;⟨m,h1,h2⟩),(fun i x e n=> let ⟨a,cv,e1,e2,e3,e4,e5,e6⟩:= f.cell i x e n;⟨a,cv,e1,e2,e3,e4,e5,e6⟩),f.inj,f.loc,f.nd,f.ex,hc⟩
theorem CSs.code {sc: List (Str × NameKind)} {fns: List Str} {ss: List Stmt} {ps: List PS} (h: CSs { sc:= sc,fns:= fns } ss ps) (cd: Option (Addr × Str)): CSs { sc:= sc,fns:= fns,code:= cd } ss ps:= by
 intro prog w h₀ mg mb Φ n A s σ env own F Q X T v
 refine wpAny_mono (h ⟨X.G,X.NM,X.R,X.w,X.f.with (cd:= Option.none) (fun a q e=> by cases e),X.fs⟩ T v) (fun f s' p=> ?_) fun _ _ q=> q
 obtain ⟨fl,F',σ',h1,h2,h3,h4⟩:= p
 exact ⟨fl,F',σ',h1,h2,h3.with X.f.code,h4⟩
theorem CS.code {sc: List (Str × NameKind)} {fns: List Str} {ss: Stmt} {ps: PS} (h: CS { sc:= sc,fns:= fns } ss ps) (cd: Option (Addr × Str)): CS { sc:= sc,fns:= fns,code:= cd } ss ps:= by
 intro prog w h₀ mg mb Φ n A s σ env own F Q X T v
 refine wpAny_mono (h ⟨X.G,X.NM,X.R,X.w,X.f.with (cd:= Option.none) (fun a q e=> by cases e),X.fs⟩ T v) (fun f s' p=> ?_) fun _ _ q=> q
 obtain ⟨fl,F',σ',h1,h2,h3,h4⟩:= p
 exact ⟨fl,F',σ',h1,h2,h3.with X.f.code,h4⟩
inductive AtDefL (mg: Str -> Option Value) (h₀: Heap) (name: Str) (A: Arguments × List Stmt × Scope) (fns params: List Str) (ps: Option (Addr × Str) -> List PS): Prop
 | mk (a: Addr) (o: Obj) (fd: FuncData) (m: mg name = some (.ref a)) (g: h₀.get? a = some o) (d: o.data = .func fd) (c: h₀.CodeRec fd.code fd.qualname) (p: fd.params = A.1) (s: fd.scope = A.2.2) (D: DefOk h₀ fd fns params A.2.1 (ps (codeOf fd))): AtDefL mg h₀ name A fns params ps
section
variable {h₁: Heap} {c P: Addr} {mg mb: Str -> Option Value}
theorem ghost_old {tabs: List (Addr × Addr)} {b: Addr} {o: Obj} (e: (ghostOf h₁ tabs).get? b = some o): h₁.get? b = some o:= of_hideAll _ e
theorem ghost_rec {tabs: List (Addr × Addr)} (hT: TabsAt tabs h₁) {cd: Value} {q: Str} (x: h₁.CodeRec cd q): (ghostOf h₁ tabs).CodeRec cd q:= by
 obtain ⟨c,o,vs,t,e1,e2,e3,e4⟩:= x
 exact ⟨c,o,vs,t,e1,ghost_get hT e2 (fun q=> by subst q;cases e3;cases e4),e3,e4⟩
theorem ghost_gnd {prog: Program} {tabs: List (Addr × Addr)} (hT: TabsAt tabs h₁) (G: Gnd prog h₁ mg mb): Gnd prog (ghostOf h₁ tabs) mg mb where
 g:= ghost_ns hT G.g
 b:= ghost_ns hT G.b
 nolimit:= let ⟨mc,a,r⟩:= G.nolimit;⟨mc,ghost_ns hT a,r⟩
 seer:= {
   statics:= let ⟨mc,a,b⟩:= G.seer.statics;⟨mc,ghost_ns hT a,b⟩
   mods:= let ⟨mc,a,b⟩:= G.seer.mods;⟨mc,ghost_ns hT a,b⟩
   imp:= let ⟨mc,a,b⟩:= G.seer.imp;⟨mc,ghost_ns hT a,b⟩
   main:= let ⟨mg,bm,ob,a,b,c,d,e⟩:= G.seer.main;⟨mg,bm,ob,ghost_ns hT a,b,ghost_get hT c (fun q=> by subst q;cases d),d,e⟩ }
 tree:= G.tree
 boot:= G.boot
theorem ghost_shown {tabs: List (Addr × Addr)} (hT: TabsAt tabs h₁) {name: Str} {d: DefRec} (x: Shown mg h₁ name d): Shown mg (ghostOf h₁ tabs) name d:= by
 obtain ⟨a,o,pm,cd,doc,e1,e2,e3,e4⟩:= x
 exact ⟨a,o,pm,cd,doc,e1,ghost_get hT e2 (fun q=> by subst q;cases e3),e3,ghost_rec hT e4⟩
theorem ghost_shownD {tabs: List (Addr × Addr)} (hT: TabsAt tabs h₁) {name: Str} {d: DefRec} (x: ShownD mg h₁ name d): ShownD mg (ghostOf h₁ tabs) name d:= by
 obtain ⟨a,o,pm,cd,doc,T,oT,n,e1,e2,e3,e4,e5,e6⟩:= x
 exact ⟨a,o,pm,cd,doc,T,oT,n,e1,ghost_get hT e2 (fun q=> by subst q;cases e3),e3,ghost_rec hT e4,ghost_get hT e5 (fun q=> by subst q;cases e6),e6⟩
theorem ghost_blt {p: Program} {loose: List Str} {mean: ExcName -> Option Value} (hT: TabsAt [(c,P)] h₁) (T: Top p loose mean mg mb h₁): (ghostOf h₁ [(c,P)]).BuiltinsAt mg P:= by
 have hP:= (hT (c,P) (.head _)).2
 obtain ⟨bm,ob,b1,b2,b3,b4,b5,b6⟩:= T.bmain
 refine ⟨bm,ob,b1,b2,fun q=> ?_,fun q=> ?_,ghost_get hT b3 (fun q=> by subst q;cases b4),b4,b5,b6⟩
 ·obtain ⟨o,es,ep,e,hd,_⟩:= T.g
  rw [q,e] at b3;cases b3;rw [hd] at b6;cases b6
 ·subst q
  have hP: h₁.get? bm = some (tabObj #[]):= hP
  rw [hP] at b3;cases b3;cases b4
theorem law_tabs {p: Program} {loose: List Str} {mean: ExcName -> Option Value} (T: Top p loose mean mg mb h₁) {d: DefRec} (hd: d ∈ recsOf p): ∃ a o fd c P,mg d.name = some (.ref a) /\ h₁.get? a = some o /\ o.data = .func fd /\ fd.code = .ref c /\ TabsAt [(c,P)] h₁:= by
 obtain ⟨a,o,fd,c,P,e1,e2,e3,e4,e5,e6⟩:= T.tab d hd
 exact ⟨a,o,fd,c,P,e1,e2,e3,e4,fun q m=> by
  obtain rfl:= List.mem_singleton.mp m
  exact ⟨CodeHd.of e5 e6,e6.2⟩⟩
noncomputable def scriptTab (l: Addr) (ns: List Int) (P: Addr) (q: Str): Hp:= fun a=> if a = l then some (.flist (ns.map .int)) else if a = P then some (.tab #[] q) else none
theorem tab_ne {l: Addr} {its: Array Value} (hT: TabsAt [(c,P)] h₁) (hl: h₁.IsList l its): P ≠ l:= by
 rintro rfl
 obtain ⟨o,e,hc,_⟩:= hl
 have:= (hT (c,P) (.head _)).2
 have this: h₁.get? P = some (tabObj #[]):= this
 rw [this] at e;cases e;cases hc
theorem script_tab {l: Addr} {vs: List Value} {ns: List Int} (hT: TabsAt [(c,P)] h₁) (hl: h₁.IsList l vs.toArray) (hi: IntsAre vs ns) (hb: ns.length <= 63) (qn: Str): W (ghostOf h₁ [(c,P)]) (scriptTab l ns P qn) h₁:= by
 have S:= script_w hl hi hb
 refine ⟨fun b o e=> ghost_old e,fun a o e=> ?_,fun a ⟨o,e,m⟩=> ?_,fun a o e=> ?_⟩
 ·unfold scriptTab at e;split at e
  ·rename_i q;exact S.holds a o (by unfold scriptHp;rw [if_pos q];exact e)
  ·split at e
   ·rename_i q;subst q;cases e
    exact ⟨(hT (c,a) (.head _)).2,trivial,fun p cv e=> by cases e⟩
   ·cases e
 ·unfold scriptTab at e;split at e
  ·cases e;cases m
  ·split at e
   ·rename_i q;subst q;exact hideAll_none _ (.head _)
   ·cases e
 ·unfold scriptTab at e;split at e
  ·rename_i q;exact S.small a o (by unfold scriptHp;rw [if_pos q];exact e)
  ·split at e
   ·cases e;trivial
   ·cases e
theorem good_tab {l: OpenLaw} {cl: Str -> Option Addr} {mean: ExcName -> Option Value} {args: List WData} {s₁ s': Shared} {σ: Hp} {v: Value} (hg: s₁.gens = #[]) (p: PV (ghostOf s₁.heap [(c,P)]) σ s₁ (fun v τ=> v = .bool true /\ ∃ ps q,τ P = some (.tab ps q)) v s') :
  GoodW l.row.claim cl mean args { s₁ with heap:= ghostOf s₁.heap [(c,P)] } (.ok (.ret v)) s' /\ GrownAll [(c,P)] s'.heap:= by
 obtain ⟨x,σ',r,⟨st,m⟩,rfl,ps,q,e⟩:= p
 cases r
 refine ⟨⟨.inl ⟨.bool true,.bool true,[],rfl,fun cls=> rfl,?_,?_,?_⟩,st.w.stays,m.1,m.2.trans hg⟩,⟨ps,(st.w.holds _ _ e).1⟩,trivial⟩
 ·exact .bool true
 ·exact postW_of (r:= l.row.toRowW) (by simp only [OpenLaw.row];unfold WShape.has;simp;exact ⟨.bool,by simp [WShape.arms],rfl⟩) (w_eq_bool (w_res rfl) w_lit) rfl
 ·intro _;exact ⟨List.nodup_nil,fun a m=> by cases m⟩
end
section
variable {prog: Program} {w: World} {h₀ h: Heap} {σ σ': Hp}
theorem W.less (hw: W h₀ σ h) (s: ∀ a o,σ' a = some o -> σ a = some o): W h₀ σ' h:= ⟨hw.stays,fun a o e=> hw.holds a o (s a o e),fun a ⟨o,e,m⟩=> hw.above a ⟨o,s a o e,m⟩,fun a o e=> hw.small a o (s a o e)⟩
theorem Step.less (hw: W h₀ σ h) (s: ∀ a o,σ' a = some o -> σ a = some o): Step h₀ σ h σ' h:=
 ⟨hw.less s,fun _ _ _ _ _ e=> e,fun _ o _ _ _ e=> ⟨o.slots,e⟩,fun a=> ⟨fun ⟨o,e,m⟩=> .inl ⟨o,s a o e,m⟩,fun q=> .inl fun z=> by
  cases e: σ' a with
  | none=> exact q e
  | some o=> rw [s a o e] at z;cases z⟩,fun _ _ e _=> e,fun _ o e=> ⟨o,e,id⟩⟩
theorem FdOk.less {n: Nat} {fd: FuncData} {C: List V -> (V -> Hp -> Prop) -> Hp -> Prop} (H: FdOk prog w h₀ n fd C): FdOk prog w h₀ n fd (Mine.less C):= by
 intro A s σ fa o ar vals args Q ho hd hc hb R fs hw ra ⟨σ',sub,v⟩
 have st:= Step.less hw sub
 exact wpAny_mono (H A s σ' fa o ar vals args Q ho hd hc hb R (fs.step st) st.w ra v) (fun _ _ pv=> pv.back st .rfl) fun _ _ f=> f
theorem FnOk.less {n: Nat} {fv: Value} {C: List V -> (V -> Hp -> Prop) -> Hp -> Prop} (H: FnOk prog w h₀ n fv C): FnOk prog w h₀ n fv (Mine.less C):= by
 obtain ⟨fa,o,fd,e,a,b,call,cr⟩:= H
 exact ⟨fa,o,fd,e,a,b,call.less,cr⟩
end
set_option Elab.async false
set_option maxHeartbeats 8000000
noncomputable def vw09: Program:= PySem.Challenge.rw_dm0137_09.row.prog
theorem said09: OpenLaw.wellSaid PySem.Challenge.rw_dm0137_09 = true:= by decide +kernel
theorem left09: LeftO PySem.Challenge.rw_dm0137_09.row.toRowW.prog vw09 [] (fun s=> xlAt vw09 [] s && recOk (RowW.records PySem.Challenge.rw_dm0137_09.row.toRowW) s) (Hook.obs Hook.none) (Hook.val Hook.none) 900:= fun w=> by kernel_rfl
theorem deflaw09: defOf vw09 "law" = some (recIn vw09 "law",[]):= by kernel_rfl
theorem thelaw09: vw09.theDef "law" = some ((recIn vw09 "law").params,(recIn vw09 "law").body,(recIn vw09 "law").scope):= by kernel_rfl
theorem kwlaw09: kwWritten? (recIn vw09 "law").params.kwonlyargs (recIn vw09 "law").params.kw_defaults = some []:= by kernel_rfl
theorem hd09 (call: WalkO vw09 [] (XL vw09 []) (Hook.says Hook.none) PySem.Challenge.rw_dm0137_09.row.toRowW (recIn vw09 "law") [] fun f vs=> PySem.call f vs): PySem.Challenge.rw_dm0137_09.Holds:=
 holds_law said09 fun said=> holds_open (q:= vw09) (loose:= []) (Xt:= fun s=> xlAt vw09 [] s && recOk (RowW.records PySem.Challenge.rw_dm0137_09.row.toRowW) s) (XP:= XL vw09 []) (Yf:= Hook.obs Hook.none) (Ya:= Hook.val Hook.none) (YP:= Hook.says Hook.none) (N:= 900) left09 (Hook.of Hook.none) (Hook.keeps Hook.none)
  (fun s e=> xl_of s (Bool.and_eq_true_iff.mp e).1) XL.keeps deflaw09 thelaw09 kwlaw09 (fun s e=> recFacts_of (Bool.and_eq_true_iff.mp e).2) (by rfl) said (by decide +kernel) ⟨rfl,rfl,rfl,rfl,rfl,by decide +kernel⟩ (by w_witness2) call
theorem cv {c p x i} (e: c.names[i]? = some x) (h: (x == ("__debug__": Str)) = false /\ (x == ("__classdict__": Str)) = false): CE c (.Name x p) (.var i):= CE.var e h.1 h.2
noncomputable def fns09: List Str:= ["_siftdown_max","_siftup_max","_heapreplace_max","_heapify_max","nsmallest","_law_told","_law_due","law"]
noncomputable def prog09: Program:= PySem.Challenge.rw_dm0137_09.row.prog
noncomputable def key09: Arguments × List Stmt × Scope × Pos:= match (((defAt PySem.Challenge.pw_dm0137_09 7).2.1)[2]?: Option Stmt) with
 | some (.FunctionDef _ a b _ _ _ sc _ _ p)=> (a,b,sc,p)
 | _=> (⟨[],[],none,[],[],none,[]⟩,[],⟨.function,[],false,false,[]⟩,⟨0,0,0,0⟩)
noncomputable def LK (cl: List (Str × Addr)) (fd: FuncData): Prop:= (∀ y,key09.2.2.1.names.lookup y = some .free -> ∃ a,cl.lookup y = some a) /\ (∀ y z a,cl.lookup y = some a -> cl.lookup z = some a -> y = z) /\ ∃ qual doc pm cdv ctv,fd = fnX "_law_key" qual key09.1 key09.2.1 key09.2.2.1 cl .none .none doc pm none cdv ctv
theorem kn_free: ∀ p ∈ key09.2.2.1.names,p.2 = .free -> p.1 = ("asked": Str) \/ p.1 = ("below": Str) \/ p.1 = ("row": Str) \/ p.1 = ("worths": Str):= by decide +kernel
theorem kn_loc: ∀ p ∈ key09.2.2.1.names,p.2 = .local -> p.1 = ("j": Str):= by decide +kernel
theorem key09_cs: CSs { sc:= key09.2.2.1.names,fns:= fns09 } key09.2.1 ps_key:= (@CSs.cons _ _ _ _ _ (@CS.expr _ _ _ _ (@CE.meth _ _ _ _ _ _ _ _ _ rfl (by decide) (by decide) (fun _=> rfl) (@cv _ _ _ _ rfl (by decide)) (CEs.cons (@cv _ _ _ _ rfl (by decide)) CEs.nil (fun _=> rfl))) (fun _=> rfl)) (@CSs.cons _ _ _ _ _ (@CS.expr _ _ _ _ (@CE.meth _ _ _ _ _ _ _ _ _ rfl (by decide) (by decide) (fun _=> rfl) (@cv _ _ _ _ rfl (by decide)) (CEs.cons (@CE.sub _ _ _ _ _ _ (@cv _ _ _ _ rfl (by decide)) (@cv _ _ _ _ rfl (by decide)) (fun _ _=> rfl)) CEs.nil (fun _=> rfl))) (fun _=> rfl)) (@CSs.cons _ _ _ _ _ (@CS.ret _ _ _ _ (@CE.sub _ _ _ _ _ _ (@cv _ _ _ _ rfl (by decide)) (@cv _ _ _ _ rfl (by decide)) (fun _ _=> rfl))) (@CSs.nil _))))
theorem key09_fd {cl: List (Str × Addr)} {qual: Str} {doc pm cdv ctv: Value} (h1: ∀ y,key09.2.2.1.names.lookup y = some .free -> ∃ a,cl.lookup y = some a) (h2: ∀ y z a,cl.lookup y = some a -> cl.lookup z = some a -> y = z): NestFd (fnX "_law_key" qual key09.1 key09.2.1 key09.2.2.1 cl .none .none doc pm none cdv ctv) fns09 "j" key09.2.1 ps_key:=
 ⟨rfl,fun v=> rfl,rfl,rfl,by kernel_rfl,by kernel_rfl,by kernel_rfl,(show (key09.2.2.1.names.map (·.1)).Nodup by decide +kernel),(show ∀ x ∈ key09.2.2.1.names,x.2 ≠ .cell by decide +kernel),(show key09.2.2.1.names.lookup ("j": Str) = some NameKind.local by decide +kernel),fun x e=> kn_loc _ (PySem.mem_of_lookup e) rfl,h1,h2,CSs.body (CSs.code key09_cs _)⟩
theorem key09_fr (cd: Option (Addr × Str)) (u a b r w: V): frN { sc:= key09.2.2.1.names,fns:= fns09,code:= cd } "j" u [("asked",a),("below",b),("row",r),("worths",w)] = [some u,some a,some b,some r,some w]:= by first | rfl | kernel_rfl
theorem key09_ok {w: World} {h₀: Heap} {mg mb: Str -> Option Value} {Φ: Fns} (G: Gnd prog09 h₀ mg mb) (NM: NamesOk prog09 w h₀ mg 0 fns09 Φ) {m: Nat} (hm: 1 <= m) (fd: FuncData): FdOk prog09 w h₀ m fd (keyC LK fd):= by
 intro A s σ fa o ar vals args Q ho hd hc hb R fs hw ra v
 obtain ⟨u,cl,A',B,R',W,cA,cB,cR,cW,rfl,⟨h1,h2,qual,doc,pm,cdv,ctv,rfl⟩,⟨a1,a2,a3,a4⟩,⟨b1,b2,b3,b4⟩,hv⟩:= key_v Φ v
 refine ((nest_ok G NM (key09_fd h1 h2)).mono hm fun _ _ _ h=> h) A s σ fa o ar vals [u] Q ho hd hc hb R fs hw ra ⟨u,[("asked",.ref A'),("below",.ref B),("row",.ref R'),("worths",.ref W)],rfl,fun x v e=> ?_,fun x e=> ?_,?_⟩
 ·have q:= PySem.mem_of_lookup e
  simp only [List.mem_cons,Prod.mk.injEq,List.not_mem_nil,or_false] at q
  rcases q with ⟨rfl,rfl⟩ | ⟨rfl,rfl⟩ | ⟨rfl,rfl⟩ | ⟨rfl,rfl⟩
  ·exact ⟨cA,a1,b1⟩
  ·exact ⟨cB,a2,b2⟩
  ·exact ⟨cR,a3,b3⟩
  ·exact ⟨cW,a4,b4⟩
 ·rcases kn_free _ (PySem.mem_of_lookup e) rfl with q | q | q | q <;> (have q: x = _:= q;subst q;exact ⟨_,rfl⟩)
 ·rw [key09_fr];exact hv
theorem told_fs {cd: Option (Addr × Str)}: FsOk { sc:= (defAt PySem.Challenge.pw_dm0137_09 7).2.2.names,fns:= fns09,code:= cd } [("below",3),("worths",4),("asked",7),("row",8)]:= by
 refine ⟨fun x k m=> ?_,fun x e=> ?_⟩
 ·simp only [List.mem_cons,Prod.mk.injEq,List.not_mem_nil,or_false] at m
  rcases m with ⟨rfl,rfl⟩ | ⟨rfl,rfl⟩ | ⟨rfl,rfl⟩ | ⟨rfl,rfl⟩ <;> exact ⟨rfl,(by show (defAt PySem.Challenge.pw_dm0137_09 7).2.2.names.lookup _ = _;decide +kernel)⟩
 ·have:= (show ∀ p ∈ (defAt PySem.Challenge.pw_dm0137_09 7).2.2.names,p.2 = .cell -> p.1 = ("below": Str) \/ p.1 = ("worths": Str) \/ p.1 = ("asked": Str) \/ p.1 = ("row": Str) by decide +kernel) _ (PySem.mem_of_lookup e) rfl
  rcases this with q | q | q | q <;> (have q: x = _:= q;subst q)
  ·exact ⟨3,.head _⟩
  ·exact ⟨4,.tail _ (.head _)⟩
  ·exact ⟨7,.tail _ (.tail _ (.head _))⟩
  ·exact ⟨8,.tail _ (.tail _ (.tail _ (.head _)))⟩
theorem told_sc {cd: Option (Addr × Str)}: scOk { sc:= (defAt PySem.Challenge.pw_dm0137_09 7).2.2.names,fns:= fns09,code:= cd } key09.2.2.1.names = true:= by
 have: scOk { sc:= (defAt PySem.Challenge.pw_dm0137_09 7).2.2.names,fns:= fns09 } key09.2.2.1.names = true:= by decide +kernel
 exact this
theorem told_loc {cd: Option (Addr × Str)}: (Cfg.mk (defAt PySem.Challenge.pw_dm0137_09 7).2.2.names fns09 cd).sc.lookup ("_law_key": Str) = some .local:= by
 show (defAt PySem.Challenge.pw_dm0137_09 7).2.2.names.lookup _ = _
 decide +kernel
theorem told_hfs: ∀ y k,(y,k) ∈ [(("below": Str),3),("worths",4),("asked",7),("row",8)] -> (y,NameKind.free) ∈ key09.2.2.1.names:= fun y k m=>
 (show ∀ p ∈ [(("below": Str),3),("worths",4),("asked",7),("row",8)],(p.1,NameKind.free) ∈ key09.2.2.1.names by decide +kernel) (y,k) m
theorem told_hfree: ∀ y,(y,NameKind.free) ∈ key09.2.2.1.names -> ∃ k,(y,k) ∈ [(("below": Str),3),("worths",4),("asked",7),("row",8)]:= fun y m=> by
 rcases kn_free _ m rfl with q | q | q | q <;> (have q: y = _:= q;subst q)
 ·exact ⟨7,.tail _ (.tail _ (.head _))⟩
 ·exact ⟨3,.head _⟩
 ·exact ⟨8,.tail _ (.tail _ (.tail _ (.head _)))⟩
 ·exact ⟨4,.tail _ (.head _)⟩
theorem told_rest: CSs { sc:= (defAt PySem.Challenge.pw_dm0137_09 7).2.2.names.map fun x=> (x.1,frzK x.2),fns:= fns09 } ((defAt PySem.Challenge.pw_dm0137_09 7).2.1.drop 3) [.ifs (.var 0) [.assign (.name 6) (.ucallk 4 (.var 1) (.var 8) (.var 5))] [.assign (.name 6) (.ucallk 4 (.var 1) (.call .iter [(.var 8)]) (.var 5))],.ret (.list [(.var 6),(.var 7),(.var 8)])]:= (@CSs.cons _ _ _ _ _ (@CS.ifs _ _ _ _ _ _ _ _ (@CT.var _ _ _ _ (@cv _ _ _ _ rfl (by decide))) (@CSs.cons _ _ _ _ _ (@CS.assign _ _ _ _ _ _ _ rfl (by decide) (@CE.ucallk _ _ _ _ _ _ _ _ _ _ _ _ rfl rfl (by decide) (CEs.cons (@cv _ _ _ _ rfl (by decide)) (CEs.cons (@cv _ _ _ _ rfl (by decide)) CEs.nil (fun _=> rfl)) (fun _=> rfl)) (@cv _ _ _ _ rfl (by decide))) (fun _=> rfl)) (@CSs.nil _)) (@CSs.cons _ _ _ _ _ (@CS.assign _ _ _ _ _ _ _ rfl (by decide) (@CE.ucallk _ _ _ _ _ _ _ _ _ _ _ _ rfl rfl (by decide) (CEs.cons (@cv _ _ _ _ rfl (by decide)) (CEs.cons (@CE.call _ _ _ _ _ _ _ rfl (by decide) (CEs.cons (@cv _ _ _ _ rfl (by decide)) CEs.nil (fun _=> rfl))) CEs.nil (fun _=> rfl)) (fun _=> rfl)) (@cv _ _ _ _ rfl (by decide))) (fun _=> rfl)) (@CSs.nil _))) (@CSs.cons _ _ _ _ _ (@CS.ret _ _ _ _ (@CE.list _ _ _ _ (CEs.cons (@cv _ _ _ _ rfl (by decide)) (CEs.cons (@cv _ _ _ _ rfl (by decide)) (CEs.cons (@cv _ _ _ _ rfl (by decide)) CEs.nil (fun _=> rfl)) (fun _=> rfl)) (fun _=> rfl)))) (@CSs.nil _)))
set_option tactic.hygienic true
theorem def_sd: defOf vw09 "_siftdown_max" = some ((recIn vw09 "_siftdown_max"),[]):= by kernel_rfl
theorem bd_sd: (recIn vw09 "_siftdown_max").params = (defAt PySem.Challenge.pw_dm0137_09 3).1 /\ (recIn vw09 "_siftdown_max").body = (defAt PySem.Challenge.pw_dm0137_09 3).2.1 /\ (recIn vw09 "_siftdown_max").scope = (defAt PySem.Challenge.pw_dm0137_09 3).2.2:= ⟨by kernel_rfl,by kernel_rfl,by kernel_rfl⟩
theorem bind_sd (fd: FuncData) (h1: fd.params = (defAt PySem.Challenge.pw_dm0137_09 3).1) (h2: fd.defaults = .none) (h3: fd.kwdefaults = .none): ∀ vals: List Value,vals.length = (["heap","startpos","pos"]: List Str).length -> bindArgs fd ⟨vals,[]⟩ = pure ((["heap","startpos","pos"]: List Str).zip vals):= by
 intro vals hv
 obtain ⟨x0,t0,rfl,q0⟩:= len_cons (n:= 2) hv
 obtain ⟨x1,t1,rfl,q1⟩:= len_cons (n:= 1) q0
 obtain ⟨x2,t2,rfl,q2⟩:= len_cons (n:= 0) q1
 obtain rfl:= List.eq_nil_of_length_eq_zero q2
 unfold bindArgs
 rw [h1,h2,h3]
 rfl
theorem cs_sd: CSs { sc:= (defAt PySem.Challenge.pw_dm0137_09 3).2.2.names,fns:= fns09 } (defAt PySem.Challenge.pw_dm0137_09 3).2.1 ps_siftdown:= by
 unfold ps_siftdown
 exact (@CSs.cons _ _ _ _ _ (@CS.assign _ _ _ _ _ _ _ rfl (by decide) (@CE.sub _ _ _ _ _ _ (@cv _ _ _ _ rfl (by decide)) (@cv _ _ _ _ rfl (by decide)) (fun _ _=> rfl)) (fun _=> rfl)) (@CSs.cons _ _ _ _ _ (@CS.whil _ _ _ _ _ _ (@CT.cmp _ _ _ _ _ _ _ (@cv _ _ _ _ rfl (by decide)) (@cv _ _ _ _ rfl (by decide)) rfl) (@CSs.cons _ _ _ _ _ (@CS.assign _ _ _ _ _ _ _ rfl (by decide) (@CE.bin _ _ _ _ _ _ _ (@CE.bin _ _ _ _ _ _ _ (@cv _ _ _ _ rfl (by decide)) (@CE.int _ _ _ _)) (@CE.int _ _ _ _)) (fun _=> rfl)) (@CSs.cons _ _ _ _ _ (@CS.assign _ _ _ _ _ _ _ rfl (by decide) (@CE.sub _ _ _ _ _ _ (@cv _ _ _ _ rfl (by decide)) (@cv _ _ _ _ rfl (by decide)) (fun _ _=> rfl)) (fun _=> rfl)) (@CSs.cons _ _ _ _ _ (@CS.ifs _ _ _ _ _ _ _ _ (@CT.cmp _ _ _ _ _ _ _ (@cv _ _ _ _ rfl (by decide)) (@cv _ _ _ _ rfl (by decide)) rfl) (@CSs.cons _ _ _ _ _ (@CS.setitem _ _ _ _ _ _ _ _ _ (@cv _ _ _ _ rfl (by decide)) (@cv _ _ _ _ rfl (by decide)) (@cv _ _ _ _ rfl (by decide)) (fun _=> rfl)) (@CSs.cons _ _ _ _ _ (@CS.assign _ _ _ _ _ _ _ rfl (by decide) (@cv _ _ _ _ rfl (by decide)) (fun _=> rfl)) (@CSs.cons _ _ _ _ _ (@CS.cont _ _) (@CSs.nil _)))) (@CSs.nil _)) (@CSs.cons _ _ _ _ _ (@CS.brk _ _) (@CSs.nil _)))))) (@CSs.cons _ _ _ _ _ (@CS.setitem _ _ _ _ _ _ _ _ _ (@cv _ _ _ _ rfl (by decide)) (@cv _ _ _ _ rfl (by decide)) (@cv _ _ _ _ rfl (by decide)) (fun _=> rfl)) (@CSs.nil _))))
theorem fr_sd (cd: Option (Addr × Str)) (a b c: V): initF { sc:= (defAt PySem.Challenge.pw_dm0137_09 3).2.2.names,fns:= fns09,code:= cd } (["heap","startpos","pos"]: List Str) [a,b,c] = [a,b,c].map some ++ [none,none,none]:= by first | rfl | kernel_rfl
theorem at_sd {mg: Str -> Option Value} {h₀: Heap} (h: Shown mg h₀ "_siftdown_max" (recIn vw09 "_siftdown_max")): AtDef mg h₀ "_siftdown_max" (defAt PySem.Challenge.pw_dm0137_09 3) fns09 (["heap","startpos","pos"]: List Str) ps_siftdown:= by
 obtain ⟨a,o,pm,cd,doc,h1,h2,h3,h4⟩:= h
 obtain ⟨e1,e2,e3⟩:= bd_sd
 refine ⟨a,o,_,h1,h2,h3,h4,e1,e3,⟨congrArg FuncBody.stmts e2,fun s hs vals hv=> BindsTo.of_eq (bind_sd _ e1 rfl rfl vals hv),rfl,rfl,rfl,?_,?_,?_,?_,?_,?_,by decide,?_⟩⟩
 ·show (recIn vw09 "_siftdown_max").scope.isCoroutine = false
  rw [e3];rfl
 ·show (recIn vw09 "_siftdown_max").scope.isGenerator = false
  rw [e3];rfl
 ·show (recIn vw09 "_siftdown_max").scope.kind = .function
  rw [e3];rfl
 ·show ((recIn vw09 "_siftdown_max").scope.names.map (·.1)).Nodup
  rw [e3];decide +kernel
 ·show ∀ x ∈ (recIn vw09 "_siftdown_max").scope.names,x.2 ≠ .free
  rw [e3];decide +kernel
 ·show ∀ x ∈ (["heap","startpos","pos"]: List Str),(recIn vw09 "_siftdown_max").scope.names.lookup x = some .local \/ (recIn vw09 "_siftdown_max").scope.names.lookup x = some .cell
  rw [e3];decide +kernel
 ·show CB { sc:= (recIn vw09 "_siftdown_max").scope.names,fns:= fns09,code:= _ } _ _
  rw [e3];exact CSs.body (CSs.code cs_sd _)
theorem def_su: defOf vw09 "_siftup_max" = some ((recIn vw09 "_siftup_max"),[]):= by kernel_rfl
theorem bd_su: (recIn vw09 "_siftup_max").params = (defAt PySem.Challenge.pw_dm0137_09 4).1 /\ (recIn vw09 "_siftup_max").body = (defAt PySem.Challenge.pw_dm0137_09 4).2.1 /\ (recIn vw09 "_siftup_max").scope = (defAt PySem.Challenge.pw_dm0137_09 4).2.2:= ⟨by kernel_rfl,by kernel_rfl,by kernel_rfl⟩
theorem bind_su (fd: FuncData) (h1: fd.params = (defAt PySem.Challenge.pw_dm0137_09 4).1) (h2: fd.defaults = .none) (h3: fd.kwdefaults = .none): ∀ vals: List Value,vals.length = (["heap","pos"]: List Str).length -> bindArgs fd ⟨vals,[]⟩ = pure ((["heap","pos"]: List Str).zip vals):= by
 intro vals hv
 obtain ⟨x0,t0,rfl,q0⟩:= len_cons (n:= 1) hv
 obtain ⟨x1,t1,rfl,q1⟩:= len_cons (n:= 0) q0
 obtain rfl:= List.eq_nil_of_length_eq_zero q1
 unfold bindArgs
 rw [h1,h2,h3]
 rfl
theorem cs_su: CSs { sc:= (defAt PySem.Challenge.pw_dm0137_09 4).2.2.names,fns:= fns09 } (defAt PySem.Challenge.pw_dm0137_09 4).2.1 (ps_siftup 0):= by
 unfold ps_siftup
 exact (@CSs.cons _ _ _ _ _ (@CS.assign _ _ _ _ _ _ _ rfl (by decide) (@CE.call _ _ _ _ _ _ _ rfl (by decide) (CEs.cons (@cv _ _ _ _ rfl (by decide)) CEs.nil (fun _=> rfl))) (fun _=> rfl)) (@CSs.cons _ _ _ _ _ (@CS.assign _ _ _ _ _ _ _ rfl (by decide) (@cv _ _ _ _ rfl (by decide)) (fun _=> rfl)) (@CSs.cons _ _ _ _ _ (@CS.assign _ _ _ _ _ _ _ rfl (by decide) (@CE.sub _ _ _ _ _ _ (@cv _ _ _ _ rfl (by decide)) (@cv _ _ _ _ rfl (by decide)) (fun _ _=> rfl)) (fun _=> rfl)) (@CSs.cons _ _ _ _ _ (@CS.assign _ _ _ _ _ _ _ rfl (by decide) (@CE.bin _ _ _ _ _ _ _ (@CE.bin _ _ _ _ _ _ _ (@CE.int _ _ _ _) (@cv _ _ _ _ rfl (by decide))) (@CE.int _ _ _ _)) (fun _=> rfl)) (@CSs.cons _ _ _ _ _ (@CS.whil _ _ _ _ _ _ (@CT.cmp _ _ _ _ _ _ _ (@cv _ _ _ _ rfl (by decide)) (@cv _ _ _ _ rfl (by decide)) rfl) (@CSs.cons _ _ _ _ _ (@CS.assign _ _ _ _ _ _ _ rfl (by decide) (@CE.bin _ _ _ _ _ _ _ (@cv _ _ _ _ rfl (by decide)) (@CE.int _ _ _ _)) (fun _=> rfl)) (@CSs.cons _ _ _ _ _ (@CS.ifs _ _ _ _ _ _ _ _ (@CT.and _ _ _ _ _ _ (@CT.cmp _ _ _ _ _ _ _ (@cv _ _ _ _ rfl (by decide)) (@cv _ _ _ _ rfl (by decide)) rfl) (@CT.not _ _ _ _ (@CT.cmp _ _ _ _ _ _ _ (@CE.sub _ _ _ _ _ _ (@cv _ _ _ _ rfl (by decide)) (@cv _ _ _ _ rfl (by decide)) (fun _ _=> rfl)) (@CE.sub _ _ _ _ _ _ (@cv _ _ _ _ rfl (by decide)) (@cv _ _ _ _ rfl (by decide)) (fun _ _=> rfl)) rfl))) (@CSs.cons _ _ _ _ _ (@CS.assign _ _ _ _ _ _ _ rfl (by decide) (@cv _ _ _ _ rfl (by decide)) (fun _=> rfl)) (@CSs.nil _)) (@CSs.nil _)) (@CSs.cons _ _ _ _ _ (@CS.setitem _ _ _ _ _ _ _ _ _ (@cv _ _ _ _ rfl (by decide)) (@cv _ _ _ _ rfl (by decide)) (@CE.sub _ _ _ _ _ _ (@cv _ _ _ _ rfl (by decide)) (@cv _ _ _ _ rfl (by decide)) (fun _ _=> rfl)) (fun _=> rfl)) (@CSs.cons _ _ _ _ _ (@CS.assign _ _ _ _ _ _ _ rfl (by decide) (@cv _ _ _ _ rfl (by decide)) (fun _=> rfl)) (@CSs.cons _ _ _ _ _ (@CS.assign _ _ _ _ _ _ _ rfl (by decide) (@CE.bin _ _ _ _ _ _ _ (@CE.bin _ _ _ _ _ _ _ (@CE.int _ _ _ _) (@cv _ _ _ _ rfl (by decide))) (@CE.int _ _ _ _)) (fun _=> rfl)) (@CSs.nil _))))))) (@CSs.cons _ _ _ _ _ (@CS.setitem _ _ _ _ _ _ _ _ _ (@cv _ _ _ _ rfl (by decide)) (@cv _ _ _ _ rfl (by decide)) (@cv _ _ _ _ rfl (by decide)) (fun _=> rfl)) (@CSs.cons _ _ _ _ _ (@CS.expr _ _ _ _ (@CE.ucall _ _ _ _ _ _ _ rfl (by decide) (by decide) (by decide) (CEs.cons (@cv _ _ _ _ rfl (by decide)) (CEs.cons (@cv _ _ _ _ rfl (by decide)) (CEs.cons (@cv _ _ _ _ rfl (by decide)) CEs.nil (fun _=> rfl)) (fun _=> rfl)) (fun _=> rfl))) (fun _=> rfl)) (@CSs.nil _))))))))
theorem fr_su (cd: Option (Addr × Str)) (a b: V): initF { sc:= (defAt PySem.Challenge.pw_dm0137_09 4).2.2.names,fns:= fns09,code:= cd } (["heap","pos"]: List Str) [a,b] = [a,b].map some ++ [none,none,none,none,none]:= by first | rfl | kernel_rfl
theorem at_su {mg: Str -> Option Value} {h₀: Heap} (h: Shown mg h₀ "_siftup_max" (recIn vw09 "_siftup_max")): AtDef mg h₀ "_siftup_max" (defAt PySem.Challenge.pw_dm0137_09 4) fns09 (["heap","pos"]: List Str) (ps_siftup 0):= by
 obtain ⟨a,o,pm,cd,doc,h1,h2,h3,h4⟩:= h
 obtain ⟨e1,e2,e3⟩:= bd_su
 refine ⟨a,o,_,h1,h2,h3,h4,e1,e3,⟨congrArg FuncBody.stmts e2,fun s hs vals hv=> BindsTo.of_eq (bind_su _ e1 rfl rfl vals hv),rfl,rfl,rfl,?_,?_,?_,?_,?_,?_,by decide,?_⟩⟩
 ·show (recIn vw09 "_siftup_max").scope.isCoroutine = false
  rw [e3];rfl
 ·show (recIn vw09 "_siftup_max").scope.isGenerator = false
  rw [e3];rfl
 ·show (recIn vw09 "_siftup_max").scope.kind = .function
  rw [e3];rfl
 ·show ((recIn vw09 "_siftup_max").scope.names.map (·.1)).Nodup
  rw [e3];decide +kernel
 ·show ∀ x ∈ (recIn vw09 "_siftup_max").scope.names,x.2 ≠ .free
  rw [e3];decide +kernel
 ·show ∀ x ∈ (["heap","pos"]: List Str),(recIn vw09 "_siftup_max").scope.names.lookup x = some .local \/ (recIn vw09 "_siftup_max").scope.names.lookup x = some .cell
  rw [e3];decide +kernel
 ·show CB { sc:= (recIn vw09 "_siftup_max").scope.names,fns:= fns09,code:= _ } _ _
  rw [e3];exact CSs.body (CSs.code cs_su _)
theorem def_hr: defOf vw09 "_heapreplace_max" = some ((recIn vw09 "_heapreplace_max"),[]):= by kernel_rfl
theorem bd_hr: (recIn vw09 "_heapreplace_max").params = (defAt PySem.Challenge.pw_dm0137_09 1).1 /\ (recIn vw09 "_heapreplace_max").body = (defAt PySem.Challenge.pw_dm0137_09 1).2.1 /\ (recIn vw09 "_heapreplace_max").scope = (defAt PySem.Challenge.pw_dm0137_09 1).2.2:= ⟨by kernel_rfl,by kernel_rfl,by kernel_rfl⟩
theorem bind_hr (fd: FuncData) (h1: fd.params = (defAt PySem.Challenge.pw_dm0137_09 1).1) (h2: fd.defaults = .none) (h3: fd.kwdefaults = .none): ∀ vals: List Value,vals.length = (["heap","item"]: List Str).length -> bindArgs fd ⟨vals,[]⟩ = pure ((["heap","item"]: List Str).zip vals):= by
 intro vals hv
 obtain ⟨x0,t0,rfl,q0⟩:= len_cons (n:= 1) hv
 obtain ⟨x1,t1,rfl,q1⟩:= len_cons (n:= 0) q0
 obtain rfl:= List.eq_nil_of_length_eq_zero q1
 unfold bindArgs
 rw [h1,h2,h3]
 rfl
theorem cs_hr: CSs { sc:= (defAt PySem.Challenge.pw_dm0137_09 1).2.2.names,fns:= fns09 } (defAt PySem.Challenge.pw_dm0137_09 1).2.1 (ps_heapreplace 1):= by
 unfold ps_heapreplace
 exact (@CSs.cons _ _ _ _ _ (@CS.assign _ _ _ _ _ _ _ rfl (by decide) (@CE.sub _ _ _ _ _ _ (@cv _ _ _ _ rfl (by decide)) (@CE.int _ _ _ _) (fun _ _=> rfl)) (fun _=> rfl)) (@CSs.cons _ _ _ _ _ (@CS.setitem _ _ _ _ _ _ _ _ _ (@cv _ _ _ _ rfl (by decide)) (@CE.int _ _ _ _) (@cv _ _ _ _ rfl (by decide)) (fun _=> rfl)) (@CSs.cons _ _ _ _ _ (@CS.expr _ _ _ _ (@CE.ucall _ _ _ _ _ _ _ rfl (by decide) (by decide) (by decide) (CEs.cons (@cv _ _ _ _ rfl (by decide)) (CEs.cons (@CE.int _ _ _ _) CEs.nil (fun _=> rfl)) (fun _=> rfl))) (fun _=> rfl)) (@CSs.cons _ _ _ _ _ (@CS.ret _ _ _ _ (@cv _ _ _ _ rfl (by decide))) (@CSs.nil _)))))
theorem fr_hr (cd: Option (Addr × Str)) (a b: V): initF { sc:= (defAt PySem.Challenge.pw_dm0137_09 1).2.2.names,fns:= fns09,code:= cd } (["heap","item"]: List Str) [a,b] = [a,b].map some ++ [none]:= by first | rfl | kernel_rfl
theorem at_hr {mg: Str -> Option Value} {h₀: Heap} (h: Shown mg h₀ "_heapreplace_max" (recIn vw09 "_heapreplace_max")): AtDef mg h₀ "_heapreplace_max" (defAt PySem.Challenge.pw_dm0137_09 1) fns09 (["heap","item"]: List Str) (ps_heapreplace 1):= by
 obtain ⟨a,o,pm,cd,doc,h1,h2,h3,h4⟩:= h
 obtain ⟨e1,e2,e3⟩:= bd_hr
 refine ⟨a,o,_,h1,h2,h3,h4,e1,e3,⟨congrArg FuncBody.stmts e2,fun s hs vals hv=> BindsTo.of_eq (bind_hr _ e1 rfl rfl vals hv),rfl,rfl,rfl,?_,?_,?_,?_,?_,?_,by decide,?_⟩⟩
 ·show (recIn vw09 "_heapreplace_max").scope.isCoroutine = false
  rw [e3];rfl
 ·show (recIn vw09 "_heapreplace_max").scope.isGenerator = false
  rw [e3];rfl
 ·show (recIn vw09 "_heapreplace_max").scope.kind = .function
  rw [e3];rfl
 ·show ((recIn vw09 "_heapreplace_max").scope.names.map (·.1)).Nodup
  rw [e3];decide +kernel
 ·show ∀ x ∈ (recIn vw09 "_heapreplace_max").scope.names,x.2 ≠ .free
  rw [e3];decide +kernel
 ·show ∀ x ∈ (["heap","item"]: List Str),(recIn vw09 "_heapreplace_max").scope.names.lookup x = some .local \/ (recIn vw09 "_heapreplace_max").scope.names.lookup x = some .cell
  rw [e3];decide +kernel
 ·show CB { sc:= (recIn vw09 "_heapreplace_max").scope.names,fns:= fns09,code:= _ } _ _
  rw [e3];exact CSs.body (CSs.code cs_hr _)
theorem def_hf: defOf vw09 "_heapify_max" = some ((recIn vw09 "_heapify_max"),[]):= by kernel_rfl
theorem bd_hf: (recIn vw09 "_heapify_max").params = (defAt PySem.Challenge.pw_dm0137_09 2).1 /\ (recIn vw09 "_heapify_max").body = (defAt PySem.Challenge.pw_dm0137_09 2).2.1 /\ (recIn vw09 "_heapify_max").scope = (defAt PySem.Challenge.pw_dm0137_09 2).2.2:= ⟨by kernel_rfl,by kernel_rfl,by kernel_rfl⟩
theorem bind_hf (fd: FuncData) (h1: fd.params = (defAt PySem.Challenge.pw_dm0137_09 2).1) (h2: fd.defaults = .none) (h3: fd.kwdefaults = .none): ∀ vals: List Value,vals.length = (["x"]: List Str).length -> bindArgs fd ⟨vals,[]⟩ = pure ((["x"]: List Str).zip vals):= by
 intro vals hv
 obtain ⟨x0,t0,rfl,q0⟩:= len_cons (n:= 0) hv
 obtain rfl:= List.eq_nil_of_length_eq_zero q0
 unfold bindArgs
 rw [h1,h2,h3]
 rfl
theorem cs_hf: CSs { sc:= (defAt PySem.Challenge.pw_dm0137_09 2).2.2.names,fns:= fns09 } (defAt PySem.Challenge.pw_dm0137_09 2).2.1 (ps_heapify 1):= by
 unfold ps_heapify
 exact (@CSs.cons _ _ _ _ _ (@CS.assign _ _ _ _ _ _ _ rfl (by decide) (@CE.call _ _ _ _ _ _ _ rfl (by decide) (CEs.cons (@cv _ _ _ _ rfl (by decide)) CEs.nil (fun _=> rfl))) (fun _=> rfl)) (@CSs.cons _ _ _ _ _ (@CS.for _ _ _ _ _ _ _ _ _ (CG.name rfl (by decide)) (CI.rev rfl (by decide) (@CE.call _ _ _ _ _ _ _ rfl (by decide) (CEs.cons (@CE.bin _ _ _ _ _ _ _ (@cv _ _ _ _ rfl (by decide)) (@CE.int _ _ _ _)) CEs.nil (fun _=> rfl))) (fun _=> rfl)) ((by intro h;cases h)) (@CSs.cons _ _ _ _ _ (@CS.expr _ _ _ _ (@CE.ucall _ _ _ _ _ _ _ rfl (by decide) (by decide) (by decide) (CEs.cons (@cv _ _ _ _ rfl (by decide)) (CEs.cons (@cv _ _ _ _ rfl (by decide)) CEs.nil (fun _=> rfl)) (fun _=> rfl))) (fun _=> rfl)) (@CSs.nil _))) (@CSs.nil _)))
theorem fr_hf (cd: Option (Addr × Str)) (a: V): initF { sc:= (defAt PySem.Challenge.pw_dm0137_09 2).2.2.names,fns:= fns09,code:= cd } (["x"]: List Str) [a] = [a].map some ++ [none,none]:= by first | rfl | kernel_rfl
theorem at_hf {mg: Str -> Option Value} {h₀: Heap} (h: Shown mg h₀ "_heapify_max" (recIn vw09 "_heapify_max")): AtDef mg h₀ "_heapify_max" (defAt PySem.Challenge.pw_dm0137_09 2) fns09 (["x"]: List Str) (ps_heapify 1):= by
 obtain ⟨a,o,pm,cd,doc,h1,h2,h3,h4⟩:= h
 obtain ⟨e1,e2,e3⟩:= bd_hf
 refine ⟨a,o,_,h1,h2,h3,h4,e1,e3,⟨congrArg FuncBody.stmts e2,fun s hs vals hv=> BindsTo.of_eq (bind_hf _ e1 rfl rfl vals hv),rfl,rfl,rfl,?_,?_,?_,?_,?_,?_,by decide,?_⟩⟩
 ·show (recIn vw09 "_heapify_max").scope.isCoroutine = false
  rw [e3];rfl
 ·show (recIn vw09 "_heapify_max").scope.isGenerator = false
  rw [e3];rfl
 ·show (recIn vw09 "_heapify_max").scope.kind = .function
  rw [e3];rfl
 ·show ((recIn vw09 "_heapify_max").scope.names.map (·.1)).Nodup
  rw [e3];decide +kernel
 ·show ∀ x ∈ (recIn vw09 "_heapify_max").scope.names,x.2 ≠ .free
  rw [e3];decide +kernel
 ·show ∀ x ∈ (["x"]: List Str),(recIn vw09 "_heapify_max").scope.names.lookup x = some .local \/ (recIn vw09 "_heapify_max").scope.names.lookup x = some .cell
  rw [e3];decide +kernel
 ·show CB { sc:= (recIn vw09 "_heapify_max").scope.names,fns:= fns09,code:= _ } _ _
  rw [e3];exact CSs.body (CSs.code cs_hf _)
theorem def_ns: defOf vw09 "nsmallest" = some ((recIn vw09 "nsmallest"),[]):= by kernel_rfl
theorem bd_ns: (recIn vw09 "nsmallest").params = (defAt PySem.Challenge.pw_dm0137_09 5).1 /\ (recIn vw09 "nsmallest").body = (defAt PySem.Challenge.pw_dm0137_09 5).2.1 /\ (recIn vw09 "nsmallest").scope = (defAt PySem.Challenge.pw_dm0137_09 5).2.2:= ⟨by kernel_rfl,by kernel_rfl,by kernel_rfl⟩
theorem ba1 (fd: FuncData) (h1: fd.params = (defAt PySem.Challenge.pw_dm0137_09 5).1) (a b c: Value): BA fd ⟨[a,b,c],[]⟩ #[.none] [("n",a),("iterable",b),("key",c)]:= by
 unfold BA bindArgs
 rw [h1]
 exact ⟨_,rfl,rfl⟩
theorem ba2 (fd: FuncData) (h1: fd.params = (defAt PySem.Challenge.pw_dm0137_09 5).1) (a b c: Value): BA fd ⟨[a,b],[("key",c)]⟩ #[.none] [("n",a),("iterable",b),("key",c)]:= by
 unfold BA bindArgs
 rw [h1]
 exact ⟨_,rfl,rfl⟩
theorem ba3 (fd: FuncData) (h1: fd.params = (defAt PySem.Challenge.pw_dm0137_09 5).1) (a b: Value): BA fd ⟨[a,b],[]⟩ #[.none] [("n",a),("iterable",b),("key",.none)]:= by
 unfold BA bindArgs
 rw [h1]
 exact ⟨_,rfl,rfl⟩
theorem cs_ns: CSs { sc:= (defAt PySem.Challenge.pw_dm0137_09 5).2.2.names,fns:= fns09 } (defAt PySem.Challenge.pw_dm0137_09 5).2.1 ps_ns:= by
 unfold ps_ns
 exact (@CSs.cons _ _ _ _ _ (@CS.ifs _ _ _ _ _ _ _ _ (@CT.cmp _ _ _ _ _ _ _ (@cv _ _ _ _ rfl (by decide)) (@CE.int _ _ _ _) rfl) (@CSs.cons _ _ _ _ _ (@CS.assign _ _ _ _ _ _ _ rfl (by decide) (@CE.call _ _ _ _ _ _ _ rfl (by decide) (CEs.cons (@cv _ _ _ _ rfl (by decide)) CEs.nil (fun _=> rfl))) (fun _=> rfl)) (@CSs.cons _ _ _ _ _ (@CS.assign _ _ _ _ _ _ _ rfl (by decide) (@CE.call _ _ _ _ _ _ _ rfl (by decide) CEs.nil) (fun _=> rfl)) (@CSs.cons _ _ _ _ _ (@CS.assign _ _ _ _ _ _ _ rfl (by decide) (@CE.mink _ _ _ _ _ _ _ _ _ _ _ _ rfl (by decide) (@cv _ _ _ _ rfl (by decide)) (fun _=> rfl) (@cv _ _ _ _ rfl (by decide)) (@cv _ _ _ _ rfl (by decide))) (fun _=> rfl)) (@CSs.cons _ _ _ _ _ (@CS.ret _ _ _ _ (@CE.ite _ _ _ _ _ _ _ _ (@CT.cmp _ _ _ _ _ _ _ (@cv _ _ _ _ rfl (by decide)) (@cv _ _ _ _ rfl (by decide)) rfl) (@CE.list _ _ _ _ CEs.nil) (@CE.list _ _ _ _ (CEs.cons (@cv _ _ _ _ rfl (by decide)) CEs.nil (fun _=> rfl))))) (@CSs.nil _))))) (@CSs.nil _)) (@CSs.cons _ _ _ _ _ (@CS.tryLen _ _ _ _ _ _ _ _ _ _ _ _ _ _ _ _ _ _ _ rfl (by decide) rfl (by decide) (by decide) (by decide) (by decide) (by decide) (@CSs.cons _ _ _ _ _ (@CS.ifs _ _ _ _ _ _ _ _ (@CT.cmp _ _ _ _ _ _ _ (@cv _ _ _ _ rfl (by decide)) (@cv _ _ _ _ rfl (by decide)) rfl) (@CSs.cons _ _ _ _ _ (@CS.ret _ _ _ _ (@CE.slice _ _ _ _ _ _ _ _ _ _ _ (@CE.sortk _ _ _ _ _ _ _ _ _ rfl (by decide) (@cv _ _ _ _ rfl (by decide)) (fun _=> rfl) (@cv _ _ _ _ rfl (by decide))) CO.none (CO.some (@cv _ _ _ _ rfl (by decide))) CO.none)) (@CSs.nil _)) (@CSs.nil _)) (@CSs.nil _)) (fun _=> rfl)) (@CSs.cons _ _ _ _ _ (@CS.ifs _ _ _ _ _ _ _ _ (@CT.cmp _ _ _ _ _ _ _ (@cv _ _ _ _ rfl (by decide)) (@CE.none _ _ _) rfl) (@CSs.cons _ _ _ _ _ (@CS.assign _ _ _ _ _ _ _ rfl (by decide) (@CE.call _ _ _ _ _ _ _ rfl (by decide) (CEs.cons (@cv _ _ _ _ rfl (by decide)) CEs.nil (fun _=> rfl))) (fun _=> rfl)) (@CSs.cons _ _ _ _ _ (@CS.zipc _ _ _ _ _ _ _ _ _ _ _ _ _ _ _ _ _ _ _ _ _ _ _ _ _ _ _ rfl (by decide) ⟨by decide,rfl,by decide,by decide,rfl,rfl,by decide,by decide,by decide,rfl,by decide,(CEs.cons (@CE.call _ _ _ _ _ _ _ rfl (by decide) (CEs.cons (@cv _ _ _ _ rfl (by decide)) CEs.nil (fun _=> rfl))) (CEs.cons (@cv _ _ _ _ rfl (by decide)) CEs.nil (fun _=> rfl)) (fun _=> rfl)),(CEs.cons (@cv _ _ _ _ rfl (by decide)) (CEs.cons (@cv _ _ _ _ rfl (by decide)) CEs.nil (fun _=> rfl)) (fun _=> rfl))⟩) (@CSs.cons _ _ _ _ _ (@CS.ifs _ _ _ _ _ _ _ _ (@CT.not _ _ _ _ (@CT.var _ _ _ _ (@cv _ _ _ _ rfl (by decide)))) (@CSs.cons _ _ _ _ _ (@CS.ret _ _ _ _ (@cv _ _ _ _ rfl (by decide))) (@CSs.nil _)) (@CSs.nil _)) (@CSs.cons _ _ _ _ _ (@CS.expr _ _ _ _ (@CE.ucall _ _ _ _ _ _ _ rfl (by decide) (by decide) (by decide) (CEs.cons (@cv _ _ _ _ rfl (by decide)) CEs.nil (fun _=> rfl))) (fun _=> rfl)) (@CSs.cons _ _ _ _ _ (@CS.assign _ _ _ _ _ _ _ rfl (by decide) (@CE.sub _ _ _ _ _ _ (@CE.sub _ _ _ _ _ _ (@cv _ _ _ _ rfl (by decide)) (@CE.int _ _ _ _) (fun _ _=> rfl)) (@CE.int _ _ _ _) (fun _ _=> rfl)) (fun _=> rfl)) (@CSs.cons _ _ _ _ _ (@CS.assign _ _ _ _ _ _ _ rfl (by decide) (@cv _ _ _ _ rfl (by decide)) (fun _=> rfl)) (@CSs.cons _ _ _ _ _ (@CS.assign _ _ _ _ _ _ _ rfl (by decide) (@CE.gfn _ _ _ _ rfl (by decide) (by decide)) (fun _=> rfl)) (@CSs.cons _ _ _ _ _ (@CS.forx _ _ _ _ _ _ _ _ _ rfl (by decide) (@cv _ _ _ _ rfl (by decide)) (fun _ _=> rfl) (@CSs.cons _ _ _ _ _ (@CS.ifs _ _ _ _ _ _ _ _ (@CT.cmp _ _ _ _ _ _ _ (@cv _ _ _ _ rfl (by decide)) (@cv _ _ _ _ rfl (by decide)) rfl) (@CSs.cons _ _ _ _ _ (@CS.expr _ _ _ _ (@CE.vcall _ _ _ _ _ _ _ rfl (by decide) (by decide) (CEs.cons (@cv _ _ _ _ rfl (by decide)) (CEs.cons (@CE.tuple _ _ _ _ _ (CEs.cons (@cv _ _ _ _ rfl (by decide)) (CEs.cons (@cv _ _ _ _ rfl (by decide)) CEs.nil (fun _=> rfl)) (fun _=> rfl))) CEs.nil (fun _=> rfl)) (fun _=> rfl))) (fun _=> rfl)) (@CSs.cons _ _ _ _ _ (@CS.assignT _ _ _ _ _ _ _ _ (CGs.cons rfl (by decide) (CGs.cons rfl (by decide) CGs.nil)) (@CE.sub _ _ _ _ _ _ (@cv _ _ _ _ rfl (by decide)) (@CE.int _ _ _ _) (fun _ _=> rfl)) (fun _=> rfl) (fun _=> rfl)) (@CSs.cons _ _ _ _ _ (@CS.aug _ _ _ _ _ _ _ _ rfl (by decide) (by decide) (by decide) (@CE.int _ _ _ _)) (@CSs.nil _)))) (@CSs.nil _)) (@CSs.nil _))) (@CSs.cons _ _ _ _ _ (@CS.expr _ _ _ _ (@CE.meth _ _ _ _ _ _ _ _ _ rfl (by decide) (by decide) (fun _=> rfl) (@cv _ _ _ _ rfl (by decide)) CEs.nil) (fun _=> rfl)) (@CSs.cons _ _ _ _ _ (@CS.ret _ _ _ _ (@CE.comp _ _ _ _ _ _ _ _ _ _ _ _ _ ⟨by decide,rfl,by decide,(CI.plain (@cv _ _ _ _ rfl (by decide)) (fun _ _=> rfl)),(by intro h;cases h),(CG.tup (CGs.cons rfl (by decide) (CGs.cons rfl (by decide) CGs.nil))),(@cv _ _ _ _ rfl (by decide)),CTs.nil⟩)) (@CSs.nil _))))))))))) (@CSs.nil _)) (@CSs.cons _ _ _ _ _ (@CS.assign _ _ _ _ _ _ _ rfl (by decide) (@CE.call _ _ _ _ _ _ _ rfl (by decide) (CEs.cons (@cv _ _ _ _ rfl (by decide)) CEs.nil (fun _=> rfl))) (fun _=> rfl)) (@CSs.cons _ _ _ _ _ (@CS.zipc _ _ _ _ _ _ _ _ _ _ _ _ _ _ _ _ _ _ _ _ _ _ _ _ _ _ _ rfl (by decide) ⟨by decide,rfl,by decide,by decide,rfl,rfl,by decide,by decide,by decide,rfl,by decide,(CEs.cons (@CE.call _ _ _ _ _ _ _ rfl (by decide) (CEs.cons (@cv _ _ _ _ rfl (by decide)) CEs.nil (fun _=> rfl))) (CEs.cons (@cv _ _ _ _ rfl (by decide)) CEs.nil (fun _=> rfl)) (fun _=> rfl)),(CEs.cons (@CE.vcall _ _ _ _ _ _ _ rfl (by decide) (by decide) (CEs.cons (@cv _ _ _ _ rfl (by decide)) CEs.nil (fun _=> rfl))) (CEs.cons (@cv _ _ _ _ rfl (by decide)) (CEs.cons (@cv _ _ _ _ rfl (by decide)) CEs.nil (fun _=> rfl)) (fun _=> rfl)) (fun _=> rfl))⟩) (@CSs.cons _ _ _ _ _ (@CS.ifs _ _ _ _ _ _ _ _ (@CT.not _ _ _ _ (@CT.var _ _ _ _ (@cv _ _ _ _ rfl (by decide)))) (@CSs.cons _ _ _ _ _ (@CS.ret _ _ _ _ (@cv _ _ _ _ rfl (by decide))) (@CSs.nil _)) (@CSs.nil _)) (@CSs.cons _ _ _ _ _ (@CS.expr _ _ _ _ (@CE.ucall _ _ _ _ _ _ _ rfl (by decide) (by decide) (by decide) (CEs.cons (@cv _ _ _ _ rfl (by decide)) CEs.nil (fun _=> rfl))) (fun _=> rfl)) (@CSs.cons _ _ _ _ _ (@CS.assign _ _ _ _ _ _ _ rfl (by decide) (@CE.sub _ _ _ _ _ _ (@CE.sub _ _ _ _ _ _ (@cv _ _ _ _ rfl (by decide)) (@CE.int _ _ _ _) (fun _ _=> rfl)) (@CE.int _ _ _ _) (fun _ _=> rfl)) (fun _=> rfl)) (@CSs.cons _ _ _ _ _ (@CS.assign _ _ _ _ _ _ _ rfl (by decide) (@cv _ _ _ _ rfl (by decide)) (fun _=> rfl)) (@CSs.cons _ _ _ _ _ (@CS.assign _ _ _ _ _ _ _ rfl (by decide) (@CE.gfn _ _ _ _ rfl (by decide) (by decide)) (fun _=> rfl)) (@CSs.cons _ _ _ _ _ (@CS.forx _ _ _ _ _ _ _ _ _ rfl (by decide) (@cv _ _ _ _ rfl (by decide)) (fun _ _=> rfl) (@CSs.cons _ _ _ _ _ (@CS.assign _ _ _ _ _ _ _ rfl (by decide) (@CE.vcall _ _ _ _ _ _ _ rfl (by decide) (by decide) (CEs.cons (@cv _ _ _ _ rfl (by decide)) CEs.nil (fun _=> rfl))) (fun _=> rfl)) (@CSs.cons _ _ _ _ _ (@CS.ifs _ _ _ _ _ _ _ _ (@CT.cmp _ _ _ _ _ _ _ (@cv _ _ _ _ rfl (by decide)) (@cv _ _ _ _ rfl (by decide)) rfl) (@CSs.cons _ _ _ _ _ (@CS.expr _ _ _ _ (@CE.vcall _ _ _ _ _ _ _ rfl (by decide) (by decide) (CEs.cons (@cv _ _ _ _ rfl (by decide)) (CEs.cons (@CE.tuple _ _ _ _ _ (CEs.cons (@cv _ _ _ _ rfl (by decide)) (CEs.cons (@cv _ _ _ _ rfl (by decide)) (CEs.cons (@cv _ _ _ _ rfl (by decide)) CEs.nil (fun _=> rfl)) (fun _=> rfl)) (fun _=> rfl))) CEs.nil (fun _=> rfl)) (fun _=> rfl))) (fun _=> rfl)) (@CSs.cons _ _ _ _ _ (@CS.assignT _ _ _ _ _ _ _ _ (CGs.cons rfl (by decide) (CGs.cons rfl (by decide) (CGs.cons rfl (by decide) CGs.nil))) (@CE.sub _ _ _ _ _ _ (@cv _ _ _ _ rfl (by decide)) (@CE.int _ _ _ _) (fun _ _=> rfl)) (fun _=> rfl) (fun _=> rfl)) (@CSs.cons _ _ _ _ _ (@CS.aug _ _ _ _ _ _ _ _ rfl (by decide) (by decide) (by decide) (@CE.int _ _ _ _)) (@CSs.nil _)))) (@CSs.nil _)) (@CSs.nil _)))) (@CSs.cons _ _ _ _ _ (@CS.expr _ _ _ _ (@CE.meth _ _ _ _ _ _ _ _ _ rfl (by decide) (by decide) (fun _=> rfl) (@cv _ _ _ _ rfl (by decide)) CEs.nil) (fun _=> rfl)) (@CSs.cons _ _ _ _ _ (@CS.ret _ _ _ _ (@CE.comp _ _ _ _ _ _ _ _ _ _ _ _ _ ⟨by decide,rfl,by decide,(CI.plain (@cv _ _ _ _ rfl (by decide)) (fun _ _=> rfl)),(by intro h;cases h),(CG.tup (CGs.cons rfl (by decide) (CGs.cons rfl (by decide) (CGs.cons rfl (by decide) CGs.nil)))),(@cv _ _ _ _ rfl (by decide)),CTs.nil⟩)) (@CSs.nil _))))))))))))))
theorem fr_ns (cd: Option (Addr × Str)) (a b c: V): initF { sc:= (defAt PySem.Challenge.pw_dm0137_09 5).2.2.names,fns:= fns09,code:= cd } (["n","iterable","key"]: List Str) [a,b,c] = [a,b,c].map some ++ [none,none,none,none,none,none,none,none,none,none,none]:= by first | rfl | kernel_rfl
theorem at_ns {mg: Str -> Option Value} {h₀: Heap} (h: ShownD mg h₀ "nsmallest" (recIn vw09 "nsmallest")): AtDefD mg h₀ "nsmallest" (defAt PySem.Challenge.pw_dm0137_09 5) fns09 (["n","iterable","key"]: List Str) ps_ns:= by
 obtain ⟨a,o,pm,cd,doc,T,oT,n,h1,h2,h3,h4,h5,h6⟩:= h
 obtain ⟨e1,e2,e3⟩:= bd_ns
 refine ⟨a,o,_,h1,h2,h3,h4,e1,e3,⟨congrArg FuncBody.stmts e2,fun s hs vals hv=> ?_,rfl,rfl,rfl,?_,?_,?_,?_,?_,?_,by decide,?_⟩,T,oT,n,rfl,h5,h6⟩
 ·skip
  obtain ⟨x0,t0,rfl,q0⟩:= len_cons (n:= 2) hv
  obtain ⟨x1,t1,rfl,q1⟩:= len_cons (n:= 1) q0
  obtain ⟨x2,t2,rfl,q2⟩:= len_cons (n:= 0) q1
  obtain rfl:= List.eq_nil_of_length_eq_zero q2
  exact BA.to (ba1 _ e1 x0 x1 x2) rfl (hs _ _ h5) h6
 ·show (recIn vw09 "nsmallest").scope.isCoroutine = false
  rw [e3];rfl
 ·show (recIn vw09 "nsmallest").scope.isGenerator = false
  rw [e3];rfl
 ·show (recIn vw09 "nsmallest").scope.kind = .function
  rw [e3];rfl
 ·show ((recIn vw09 "nsmallest").scope.names.map (·.1)).Nodup
  rw [e3];decide +kernel
 ·show ∀ x ∈ (recIn vw09 "nsmallest").scope.names,x.2 ≠ .free
  rw [e3];decide +kernel
 ·show ∀ x ∈ (["n","iterable","key"]: List Str),(recIn vw09 "nsmallest").scope.names.lookup x = some .local \/ (recIn vw09 "nsmallest").scope.names.lookup x = some .cell
  rw [e3];decide +kernel
 ·show CB { sc:= (recIn vw09 "nsmallest").scope.names,fns:= fns09,code:= _ } _ _
  rw [e3];exact CSs.body (CSs.code cs_ns _)
theorem def_lt: defOf vw09 "_law_told" = some ((recIn vw09 "_law_told"),[]):= by kernel_rfl
theorem bd_lt: (recIn vw09 "_law_told").params = (defAt PySem.Challenge.pw_dm0137_09 7).1 /\ (recIn vw09 "_law_told").body = (defAt PySem.Challenge.pw_dm0137_09 7).2.1 /\ (recIn vw09 "_law_told").scope = (defAt PySem.Challenge.pw_dm0137_09 7).2.2:= ⟨by kernel_rfl,by kernel_rfl,by kernel_rfl⟩
theorem bind_lt (fd: FuncData) (h1: fd.params = (defAt PySem.Challenge.pw_dm0137_09 7).1) (h2: fd.defaults = .none) (h3: fd.kwdefaults = .none): ∀ vals: List Value,vals.length = (["listed","wish","roots","below","worths"]: List Str).length -> bindArgs fd ⟨vals,[]⟩ = pure ((["listed","wish","roots","below","worths"]: List Str).zip vals):= by
 intro vals hv
 obtain ⟨x0,t0,rfl,q0⟩:= len_cons (n:= 4) hv
 obtain ⟨x1,t1,rfl,q1⟩:= len_cons (n:= 3) q0
 obtain ⟨x2,t2,rfl,q2⟩:= len_cons (n:= 2) q1
 obtain ⟨x3,t3,rfl,q3⟩:= len_cons (n:= 1) q2
 obtain ⟨x4,t4,rfl,q4⟩:= len_cons (n:= 0) q3
 obtain rfl:= List.eq_nil_of_length_eq_zero q4
 unfold bindArgs
 rw [h1,h2,h3]
 rfl
theorem cs_lt (cd: Option (Addr × Str)): CB { sc:= (defAt PySem.Challenge.pw_dm0137_09 7).2.2.names,fns:= fns09,code:= cd } (defAt PySem.Challenge.pw_dm0137_09 7).2.1 (ps_told cd key09.2.2.2 LK):= by
 unfold ps_told
 exact (CB.cons (@CS.code _ _ _ _ (@CS.assign _ _ _ _ _ _ _ rfl (by decide) (@CE.call _ _ _ _ _ _ _ rfl (by decide) (CEs.cons (@cv _ _ _ _ rfl (by decide)) CEs.nil (fun _=> rfl))) (fun _=> rfl)) cd) (CB.cons (@CS.code _ _ _ _ (@CS.assign _ _ _ _ _ _ _ rfl (by decide) (@CE.list _ _ _ _ CEs.nil) (fun _=> rfl)) cd) (CB.nest rfl told_loc told_fs told_sc told_hfs told_hfree rfl rfl (fun _=> rfl) (fun cl qual doc pm cdv ctv h1 h2=> ⟨h1,h2,qual,doc,pm,cdv,ctv,rfl⟩) (@CSs.body _ _ _ (@CSs.code _ _ _ _ told_rest cd)))))
theorem fr_lt (cd: Option (Addr × Str)) (a b c d e: V): initF { sc:= (defAt PySem.Challenge.pw_dm0137_09 7).2.2.names,fns:= fns09,code:= cd } (["listed","wish","roots","below","worths"]: List Str) [a,b,c,d,e] = [a,b,c,d,e].map some ++ [none,none,none,none]:= by first | rfl | kernel_rfl
theorem at_lt {mg: Str -> Option Value} {h₀: Heap} (h: Shown mg h₀ "_law_told" (recIn vw09 "_law_told")): AtDefL mg h₀ "_law_told" (defAt PySem.Challenge.pw_dm0137_09 7) fns09 (["listed","wish","roots","below","worths"]: List Str) (fun cd=> (ps_told cd key09.2.2.2 LK)):= by
 obtain ⟨a,o,pm,cd,doc,h1,h2,h3,h4⟩:= h
 obtain ⟨e1,e2,e3⟩:= bd_lt
 refine ⟨a,o,_,h1,h2,h3,h4,e1,e3,⟨congrArg FuncBody.stmts e2,fun s hs vals hv=> BindsTo.of_eq (bind_lt _ e1 rfl rfl vals hv),rfl,rfl,rfl,?_,?_,?_,?_,?_,?_,by decide,?_⟩⟩
 ·show (recIn vw09 "_law_told").scope.isCoroutine = false
  rw [e3];rfl
 ·show (recIn vw09 "_law_told").scope.isGenerator = false
  rw [e3];rfl
 ·show (recIn vw09 "_law_told").scope.kind = .function
  rw [e3];rfl
 ·show ((recIn vw09 "_law_told").scope.names.map (·.1)).Nodup
  rw [e3];decide +kernel
 ·show ∀ x ∈ (recIn vw09 "_law_told").scope.names,x.2 ≠ .free
  rw [e3];decide +kernel
 ·show ∀ x ∈ (["listed","wish","roots","below","worths"]: List Str),(recIn vw09 "_law_told").scope.names.lookup x = some .local \/ (recIn vw09 "_law_told").scope.names.lookup x = some .cell
  rw [e3];decide +kernel
 ·show CB { sc:= (recIn vw09 "_law_told").scope.names,fns:= fns09,code:= _ } _ _
  rw [e3];exact cs_lt _
theorem def_ld: defOf vw09 "_law_due" = some ((recIn vw09 "_law_due"),[]):= by kernel_rfl
theorem bd_ld: (recIn vw09 "_law_due").params = (defAt PySem.Challenge.pw_dm0137_09 8).1 /\ (recIn vw09 "_law_due").body = (defAt PySem.Challenge.pw_dm0137_09 8).2.1 /\ (recIn vw09 "_law_due").scope = (defAt PySem.Challenge.pw_dm0137_09 8).2.2:= ⟨by kernel_rfl,by kernel_rfl,by kernel_rfl⟩
theorem bind_ld (fd: FuncData) (h1: fd.params = (defAt PySem.Challenge.pw_dm0137_09 8).1) (h2: fd.defaults = .none) (h3: fd.kwdefaults = .none): ∀ vals: List Value,vals.length = (["listed","wish","roots","below","worths","order"]: List Str).length -> bindArgs fd ⟨vals,[]⟩ = pure ((["listed","wish","roots","below","worths","order"]: List Str).zip vals):= by
 intro vals hv
 obtain ⟨x0,t0,rfl,q0⟩:= len_cons (n:= 5) hv
 obtain ⟨x1,t1,rfl,q1⟩:= len_cons (n:= 4) q0
 obtain ⟨x2,t2,rfl,q2⟩:= len_cons (n:= 3) q1
 obtain ⟨x3,t3,rfl,q3⟩:= len_cons (n:= 2) q2
 obtain ⟨x4,t4,rfl,q4⟩:= len_cons (n:= 1) q3
 obtain ⟨x5,t5,rfl,q5⟩:= len_cons (n:= 0) q4
 obtain rfl:= List.eq_nil_of_length_eq_zero q5
 unfold bindArgs
 rw [h1,h2,h3]
 rfl
theorem cs_ld: CSs { sc:= (defAt PySem.Challenge.pw_dm0137_09 8).2.2.names,fns:= fns09 } (defAt PySem.Challenge.pw_dm0137_09 8).2.1 ps_due:= by
 unfold ps_due
 exact (@CSs.cons _ _ _ _ _ (@CS.ifs _ _ _ _ _ _ _ _ (@CT.cmp _ _ _ _ _ _ _ (@cv _ _ _ _ rfl (by decide)) (@CE.int _ _ _ _) rfl) (@CSs.cons _ _ _ _ _ (@CS.ret _ _ _ _ (@CE.list _ _ _ _ (CEs.cons (@CE.list _ _ _ _ CEs.nil) (CEs.cons (@CE.list _ _ _ _ CEs.nil) (CEs.cons (@cv _ _ _ _ rfl (by decide)) CEs.nil (fun _=> rfl)) (fun _=> rfl)) (fun _=> rfl)))) (@CSs.nil _)) (@CSs.nil _)) (@CSs.cons _ _ _ _ _ (@CS.assign _ _ _ _ _ _ _ rfl (by decide) (@cv _ _ _ _ rfl (by decide)) (fun _=> rfl)) (@CSs.cons _ _ _ _ _ (@CS.assign _ _ _ _ _ _ _ rfl (by decide) (@cv _ _ _ _ rfl (by decide)) (fun _=> rfl)) (@CSs.cons _ _ _ _ _ (@CS.ifs _ _ _ _ _ _ _ _ (@CT.and _ _ _ _ _ _ (@CT.var _ _ _ _ (@cv _ _ _ _ rfl (by decide))) (@CT.cmp _ _ _ _ _ _ _ (@cv _ _ _ _ rfl (by decide)) (@CE.call _ _ _ _ _ _ _ rfl (by decide) (CEs.cons (@cv _ _ _ _ rfl (by decide)) CEs.nil (fun _=> rfl))) rfl)) (@CSs.cons _ _ _ _ _ (@CS.assign _ _ _ _ _ _ _ rfl (by decide) (@cv _ _ _ _ rfl (by decide)) (fun _=> rfl)) (@CSs.cons _ _ _ _ _ (@CS.assign _ _ _ _ _ _ _ rfl (by decide) (@CE.bin _ _ _ _ _ _ _ (@cv _ _ _ _ rfl (by decide)) (@CE.comp2 _ _ _ _ _ _ _ _ _ _ _ _ _ _ _ _ ⟨by decide,rfl,by decide,(CI.plain (@cv _ _ _ _ rfl (by decide)) (fun _ _=> rfl)),rfl,rfl,by decide,by decide,by decide,(@CE.sub _ _ _ _ _ _ (@cv _ _ _ _ rfl (by decide)) (@cv _ _ _ _ rfl (by decide)) (fun _ _=> rfl)),(fun _ _=> rfl),(@cv _ _ _ _ rfl (by decide))⟩)) (fun _=> rfl)) (@CSs.nil _))) (@CSs.nil _)) (@CSs.cons _ _ _ _ _ (@CS.assign _ _ _ _ _ _ _ rfl (by decide) (@CE.slice _ _ _ _ _ _ _ _ _ _ _ (@CE.call _ _ _ _ _ _ _ rfl (by decide) (CEs.cons (@CE.comp _ _ _ _ _ _ _ _ _ _ _ _ _ ⟨by decide,rfl,by decide,(CI.plain (@CE.call _ _ _ _ _ _ _ rfl (by decide) (CEs.cons (@CE.call _ _ _ _ _ _ _ rfl (by decide) (CEs.cons (@cv _ _ _ _ rfl (by decide)) CEs.nil (fun _=> rfl))) CEs.nil (fun _=> rfl))) (fun _ _=> rfl)),(by intro h;cases h),(CG.name rfl (by decide)),(@CE.tuple _ _ _ _ _ (CEs.cons (@CE.sub _ _ _ _ _ _ (@cv _ _ _ _ rfl (by decide)) (@CE.sub _ _ _ _ _ _ (@cv _ _ _ _ rfl (by decide)) (@cv _ _ _ _ rfl (by decide)) (fun _ _=> rfl)) (fun _ _=> rfl)) (CEs.cons (@cv _ _ _ _ rfl (by decide)) CEs.nil (fun _=> rfl)) (fun _=> rfl))),CTs.nil⟩) CEs.nil (fun _=> rfl))) CO.none (CO.some (@cv _ _ _ _ rfl (by decide))) CO.none) (fun _=> rfl)) (@CSs.cons _ _ _ _ _ (@CS.ret _ _ _ _ (@CE.list _ _ _ _ (CEs.cons (@CE.comp _ _ _ _ _ _ _ _ _ _ _ _ _ ⟨by decide,rfl,by decide,(CI.plain (@cv _ _ _ _ rfl (by decide)) (fun _ _=> rfl)),(by intro h;cases h),(CG.tup (CGs.cons rfl (by decide) (CGs.cons rfl (by decide) CGs.nil))),(@CE.sub _ _ _ _ _ _ (@cv _ _ _ _ rfl (by decide)) (@cv _ _ _ _ rfl (by decide)) (fun _ _=> rfl)),CTs.nil⟩) (CEs.cons (@cv _ _ _ _ rfl (by decide)) (CEs.cons (@cv _ _ _ _ rfl (by decide)) CEs.nil (fun _=> rfl)) (fun _=> rfl)) (fun _=> rfl)))) (@CSs.nil _)))))))
theorem fr_ld (cd: Option (Addr × Str)) (a b c d e f: V): initF { sc:= (defAt PySem.Challenge.pw_dm0137_09 8).2.2.names,fns:= fns09,code:= cd } (["listed","wish","roots","below","worths","order"]: List Str) [a,b,c,d,e,f] = [a,b,c,d,e,f].map some ++ [none,none,none]:= by first | rfl | kernel_rfl
theorem at_ld {mg: Str -> Option Value} {h₀: Heap} (h: Shown mg h₀ "_law_due" (recIn vw09 "_law_due")): AtDef mg h₀ "_law_due" (defAt PySem.Challenge.pw_dm0137_09 8) fns09 (["listed","wish","roots","below","worths","order"]: List Str) ps_due:= by
 obtain ⟨a,o,pm,cd,doc,h1,h2,h3,h4⟩:= h
 obtain ⟨e1,e2,e3⟩:= bd_ld
 refine ⟨a,o,_,h1,h2,h3,h4,e1,e3,⟨congrArg FuncBody.stmts e2,fun s hs vals hv=> BindsTo.of_eq (bind_ld _ e1 rfl rfl vals hv),rfl,rfl,rfl,?_,?_,?_,?_,?_,?_,by decide,?_⟩⟩
 ·show (recIn vw09 "_law_due").scope.isCoroutine = false
  rw [e3];rfl
 ·show (recIn vw09 "_law_due").scope.isGenerator = false
  rw [e3];rfl
 ·show (recIn vw09 "_law_due").scope.kind = .function
  rw [e3];rfl
 ·show ((recIn vw09 "_law_due").scope.names.map (·.1)).Nodup
  rw [e3];decide +kernel
 ·show ∀ x ∈ (recIn vw09 "_law_due").scope.names,x.2 ≠ .free
  rw [e3];decide +kernel
 ·show ∀ x ∈ (["listed","wish","roots","below","worths","order"]: List Str),(recIn vw09 "_law_due").scope.names.lookup x = some .local \/ (recIn vw09 "_law_due").scope.names.lookup x = some .cell
  rw [e3];decide +kernel
 ·show CB { sc:= (recIn vw09 "_law_due").scope.names,fns:= fns09,code:= _ } _ _
  rw [e3];exact CSs.body (CSs.code cs_ld _)
theorem def_law: defOf vw09 "law" = some ((recIn vw09 "law"),[]):= by kernel_rfl
theorem bd_law: (recIn vw09 "law").params = (defAt PySem.Challenge.pw_dm0137_09 9).1 /\ (recIn vw09 "law").body = (defAt PySem.Challenge.pw_dm0137_09 9).2.1 /\ (recIn vw09 "law").scope = (defAt PySem.Challenge.pw_dm0137_09 9).2.2:= ⟨by kernel_rfl,by kernel_rfl,by kernel_rfl⟩
theorem bind_law (fd: FuncData) (h1: fd.params = (defAt PySem.Challenge.pw_dm0137_09 9).1) (h2: fd.defaults = .none) (h3: fd.kwdefaults = .none): ∀ vals: List Value,vals.length = (["script"]: List Str).length -> bindArgs fd ⟨vals,[]⟩ = pure ((["script"]: List Str).zip vals):= by
 intro vals hv
 obtain ⟨x0,t0,rfl,q0⟩:= len_cons (n:= 0) hv
 obtain rfl:= List.eq_nil_of_length_eq_zero q0
 unfold bindArgs
 rw [h1,h2,h3]
 rfl
theorem cs_law: CSs { sc:= (defAt PySem.Challenge.pw_dm0137_09 9).2.2.names,fns:= fns09 } (defAt PySem.Challenge.pw_dm0137_09 9).2.1 ps_law09:= by
 unfold ps_law09
 exact (@CSs.cons _ _ _ _ _ (@CS.assign _ _ _ _ _ _ _ rfl (by decide) (@CE.bin _ _ _ _ _ _ _ (@CE.list _ _ _ _ (CEs.cons (@CE.int _ _ _ _) (CEs.cons (@CE.int _ _ _ _) (CEs.cons (@CE.int _ _ _ _) (CEs.cons (@CE.int _ _ _ _) CEs.nil (fun _=> rfl)) (fun _=> rfl)) (fun _=> rfl)) (fun _=> rfl))) (@cv _ _ _ _ rfl (by decide))) (fun _=> rfl)) (@CSs.cons _ _ _ _ _ (@CS.assign _ _ _ _ _ _ _ rfl (by decide) (@CE.list _ _ _ _ CEs.nil) (fun _=> rfl)) (@CSs.cons _ _ _ _ _ (@CS.assignC _ _ _ _ _ _ _ _ _ _ _ _ _ _ _ _ _ rfl (by decide) ⟨by decide,rfl,by decide,(CI.plain (@cv _ _ _ _ rfl (by decide)) (fun _ _=> rfl)),(by intro h;cases h),(CG.name rfl (by decide)),(@CE.list _ _ _ _ CEs.nil),CTs.nil⟩) (@CSs.cons _ _ _ _ _ (@CS.assign _ _ _ _ _ _ _ rfl (by decide) (@CE.list _ _ _ _ CEs.nil) (fun _=> rfl)) (@CSs.cons _ _ _ _ _ (@CS.assign _ _ _ _ _ _ _ rfl (by decide) (@CE.list _ _ _ _ CEs.nil) (fun _=> rfl)) (@CSs.cons _ _ _ _ _ (@CS.for _ _ _ _ _ _ _ _ _ (CG.name rfl (by decide)) (CI.plain (@CE.call _ _ _ _ _ _ _ rfl (by decide) (CEs.cons (@CE.call _ _ _ _ _ _ _ rfl (by decide) (CEs.cons (@cv _ _ _ _ rfl (by decide)) CEs.nil (fun _=> rfl))) CEs.nil (fun _=> rfl))) (fun _ _=> rfl)) ((by intro h;cases h)) (@CSs.cons _ _ _ _ _ (@CS.assign _ _ _ _ _ _ _ rfl (by decide) (@CE.bin _ _ _ _ _ _ _ (@CE.bin _ _ _ _ _ _ _ (@CE.sub _ _ _ _ _ _ (@cv _ _ _ _ rfl (by decide)) (@cv _ _ _ _ rfl (by decide)) (fun _ _=> rfl)) (@CE.bin _ _ _ _ _ _ _ (@cv _ _ _ _ rfl (by decide)) (@CE.int _ _ _ _))) (@CE.int _ _ _ _)) (fun _=> rfl)) (@CSs.cons _ _ _ _ _ (@CS.ifs _ _ _ _ _ _ _ _ (@CT.cmp _ _ _ _ _ _ _ (@cv _ _ _ _ rfl (by decide)) (@CE.int _ _ _ _) rfl) (@CSs.cons _ _ _ _ _ (@CS.expr _ _ _ _ (@CE.meth _ _ _ _ _ _ _ _ _ rfl (by decide) (by decide) (fun _=> rfl) (@cv _ _ _ _ rfl (by decide)) (CEs.cons (@cv _ _ _ _ rfl (by decide)) CEs.nil (fun _=> rfl))) (fun _=> rfl)) (@CSs.cons _ _ _ _ _ (@CS.expr _ _ _ _ (@CE.meth _ _ _ _ _ _ _ _ _ rfl (by decide) (by decide) (fun _=> rfl) (@cv _ _ _ _ rfl (by decide)) (CEs.cons (@CE.list _ _ _ _ (CEs.cons (@cv _ _ _ _ rfl (by decide)) CEs.nil (fun _=> rfl))) CEs.nil (fun _=> rfl))) (fun _=> rfl)) (@CSs.nil _))) (@CSs.cons _ _ _ _ _ (@CS.expr _ _ _ _ (@CE.meth _ _ _ _ _ _ _ _ _ rfl (by decide) (by decide) (fun _=> rfl) (@CE.sub _ _ _ _ _ _ (@cv _ _ _ _ rfl (by decide)) (@cv _ _ _ _ rfl (by decide)) (fun _ _=> rfl)) (CEs.cons (@cv _ _ _ _ rfl (by decide)) CEs.nil (fun _=> rfl))) (fun _=> rfl)) (@CSs.cons _ _ _ _ _ (@CS.expr _ _ _ _ (@CE.meth _ _ _ _ _ _ _ _ _ rfl (by decide) (by decide) (fun _=> rfl) (@cv _ _ _ _ rfl (by decide)) (CEs.cons (@CE.bin _ _ _ _ _ _ _ (@CE.sub _ _ _ _ _ _ (@cv _ _ _ _ rfl (by decide)) (@cv _ _ _ _ rfl (by decide)) (fun _ _=> rfl)) (@CE.list _ _ _ _ (CEs.cons (@cv _ _ _ _ rfl (by decide)) CEs.nil (fun _=> rfl)))) CEs.nil (fun _=> rfl))) (fun _=> rfl)) (@CSs.nil _)))) (@CSs.cons _ _ _ _ _ (@CS.assign _ _ _ _ _ _ _ rfl (by decide) (@CE.bin _ _ _ _ _ _ _ (@CE.sub _ _ _ _ _ _ (@cv _ _ _ _ rfl (by decide)) (@cv _ _ _ _ rfl (by decide)) (fun _ _=> rfl)) (@CE.bin _ _ _ _ _ _ _ (@cv _ _ _ _ rfl (by decide)) (@CE.int _ _ _ _))) (fun _=> rfl)) (@CSs.cons _ _ _ _ _ (@CS.ifs _ _ _ _ _ _ _ _ (@CT.cmp _ _ _ _ _ _ _ (@CE.bin _ _ _ _ _ _ _ (@CE.call _ _ _ _ _ _ _ rfl (by decide) (CEs.cons (@cv _ _ _ _ rfl (by decide)) CEs.nil (fun _=> rfl))) (@CE.int _ _ _ _)) (@CE.int _ _ _ _) rfl) (@CSs.cons _ _ _ _ _ (@CS.assign _ _ _ _ _ _ _ rfl (by decide) (@CE.bin _ _ _ _ _ _ _ (@cv _ _ _ _ rfl (by decide)) (@CE.int _ _ _ _)) (fun _=> rfl)) (@CSs.nil _)) (@CSs.nil _)) (@CSs.cons _ _ _ _ _ (@CS.expr _ _ _ _ (@CE.meth _ _ _ _ _ _ _ _ _ rfl (by decide) (by decide) (fun _=> rfl) (@cv _ _ _ _ rfl (by decide)) (CEs.cons (@cv _ _ _ _ rfl (by decide)) CEs.nil (fun _=> rfl))) (fun _=> rfl)) (@CSs.nil _))))))) (@CSs.cons _ _ _ _ _ (@CS.assignC _ _ _ _ _ _ _ _ _ _ _ _ _ _ _ _ _ rfl (by decide) ⟨by decide,rfl,by decide,(CI.plain (@CE.call _ _ _ _ _ _ _ rfl (by decide) (CEs.cons (@CE.comp _ _ _ _ _ _ _ _ _ _ _ _ _ ⟨by decide,rfl,by decide,(CI.plain (@CE.call _ _ _ _ _ _ _ rfl (by decide) (CEs.cons (@CE.call _ _ _ _ _ _ _ rfl (by decide) (CEs.cons (@cv _ _ _ _ rfl (by decide)) CEs.nil (fun _=> rfl))) CEs.nil (fun _=> rfl))) (fun _ _=> rfl)),(by intro h;cases h),(CG.name rfl (by decide)),(@CE.tuple _ _ _ _ _ (CEs.cons (@CE.call _ _ _ _ _ _ _ rfl (by decide) (CEs.cons (@CE.sub _ _ _ _ _ _ (@cv _ _ _ _ rfl (by decide)) (@cv _ _ _ _ rfl (by decide)) (fun _ _=> rfl)) CEs.nil (fun _=> rfl))) (CEs.cons (@CE.sub _ _ _ _ _ _ (@cv _ _ _ _ rfl (by decide)) (@cv _ _ _ _ rfl (by decide)) (fun _ _=> rfl)) (CEs.cons (@cv _ _ _ _ rfl (by decide)) CEs.nil (fun _=> rfl)) (fun _=> rfl)) (fun _=> rfl))),CTs.nil⟩) CEs.nil (fun _=> rfl))) (fun _ _=> rfl)),(by intro h;cases h),(CG.tup (CGs.cons rfl (by decide) (CGs.cons rfl (by decide) (CGs.cons rfl (by decide) CGs.nil)))),(@cv _ _ _ _ rfl (by decide)),CTs.nil⟩) (@CSs.cons _ _ _ _ _ (@CS.assign _ _ _ _ _ _ _ rfl (by decide) (@CE.bin _ _ _ _ _ _ _ (@CE.bin _ _ _ _ _ _ _ (@CE.bin _ _ _ _ _ _ _ (@CE.call _ _ _ _ _ _ _ rfl (by decide) (CEs.cons (@cv _ _ _ _ rfl (by decide)) CEs.nil (fun _=> rfl))) (@CE.int _ _ _ _)) (@CE.bin _ _ _ _ _ _ _ (@CE.call _ _ _ _ _ _ _ rfl (by decide) (CEs.cons (@cv _ _ _ _ rfl (by decide)) CEs.nil (fun _=> rfl))) (@CE.int _ _ _ _))) (@CE.int _ _ _ _)) (fun _=> rfl)) (@CSs.cons _ _ _ _ _ (@CS.ifs _ _ _ _ _ _ _ _ (@CT.cmp _ _ _ _ _ _ _ (@CE.ucall _ _ _ _ _ _ _ rfl (by decide) (by decide) (by decide) (CEs.cons (@CE.bool _ _ _ _) (CEs.cons (@cv _ _ _ _ rfl (by decide)) (CEs.cons (@cv _ _ _ _ rfl (by decide)) (CEs.cons (@cv _ _ _ _ rfl (by decide)) (CEs.cons (@cv _ _ _ _ rfl (by decide)) CEs.nil (fun _=> rfl)) (fun _=> rfl)) (fun _=> rfl)) (fun _=> rfl)) (fun _=> rfl))) (@CE.ucall _ _ _ _ _ _ _ rfl (by decide) (by decide) (by decide) (CEs.cons (@CE.bool _ _ _ _) (CEs.cons (@cv _ _ _ _ rfl (by decide)) (CEs.cons (@cv _ _ _ _ rfl (by decide)) (CEs.cons (@cv _ _ _ _ rfl (by decide)) (CEs.cons (@cv _ _ _ _ rfl (by decide)) (CEs.cons (@cv _ _ _ _ rfl (by decide)) CEs.nil (fun _=> rfl)) (fun _=> rfl)) (fun _=> rfl)) (fun _=> rfl)) (fun _=> rfl)) (fun _=> rfl))) rfl) (@CSs.cons _ _ _ _ _ (@CS.ret _ _ _ _ (@CE.bool _ _ _ _)) (@CSs.nil _)) (@CSs.nil _)) (@CSs.cons _ _ _ _ _ (@CS.assign _ _ _ _ _ _ _ rfl (by decide) (@CE.bin _ _ _ _ _ _ _ (@CE.bin _ _ _ _ _ _ _ (@CE.bin _ _ _ _ _ _ _ (@CE.call _ _ _ _ _ _ _ rfl (by decide) (CEs.cons (@cv _ _ _ _ rfl (by decide)) CEs.nil (fun _=> rfl))) (@CE.int _ _ _ _)) (@CE.bin _ _ _ _ _ _ _ (@CE.call _ _ _ _ _ _ _ rfl (by decide) (CEs.cons (@cv _ _ _ _ rfl (by decide)) CEs.nil (fun _=> rfl))) (@CE.int _ _ _ _))) (@CE.int _ _ _ _)) (fun _=> rfl)) (@CSs.cons _ _ _ _ _ (@CS.ret _ _ _ _ (@CE.cmp _ _ _ _ _ _ _ (@CE.ucall _ _ _ _ _ _ _ rfl (by decide) (by decide) (by decide) (CEs.cons (@CE.bool _ _ _ _) (CEs.cons (@cv _ _ _ _ rfl (by decide)) (CEs.cons (@cv _ _ _ _ rfl (by decide)) (CEs.cons (@cv _ _ _ _ rfl (by decide)) (CEs.cons (@cv _ _ _ _ rfl (by decide)) CEs.nil (fun _=> rfl)) (fun _=> rfl)) (fun _=> rfl)) (fun _=> rfl)) (fun _=> rfl))) (@CE.ucall _ _ _ _ _ _ _ rfl (by decide) (by decide) (by decide) (CEs.cons (@CE.bool _ _ _ _) (CEs.cons (@cv _ _ _ _ rfl (by decide)) (CEs.cons (@cv _ _ _ _ rfl (by decide)) (CEs.cons (@cv _ _ _ _ rfl (by decide)) (CEs.cons (@cv _ _ _ _ rfl (by decide)) (CEs.cons (@cv _ _ _ _ rfl (by decide)) CEs.nil (fun _=> rfl)) (fun _=> rfl)) (fun _=> rfl)) (fun _=> rfl)) (fun _=> rfl)) (fun _=> rfl))) rfl)) (@CSs.nil _))))))))))))
theorem fr_law (cd: Option (Addr × Str)) (a: V): initF { sc:= (defAt PySem.Challenge.pw_dm0137_09 9).2.2.names,fns:= fns09,code:= cd } (["script"]: List Str) [a] = [a].map some ++ [none,none,none,none,none,none,none,none,none,none]:= by first | rfl | kernel_rfl
theorem at_law {mg: Str -> Option Value} {h₀: Heap} (h: Shown mg h₀ "law" (recIn vw09 "law")): AtDef mg h₀ "law" (defAt PySem.Challenge.pw_dm0137_09 9) fns09 (["script"]: List Str) ps_law09:= by
 obtain ⟨a,o,pm,cd,doc,h1,h2,h3,h4⟩:= h
 obtain ⟨e1,e2,e3⟩:= bd_law
 refine ⟨a,o,_,h1,h2,h3,h4,e1,e3,⟨congrArg FuncBody.stmts e2,fun s hs vals hv=> BindsTo.of_eq (bind_law _ e1 rfl rfl vals hv),rfl,rfl,rfl,?_,?_,?_,?_,?_,?_,by decide,?_⟩⟩
 ·show (recIn vw09 "law").scope.isCoroutine = false
  rw [e3];rfl
 ·show (recIn vw09 "law").scope.isGenerator = false
  rw [e3];rfl
 ·show (recIn vw09 "law").scope.kind = .function
  rw [e3];rfl
 ·show ((recIn vw09 "law").scope.names.map (·.1)).Nodup
  rw [e3];decide +kernel
 ·show ∀ x ∈ (recIn vw09 "law").scope.names,x.2 ≠ .free
  rw [e3];decide +kernel
 ·show ∀ x ∈ (["script"]: List Str),(recIn vw09 "law").scope.names.lookup x = some .local \/ (recIn vw09 "law").scope.names.lookup x = some .cell
  rw [e3];decide +kernel
 ·show CB { sc:= (recIn vw09 "law").scope.names,fns:= fns09,code:= _ } _ _
  rw [e3];exact CSs.body (CSs.code cs_law _)
theorem free09: ∀ x ∈ freeNames,x ∉ startupNames /\ x ∉ (looseW vw09 []) /\ x ∉ (recsOf vw09).map (·.name) /\ x ∉ (litsOf vw09).map (·.1) /\ x ∉ (clssOf vw09 (looseW vw09 [])).map (·.name):= by decide +kernel
theorem names09 {w: World} {h₀: Heap} {mg mb: Str -> Option Value} (Gd: Gnd PySem.Challenge.rw_dm0137_09.row.prog h₀ mg mb) (hbi: ∀ x ∈ freeNames,mg x = none)
  (F: ∀ name d,defOf vw09 name = some (d,[]) -> d.params.defaults = [] -> Shown mg h₀ name d) (FD: ∀ name d,defOf vw09 name = some (d,[]) -> (∃ e,d.params.defaults = [e] /\ literalOfW? e = some .none) -> ShownD mg h₀ name d)
  (ca P: Addr) (qn: Str) (hca: CodeHd h₀ ca P) (hbt: h₀.BuiltinsAt mg P) (hco: ∀ a o fd,mg "_law_told" = some (.ref a) -> h₀.get? a = some o -> o.data = .func fd -> codeOf fd = some (ca,qn)): ∃ (Φ: Fns) (KC: FuncData -> List V -> (V -> Hp -> Prop) -> Hp -> Prop),NamesOk PySem.Challenge.rw_dm0137_09.row.prog w h₀ mg 9 fns09 Φ /\ (∀ args Q σ,less (toldC key09.2.2.2 (ca,qn) P) args Q σ -> Φ 5 args Q σ) /\ (∀ args Q σ,dueC args Q σ -> Φ 6 args Q σ):= by
 obtain ⟨a0,o0,fd0,m0,g0,d0,c0,p0,s0,D0⟩:= at_sd (F _ _ def_sd (by rw [bd_sd.1];rfl))
 obtain ⟨a1,o1,fd1,m1,g1,d1,c1,p1,s1,D1⟩:= at_su (F _ _ def_su (by rw [bd_su.1];rfl))
 obtain ⟨a2,o2,fd2,m2,g2,d2,c2,p2,s2,D2⟩:= at_hr (F _ _ def_hr (by rw [bd_hr.1];rfl))
 obtain ⟨a3,o3,fd3,m3,g3,d3,c3,p3,s3,D3⟩:= at_hf (F _ _ def_hf (by rw [bd_hf.1];rfl))
 obtain ⟨a4,o4,fd4,m4,g4,d4,c4,p4,s4,D4,T,oT,nT,t1,t2,t3⟩:= at_ns (FD _ _ def_ns (by rw [bd_ns.1];exact ⟨_,rfl,rfl⟩))
 obtain ⟨a5,o5,fd5,m5,g5,d5,c5,p5,s5,D5⟩:= at_lt (F _ _ def_lt (by rw [bd_lt.1];rfl))
 obtain ⟨a6,o6,fd6,m6,g6,d6,c6,p6,s6,D6⟩:= at_ld (F _ _ def_ld (by rw [bd_ld.1];rfl))
 obtain ⟨a7,o7,fd7,m7,g7,d7,c7,p7,s7,D7⟩:= at_law (F _ _ def_law (by rw [bd_law.1];rfl))
 have mk: ∀ (n: Nat) (L: List (List V -> (V -> Hp -> Prop) -> Hp -> Prop)) (cv: List V -> (V -> Hp -> Prop) -> Hp -> Prop),FnOk PySem.Challenge.rw_dm0137_09.row.prog w h₀ n (.ref a0) (Φs L 0) -> FnOk PySem.Challenge.rw_dm0137_09.row.prog w h₀ n (.ref a1) (Φs L 1) -> FnOk PySem.Challenge.rw_dm0137_09.row.prog w h₀ n (.ref a2) (Φs L 2) -> FnOk PySem.Challenge.rw_dm0137_09.row.prog w h₀ n (.ref a3) (Φs L 3) -> FnOk PySem.Challenge.rw_dm0137_09.row.prog w h₀ n (.ref a4) (Φs L 4) -> FnOk PySem.Challenge.rw_dm0137_09.row.prog w h₀ n (.ref a5) (Φs L 5) -> FnOk PySem.Challenge.rw_dm0137_09.row.prog w h₀ n (.ref a6) (Φs L 6) -> FnOk PySem.Challenge.rw_dm0137_09.row.prog w h₀ n (.ref a7) (Φs L 7) -> (∀ fd,FdOk PySem.Challenge.rw_dm0137_09.row.prog w h₀ n fd (fun args Q σ=> cv (.func fd :: args) Q σ)) -> NamesOk PySem.Challenge.rw_dm0137_09.row.prog w h₀ mg n fns09 (ΦL L cv (gvC fd2 fd2 2 2) (tbC ca P)):= fun n L cv f0 f1 f2 f3 f4 f5 f6 f7 hc=> by
  refine ⟨hbi,fun i x e=> ?_,hc,fun i x fa o fd e1 e2 e3 e4 σ=> ?_,fun fa o fd e1 e2 e3 s hs binds a b c=> ?_,fun a P' σ e=> by cases e;exact ⟨hca,hbt⟩⟩
  ·match i,e with
   | 0,e=> cases e;exact ⟨_,m0,f0⟩
   | 1,e=> cases e;exact ⟨_,m1,f1⟩
   | 2,e=> cases e;exact ⟨_,m2,f2⟩
   | 3,e=> cases e;exact ⟨_,m3,f3⟩
   | 4,e=> cases e;exact ⟨_,m4,f4⟩
   | 5,e=> cases e;exact ⟨_,m5,f5⟩
   | 6,e=> cases e;exact ⟨_,m6,f6⟩
   | 7,e=> cases e;exact ⟨_,m7,f7⟩
  ·refine ⟨_,_,rfl,fun q=> ?_,fun q=> ?_⟩
   ·obtain rfl: i = 2:= by omega
    obtain rfl:= Option.some.inj e1
    exact fd_uniq m2 e2 g2 e3 d2 e4
   ·obtain rfl: i = 2:= by omega
    obtain rfl:= Option.some.inj e1
    exact fd_uniq m2 e2 g2 e3 d2 e4
  ·obtain rfl:= fd_uniq m4 e1 g4 e2 d4 e3
   exact ⟨BA.swap (ba1 _ p4 a b c) (ba2 _ p4 a b c) t1 (hs _ _ t2) t3,BA.swap (ba1 _ p4 a b .none) (ba3 _ p4 a b) t1 (hs _ _ t2) t3⟩
 have N0:= mk 0 [noC,noC,noC,noC,noC,noC,noC] noC (.false g0 d0 c0) (.false g1 d1 c1) (.false g2 d2 c2) (.false g3 d3 c3) (.false g4 d4 c4) (.false g5 d5 c5) (.false g6 d6 c6) (.false g7 d7 c7) cv_no
 have LM: ∀ m,1 <= m -> ∀ fd,FdOk PySem.Challenge.rw_dm0137_09.row.prog w h₀ m fd ((keyC LK) fd):= fun m hm fd=> key09_ok Gd N0 hm fd
 have F0: ∀ m,1 <= m -> FnOk PySem.Challenge.rw_dm0137_09.row.prog w h₀ m (.ref a0) siftdownC:= fun m hm=> (fn_ok Gd N0 D0 g0 d0 c0).mono hm fun args Q σ h=> by
  have h':= h
  obtain ⟨_,_,_,_,_,_,_,_,_,e,r⟩:= h'
  subst e
  refine ⟨rfl,siftdown_v _   _ _ _ _ h ?_⟩
  rw [s0];exact fr_sd _ _ _ _
 have N1:= mk 1 [siftdownC,noC,noC,noC,noC,noC,noC] noC (F0 1 (by omega)) (.false g1 d1 c1) (.false g2 d2 c2) (.false g3 d3 c3) (.false g4 d4 c4) (.false g5 d5 c5) (.false g6 d6 c6) (.false g7 d7 c7) cv_no
 have F1: ∀ m,2 <= m -> FnOk PySem.Challenge.rw_dm0137_09.row.prog w h₀ m (.ref a1) siftupC:= fun m hm=> (fn_ok Gd N1 D1 g1 d1 c1).mono hm fun args Q σ h=> by
  have h':= h
  obtain ⟨_,_,_,_,_,_,_,_,e,r⟩:= h'
  subst e
  refine ⟨rfl,siftup_v _ 0 (fun _ _ _ h=> h) _ _ _ _ h ?_⟩
  rw [s1];exact fr_su _ _ _
 have N2:= mk 2 [siftdownC,siftupC,noC,noC,noC,noC,noC] noC (F0 2 (by omega)) (F1 2 (by omega)) (.false g2 d2 c2) (.false g3 d3 c3) (.false g4 d4 c4) (.false g5 d5 c5) (.false g6 d6 c6) (.false g7 d7 c7) cv_no
 have F2: ∀ m,3 <= m -> FnOk PySem.Challenge.rw_dm0137_09.row.prog w h₀ m (.ref a2) heapreplaceC:= fun m hm=> (fn_ok Gd N2 D2 g2 d2 c2).mono hm fun args Q σ h=> by
  have h':= h
  obtain ⟨_,_,_,_,_,_,_,_,e,r⟩:= h'
  subst e
  refine ⟨rfl,heapreplace_v _ 1 (fun _ _ _ h=> h) _ _ _ _ h ?_⟩
  rw [s2];exact fr_hr _ _ _
 have N3:= mk 3 [siftdownC,siftupC,heapreplaceC,noC,noC,noC,noC] (cvC fd2 (keyC LK)) (F0 3 (by omega)) (F1 3 (by omega)) (F2 3 (by omega)) (.false g3 d3 c3) (.false g4 d4 c4) (.false g5 d5 c5) (.false g6 d6 c6) (.false g7 d7 c7) (cv_ok ((F2 3 (by omega)).fd g2 d2) (LM 3 (by omega)))
 have F3: ∀ m,4 <= m -> FnOk PySem.Challenge.rw_dm0137_09.row.prog w h₀ m (.ref a3) heapifyC:= fun m hm=> (fn_ok Gd N3 D3 g3 d3 c3).mono hm fun args Q σ h=> by
  have h':= h
  obtain ⟨_,_,_,_,_,_,e,r⟩:= h'
  subst e
  refine ⟨rfl,heapify_v _ 1 (fun _ _ _ h=> h) _ _ _ _ h ?_⟩
  rw [s3];exact fr_hf _ _
 have N4:= mk 4 [siftdownC,siftupC,heapreplaceC,heapifyC,noC,noC,noC] (cvC fd2 (keyC LK)) (F0 4 (by omega)) (F1 4 (by omega)) (F2 4 (by omega)) (F3 4 (by omega)) (.false g4 d4 c4) (.false g5 d5 c5) (.false g6 d6 c6) (.false g7 d7 c7) (cv_ok ((F2 4 (by omega)).fd g2 d2) (LM 4 (by omega)))
 have F4: ∀ m,5 <= m -> FnOk PySem.Challenge.rw_dm0137_09.row.prog w h₀ m (.ref a4) (nsC (keyC LK)):= fun m hm=> (fn_ok Gd N4 D4 g4 d4 c4).mono hm fun args Q σ h=> by
  have h':= h
  obtain ⟨_,_,_,_,_,_,_,_,_,e,r⟩:= h'
  subst e
  refine ⟨rfl,nsmallest_v _  (keyC LK) (fun _ _ _ h=> h) (fun fd σ ⟨i,fd',e,q,_⟩ args Q σ' h=> by cases e;exact ⟨fd,args,rfl,.inl ⟨q rfl,h⟩⟩) (fun fd args Q σ h=> ⟨fd,args,rfl,.inr h⟩) _ _ _ _ h ?_⟩
  rw [s4];exact fr_ns _ _ _ _
 have N5:= mk 5 [siftdownC,siftupC,heapreplaceC,heapifyC,(nsC (keyC LK)),noC,noC] (cvC fd2 (keyC LK)) (F0 5 (by omega)) (F1 5 (by omega)) (F2 5 (by omega)) (F3 5 (by omega)) (F4 5 (by omega)) (.false g5 d5 c5) (.false g6 d6 c6) (.false g7 d7 c7) (cv_ok ((F2 5 (by omega)).fd g2 d2) (LM 5 (by omega)))
 have D5':= D5
 rw [hco _ _ _ m5 g5 d5] at D5'
 have F5: ∀ m,6 <= m -> FnOk PySem.Challenge.rw_dm0137_09.row.prog w h₀ m (.ref a5) (less (toldC key09.2.2.2 (ca,qn) P)):= fun m hm=> FnOk.less ((fn_ok Gd N5 D5 g5 d5 c5).mono hm fun args Q σ h=> by
  have h':= h
  obtain ⟨_,_,_,_,_,_,_,_,_,_,_,_,e,r⟩:= h'
  subst e
  refine ⟨rfl,?_⟩
  rw [s5,hco _ _ _ m5 g5 d5]
  refine told_v _ LK (fun _ _ _ h=> h) key09.2.2.2 (ca,qn) P (fun _=> rfl) _ _ _ _ h ?_
  exact fr_lt _ _ _ _ _ _)
 have N6:= mk 6 [siftdownC,siftupC,heapreplaceC,heapifyC,(nsC (keyC LK)),(less (toldC key09.2.2.2 (ca,qn) P)),noC] (cvC fd2 (keyC LK)) (F0 6 (by omega)) (F1 6 (by omega)) (F2 6 (by omega)) (F3 6 (by omega)) (F4 6 (by omega)) (F5 6 (by omega)) (.false g6 d6 c6) (.false g7 d7 c7) (cv_ok ((F2 6 (by omega)).fd g2 d2) (LM 6 (by omega)))
 have F6: ∀ m,7 <= m -> FnOk PySem.Challenge.rw_dm0137_09.row.prog w h₀ m (.ref a6) dueC:= fun m hm=> (fn_ok Gd N6 D6 g6 d6 c6).mono hm fun args Q σ h=> by
  have h':= h
  obtain ⟨_,_,_,_,_,_,_,_,_,_,_,_,e,r⟩:= h'
  subst e
  refine ⟨rfl,due_v _   _ _ _ _ h ?_⟩
  rw [s6];exact fr_ld _ _ _ _ _ _ _
 exact ⟨_,(keyC LK),mk 9 [siftdownC,siftupC,heapreplaceC,heapifyC,(nsC (keyC LK)),(less (toldC key09.2.2.2 (ca,qn) P)),dueC] (cvC fd2 (keyC LK)) (F0 9 (by omega)) (F1 9 (by omega)) (F2 9 (by omega)) (F3 9 (by omega)) (F4 9 (by omega)) (F5 9 (by omega)) (F6 9 (by omega)) (.false g7 d7 c7) (cv_ok ((F2 9 (by omega)).fd g2 d2) (LM 9 (by omega))),fun _ _ _ h=> h,fun _ _ _ h=> h⟩
theorem mem09: recIn vw09 "_law_told" ∈ recsOf vw09:= List.mem_of_find?_eq_some (p:= fun e: DefRec=> e.name == "_law_told") (by kernel_rfl)
theorem nam09: (recIn vw09 "_law_told").name = "_law_told":= by kernel_rfl
end Mine
open PySem PySem.W PyProof.Rows Mine
theorem PySem.Challenge.cw_dm0137_09_holds : PySem.Challenge.rw_dm0137_09.Holds := by
 refine hd09 ?_
 intro w s₀ s₁ mg mb G Y fa o pm cd doc dV kV ho hd hcd hD hmg hg args vals as hpre hlay hrd hwl hlo
 have FF:= shown_of G
 refine Ground.open G ?_
 intro T B D TE TW
 wrow_args hpre hlay hrd hwl hlo
 first | refine callC_kw (enter_call ?_) | refine enter_call ?_ | refine callC_kw (enter_callW ?_) | refine enter_callW ?_
 rename_i ns _ _ hlay0 _ _ _ _ l vs _ hL _ _ _ hI _ hlen _
 obtain ⟨a',o',fd',c,P,t1,t2,t3,t4,hT⟩:= law_tabs T mem09
 rw [nam09] at t1
 refine kn_post hT (fun _ _=> rfl) ?_
 have Gd: Gnd PySem.Challenge.rw_dm0137_09.row.prog (ghostOf s₁.heap [(c,P)]) mg mb:= ghost_gnd hT (ground_of T (by decide +kernel) (by rfl))
 obtain ⟨Φ,KC,NM,y0,y1⟩:= names09 (w:= w) Gd (bi_free T free09) (fun n d e h=> ghost_shown hT (FF n d e h)) (fun n d e h=> ghost_shownD hT (shownD_of G n d e h)) c P (fd'.qualname ++ ".<locals>.") (ghost_code hT).1 (ghost_blt hT T) (fun a o fd e1 e2 e3=> by
  obtain rfl:= fd_uniq e1 t1 (ghost_old e2) t2 e3 t3
  unfold Mine.codeOf;rw [t4])
 obtain ⟨a,o,fd,k1,k2,k3,k4,k5,k6,k7⟩:= at_law (ghost_shown hT (FF _ _ def_law (by rw [bd_law.1];rfl)))
 have ea: fa = a:= by
  have q: mg ("law": Str) = some (.ref fa):= hmg
  rw [k1] at q;cases q;rfl
 subst ea
 have hln: ns.length <= 63:= by omega
 refine law_code Gd NM (by omega) k7 k2 k3 k4 (script_tab hT hL hI hln ((fd'.qualname ++ ".<locals>.") ++ "_law_key")) (.cons (.ref l) .nil) (Q:= fun v τ=> v = .bool true /\ ∃ ps q,τ P = some (.tab ps q)) ⟨rfl,?_⟩ (fun x s' p=> good_tab hg p)
 rw [k6,fr_law]
 exact law09_v Φ key09.2.2.2 (c,fd'.qualname ++ ".<locals>.") P l y0 y1 ns hln _ (by unfold scriptTab;rw [if_neg (tab_ne hT hL),if_pos rfl]) (by unfold scriptTab;rw [if_pos rfl])
set_option tactic.hygienic false
