import PyProof.Rows.All
import Wide.All
import OpenK.AllK
import Wide.FinOn
import PySem.Challenge.RW_ox0031_01
set_option Elab.async false
set_option linter.all false
set_option compiler.extract_closed false
/- part N0 -/
namespace Mine
theorem perm_of_sub : ∀ {l m : List Int}, l.Nodup → (∀ x ∈ l, x ∈ m) → m.length ≤ l.length → l.Perm m
  | [], m, _, _, h => by
    have : m = [] := List.length_eq_zero_iff.mp (Nat.le_zero.mp h)
    subst this; exact .nil
  | x :: l, m, nd, sub, h => by
    have hx := sub x (.head _)
    have nd' := List.nodup_cons.mp nd
    have p := List.perm_cons_erase hx
    have ih := perm_of_sub (l := l) (m := m.erase x) nd'.2 (fun y hy => (List.mem_erase_of_ne (fun e : y = x => nd'.1 (by rw [← e]; exact hy))).mpr (sub y (.tail _ hy))) (by rw [List.length_erase_of_mem hx]; simp at h; omega)
    exact (ih.cons x).trans p.symm
theorem perm_sum {l l' : List Int} (p : l.Perm l') : l.sum = l'.sum := by
  induction p with
  | nil => rfl
  | cons x _ ih => simp [ih]
  | swap x y l => simp only [List.sum_cons]; omega
  | trans _ _ a b => exact a.trans b
/-- the first n numbers -/
noncomputable def tops (n : Nat) : List Int := (List.range n).map fun (i : Nat) => (i : Int)
theorem mem_tops {n : Nat} {x : Int} : x ∈ tops n ↔ 0 ≤ x ∧ x < n := by
  simp only [tops, List.mem_map, List.mem_range]
  constructor
  · rintro ⟨i, h, rfl⟩; omega
  · rintro ⟨h, h'⟩; exact ⟨x.toNat, by omega, by omega⟩
theorem len_tops (n : Nat) : (tops n).length = n := by simp [tops]
theorem nodup_map {n : Nat} {g : Nat → Int} (h : ∀ i j, i < j → j < n → g i ≠ g j) : ((List.range n).map g).Nodup := by
  rw [List.nodup_iff_pairwise_ne, List.pairwise_map]
  refine List.Pairwise.imp_of_mem (fun {i j} _ hj hij => h i j hij (List.mem_range.mp hj)) List.pairwise_lt_range
theorem inj_of_nodup {n : Nat} {g : Nat → Int} (h : ((List.range n).map g).Nodup) {i j : Nat} (hi : i < n) (hj : j < n) (e : g i = g j) : i = j := by
  rw [List.nodup_iff_pairwise_ne, List.pairwise_map, List.pairwise_iff_getElem] at h
  simp only [List.length_range, List.getElem_range] at h
  rcases Nat.lt_trichotomy i j with q | q | q
  · exact absurd e (h i j hi hj q)
  · exact q
  · exact absurd e.symm (h j i hj hi q)
theorem nodup_tops (n : Nat) : (tops n).Nodup := nodup_map fun i j h _ e => by omega
section
variable {N : Nat} {g : Nat → Int}
theorem perm_of_surj (h : ∀ r : Int, 0 ≤ r → r < N → ∃ j, j < N ∧ g j = r) : (tops N).Perm ((List.range N).map g) :=
  perm_of_sub (nodup_tops N) (fun x hx => by
    obtain ⟨a, b⟩ := mem_tops.mp hx
    obtain ⟨j, hj, e⟩ := h x a b
    exact List.mem_map.mpr ⟨j, List.mem_range.mpr hj, e⟩) (by simp [tops])
theorem inj_of_surj (h : ∀ r : Int, 0 ≤ r → r < N → ∃ j, j < N ∧ g j = r) {i j : Nat} (hi : i < N) (hj : j < N) (e : g i = g j) : i = j :=
  inj_of_nodup ((perm_of_surj h).nodup (nodup_tops N)) hi hj e
theorem surj_of_inj (h : ∀ i j, i < j → j < N → g i ≠ g j) (hb : ∀ j, j < N → 0 ≤ g j ∧ g j < N) (r : Int) (h0 : 0 ≤ r) (h1 : r < N) : ∃ j, j < N ∧ g j = r := by
  have p : ((List.range N).map g).Perm (tops N) := perm_of_sub (nodup_map h) (fun x hx => by
    obtain ⟨j, hj, rfl⟩ := List.mem_map.mp hx
    exact mem_tops.mpr (hb j (List.mem_range.mp hj))) (by simp [tops])
  obtain ⟨j, hj, e⟩ := List.mem_map.mp (p.mem_iff.mpr (mem_tops.mpr ⟨h0, h1⟩))
  exact ⟨j, List.mem_range.mp hj, e⟩
/-- more values than places: two meet -/
theorem meet (hb : ∀ j, j < N + 1 → 0 ≤ g j ∧ g j < N) : ∃ i j, i < j ∧ j < N + 1 ∧ g i = g j := by
  apply Classical.byContradiction
  intro no
  have p : ((List.range (N + 1)).map g).Perm (tops N) := perm_of_sub (nodup_map fun i j hij hj e => no ⟨i, j, hij, hj, e⟩) (fun x hx => by
    obtain ⟨j, hj, rfl⟩ := List.mem_map.mp hx
    exact mem_tops.mpr (hb j (List.mem_range.mp hj))) (by simp [tops])
  have := p.length_eq
  simp [tops] at this
end
/-- a walk that is told by the place alone comes, within as many steps as there are places, wherever it comes -/
theorem early {N : Nat} (hN : 0 < N) {w : Nat → Int} (hw : ∀ i j, w i % N = w j % N → w (i + 1) % N = w (j + 1) % N) (k : Nat) : ∃ j, j < N ∧ w j % N = w k % N := by
  have hN' : (0 : Int) < N := by omega
  obtain ⟨i, j, hij, hj, e⟩ := meet (N := N) (g := fun j => w j % N) fun j _ => ⟨Int.emod_nonneg _ (by omega), Int.emod_lt_of_pos _ hN'⟩
  have step : ∀ t, w (i + t) % N = w (j + t) % N := fun t => by
    induction t with
    | zero => exact e
    | succ t ih => exact hw _ _ ih
  induction k using Nat.strongRecOn with
  | ind k ih =>
    by_cases hk : k < j
    · exact ⟨k, by omega, rfl⟩
    · obtain ⟨j', hj', e'⟩ := ih (i + (k - j)) (by omega)
      refine ⟨j', hj', e'.trans ?_⟩
      have := step (k - j)
      rwa [show j + (k - j) = k by omega] at this
noncomputable def orb (F : Int → Int) : Nat → Int
  | 0 => 0
  | k + 1 => F (orb F k)
/-- the walk comes to all N places in N steps -/
noncomputable def Round (F : Int → Int) (N : Nat) : Prop := ∀ r : Int, 0 ≤ r → r < N → ∃ k, k < N ∧ orb F (k + 1) % N = r
/-- F is told by remainders -/
noncomputable def Told (F : Int → Int) : Prop := ∀ (N : Nat) x y, x % (N : Int) = y % N → F x % N = F y % N
section
variable {F : Int → Int} {N M : Nat}
theorem Round.of_some (T : Told F) (hN : 0 < N) (h : ∀ r : Int, 0 ≤ r → r < N → ∃ k, orb F (k + 1) % N = r) : Round F N := fun r h0 h1 => by
  obtain ⟨k, e⟩ := h r h0 h1
  obtain ⟨j, hj, e'⟩ := early hN (w := fun k => orb F (k + 1)) (fun i j e => T N _ _ e) k
  exact ⟨j, hj, e'.trans e⟩
theorem Round.less (h : Round F (N * M)) (T : Told F) (hN : 0 < N) (hM : 0 < M) : Round F N := Round.of_some T hN fun r h0 h1 => by
  have : N ≤ N * M := Nat.le_mul_of_pos_right N hM
  obtain ⟨k, _, e⟩ := h r h0 (by omega)
  refine ⟨k, ?_⟩
  have e2 : orb F (k + 1) % ((N * M : Nat) : Int) % (N : Int) = orb F (k + 1) % N := Int.emod_emod_of_dvd _ ⟨M, by simp⟩
  rw [← e2, e, Int.emod_eq_of_lt h0 h1]
theorem Round.all (h : Round F N) (T : Told F) (hN : 0 < N) (r : Int) (h0 : 0 ≤ r) (h1 : r < N) : ∃ k, k < N ∧ orb F k % N = r := by
  obtain ⟨k, _, e⟩ := h r h0 h1
  obtain ⟨j, hj, e'⟩ := early hN (w := orb F) (fun i j e => T N _ _ e) (k + 1)
  exact ⟨j, hj, e'.trans e⟩
theorem Round.inj (h : Round F N) (T : Told F) (hN : 0 < N) {i j : Nat} (hi : i < N) (hj : j < N) (e : orb F i % N = orb F j % N) : i = j :=
  inj_of_surj (g := fun j => orb F j % N) (h.all T hN) hi hj e
theorem Round.back (h : Round F N) (T : Told F) (hN : 0 < N) : orb F N % N = 0 := by
  obtain ⟨k, hk, e⟩ := h 0 (by omega) (by omega)
  by_cases q : k + 1 < N
  · have := h.inj T hN (i := k + 1) (j := 0) q hN (by rw [e]; rfl)
    omega
  · have : k + 1 = N := by omega
    rwa [this] at e
/-- who goes round all is told apart by F -/
theorem Round.apart (h : Round F N) (T : Told F) (hN : 0 < N) {i j : Nat} (hi : i < N) (hj : j < N) (e : F i % N = F j % N) : i = j :=
  inj_of_surj (g := fun j => F (j : Int) % N) (fun r h0 h1 => by
    obtain ⟨k, _, e⟩ := h r h0 h1
    have hp : (0 : Int) < N := by omega
    have a := Int.emod_nonneg (orb F k) (Int.ne_of_gt hp)
    have b := Int.emod_lt_of_pos (orb F k) hp
    refine ⟨(orb F k % N).toNat, by omega, ?_⟩
    rw [← e]
    refine T N _ _ ?_
    rw [Int.toNat_of_nonneg a, Int.emod_emod]) hi hj e
end
/-- the steps' sum over all places -/
noncomputable def stepSum (F : Int → Int) : Nat → Int
  | 0 => 0
  | n + 1 => stepSum F n + (F n - n)
theorem stepSum_map (F : Int → Int) : ∀ n, ((tops n).map fun x => F x - x).sum = stepSum F n
  | 0 => rfl
  | n + 1 => by
    have ih := stepSum_map F n
    simp only [tops, List.map_map] at ih ⊢
    rw [List.range_succ, List.map_append, List.sum_append_int, ih]
    simp [stepSum]
/-- F goes up by N where its place does, by twice N -/
noncomputable def Lifts (F : Int → Int) (N : Nat) : Prop := ∀ x q : Int, (F (x + N * q) - F x - N * q) % (2 * N) = 0
section
variable {F : Int → Int} {N : Nat}
theorem Lifts.sum (L : Lifts F N) (T : Told F) (hN : 0 < N) (h : Round F N) : (orb F N - stepSum F N) % (2 * N) = 0 := by
  have p : (tops N).Perm ((List.range N).map fun j => orb F j % N) := perm_of_surj (h.all T hN)
  have e := perm_sum (p.map fun x => F x - x)
  rw [stepSum_map, List.map_map] at e
  rw [e]
  have key : ∀ n : Nat, (orb F n - ((List.range n).map ((fun x => F x - x) ∘ fun j => orb F j % N)).sum) % (2 * N) = 0 := fun n => by
    induction n with
    | zero => simp [orb]
    | succ n ih =>
      rw [List.range_succ, List.map_append, List.sum_append_int]
      simp only [List.map_cons, List.map_nil, List.sum_cons, List.sum_nil, Function.comp, orb]
      have l := L (orb F n % N) (orb F n / N)
      have e2 : orb F n % N + N * (orb F n / N) = orb F n := Int.emod_add_mul_ediv _ _
      rw [e2] at l
      generalize (N : Int) * (orb F n / N) = q at *
      have d1 := Int.dvd_of_emod_eq_zero ih
      have d2 := Int.dvd_of_emod_eq_zero l
      refine Int.emod_eq_zero_of_dvd ?_
      have d3 := Int.dvd_add d1 d2
      have e3 : ∀ S : Int, F (orb F n) - (S + (F (orb F n % N) - orb F n % N + 0)) = (orb F n - S) + (F (orb F n) - F (orb F n % N) - q) := fun S => by omega
      rw [e3]
      exact d3
  exact key N
end
end Mine
/- part N1 -/
namespace Mine
section
variable {F : Int → Int} {N : Nat}
theorem Lifts.far (L : Lifts F N) (b : (orb F N - N) % (2 * N) = 0) : ∀ j, (orb F (j + N) - orb F j - N) % (2 * N) = 0
  | 0 => by simpa [orb] using b
  | j + 1 => by
    obtain ⟨m, hm⟩ := Int.dvd_of_emod_eq_zero (L.far b j)
    have l := L (orb F j) (1 + 2 * m)
    have e : orb F j + N * (1 + 2 * m) = orb F (j + N) := by grind
    rw [e] at l
    obtain ⟨m', hm'⟩ := Int.dvd_of_emod_eq_zero l
    refine Int.emod_eq_zero_of_dvd ⟨m' + m, ?_⟩
    rw [show j + 1 + N = j + N + 1 by omega]
    simp only [orb]
    grind
theorem Round.twice (h : Round F N) (L : Lifts F N) (hN : 0 < N) (b : (orb F N - N) % (2 * N) = 0) : Round F (N * 2) := fun r h0 h1 => by
  have hp : (0 : Int) < N := by omega
  obtain ⟨k, hk, e⟩ := h (r % N) (Int.emod_nonneg _ (by omega)) (Int.emod_lt_of_pos _ hp)
  have e1 : (orb F (k + 1) - r) % N = 0 := Int.emod_eq_emod_iff_emod_sub_eq_zero.mp e
  obtain ⟨t, ht⟩ := Int.dvd_of_emod_eq_zero e1
  have cast : ((N * 2 : Nat) : Int) = 2 * N := by omega
  rw [cast] at h1 ⊢
  rcases Int.emod_two_eq t with ht2 | ht2
  · refine ⟨k, by omega, ?_⟩
    obtain ⟨u, hu⟩ : ∃ u, t = 2 * u := ⟨t / 2, by omega⟩
    have : orb F (k + 1) = r + 2 * N * u := by grind
    rw [this, Int.add_mul_emod_self_left, Int.emod_eq_of_lt h0 h1]
  · refine ⟨k + N, by omega, ?_⟩
    obtain ⟨u, hu⟩ : ∃ u, t = 2 * u + 1 := ⟨t / 2, by omega⟩
    obtain ⟨m, hm⟩ := Int.dvd_of_emod_eq_zero (L.far b (k + 1))
    have : orb F (k + N + 1) = r + 2 * N * (u + 1 + m) := by
      rw [show k + N + 1 = k + 1 + N by omega]; grind
    rw [this, Int.add_mul_emod_self_left, Int.emod_eq_of_lt h0 h1]
end
/-- the sum of powers -/
noncomputable def p6 (a b c d e f x : Int) : Int := a + x * (b + x * (c + x * (d + x * (e + x * f))))
section
variable {a b c d e f : Int}
theorem p6_sub (x y : Int) : p6 a b c d e f x - p6 a b c d e f y = (x - y) * (b + c * (x + y) + d * (x * x + x * y + y * y) + e * (x + y) * (x * x + y * y) + f * (x * x * x * x + x * x * x * y + x * x * y * y + x * y * y * y + y * y * y * y)) := by
  simp only [p6]; grind
theorem p6_told : Told (p6 a b c d e f) := fun N x y h => by
  have h1 := Int.dvd_of_emod_eq_zero (Int.emod_eq_emod_iff_emod_sub_eq_zero.mp h)
  refine Int.emod_eq_emod_iff_emod_sub_eq_zero.mpr (Int.emod_eq_zero_of_dvd ?_)
  rw [p6_sub]
  exact Int.dvd_mul_of_dvd_left h1
theorem half_of {k : Int} (h : k % 2 = 1) : ∃ m, k = 2 * m + 1 := ⟨k / 2, by rw [← h]; exact (Int.mul_ediv_add_emod k 2).symm⟩
theorem dx_odd (hb : b % 2 = 1) (hf : (b + d + f) % 2 = 1) (x : Int) : (b + d * (x * x) + f * (x * x * x * x)) % 2 = 1 := by
  rcases Int.emod_two_eq x with hx | hx
  · obtain ⟨y, rfl⟩ := Int.dvd_of_emod_eq_zero hx
    have : b + d * (2 * y * (2 * y)) + f * (2 * y * (2 * y) * (2 * y) * (2 * y)) = b + 2 * (2 * d * (y * y) + 8 * f * (y * y * y * y)) := by grind
    rw [this, Int.add_mul_emod_self_left]; exact hb
  · obtain ⟨y, rfl⟩ := half_of hx
    have : b + d * ((2 * y + 1) * (2 * y + 1)) + f * ((2 * y + 1) * (2 * y + 1) * (2 * y + 1) * (2 * y + 1)) = (b + d + f) + 2 * (d * (2 * y * y + 2 * y) + f * (8 * y * y * y * y + 16 * y * y * y + 12 * y * y + 4 * y)) := by grind
    rw [this, Int.add_mul_emod_self_left]; exact hf
theorem p6_lifts (hb : b % 2 = 1) (hf : (b + d + f) % 2 = 1) (h : Nat) : Lifts (p6 a b c d e f) (2 * h) := fun x q => by
  obtain ⟨m, hm⟩ := half_of (dx_odd hb hf x)
  generalize hg : (h : Int) * q = g
  have e1 : ((2 * h : Nat) : Int) * q = 2 * g := by rw [← hg]; grind
  refine Int.emod_eq_zero_of_dvd ⟨q * (m + c * (x + g) + d * (3 * x * g + 2 * g * g + x * x) + e * (2 * x * x * x + 6 * x * x * g + 8 * x * g * g + 4 * g * g * g) + f * (2 * x * x * x * x + 10 * x * x * x * g + 20 * x * x * g * g + 20 * x * g * g * g + 8 * g * g * g * g)), ?_⟩
  have e2 : (2 : Int) * ((2 * h : Nat) : Int) * (q * (m + c * (x + g) + d * (3 * x * g + 2 * g * g + x * x) + e * (2 * x * x * x + 6 * x * x * g + 8 * x * g * g + 4 * g * g * g) + f * (2 * x * x * x * x + 10 * x * x * x * g + 20 * x * x * g * g + 20 * x * g * g * g + 8 * g * g * g * g)))
    = 4 * g * (m + c * (x + g) + d * (3 * x * g + 2 * g * g + x * x) + e * (2 * x * x * x + 6 * x * x * g + 8 * x * g * g + 4 * g * g * g) + f * (2 * x * x * x * x + 10 * x * x * x * g + 20 * x * x * g * g + 20 * x * g * g * g + 8 * g * g * g * g)) := by
    rw [← hg]; grind
  rw [e1, e2]
  simp only [p6]
  grind
noncomputable def psum (k : Nat) : Nat → Int
  | 0 => 0
  | n + 1 => psum k n + (n : Int) ^ k
theorem stepSum_p6 : ∀ n, stepSum (p6 a b c d e f) n = a * psum 0 n + b * psum 1 n + c * psum 2 n + d * psum 3 n + e * psum 4 n + f * psum 5 n - psum 1 n
  | 0 => by simp [stepSum, psum]
  | n + 1 => by
    simp only [stepSum, psum, stepSum_p6 n, p6]
    grind
/-- what four places tell tells eight and sixteen -/
theorem cond_of (h : (4 * a + 6 * b + 14 * c + 36 * d + 98 * e + 276 * f - 6) % 8 = 4) (hd : (d + f) % 2 = 0) : (2 * a + 3 * b + 3 * c + e) % 4 = 1 := by
  obtain ⟨u, hu⟩ := Int.dvd_of_emod_eq_zero hd
  have : 4 * a + 6 * b + 14 * c + 36 * d + 98 * e + 276 * f - 6 = 2 * (2 * a + 3 * b + 3 * c + e) - 6 + 8 * (c + 12 * e + 9 * u + 30 * f) := by grind
  rw [this, Int.add_mul_emod_self_left] at h
  generalize 2 * a + 3 * b + 3 * c + e = k at h
  omega
theorem quad_of {k : Int} (h : k % 4 = 1) : ∃ u, k = 4 * u + 1 := ⟨k / 4, by rw [← h]; exact (Int.mul_ediv_add_emod k 4).symm⟩
theorem sum8 (h : (2 * a + 3 * b + 3 * c + e) % 4 = 1) : ∃ g, 8 * a + 28 * b + 140 * c + 784 * d + 4676 * e + 29008 * f - 28 = 8 + 16 * g := by
  obtain ⟨u, hu⟩ := quad_of h
  exact ⟨u + b + 8 * c + 49 * d + 292 * e + 1813 * f - 2, by grind⟩
theorem sum16 (h : (2 * a + 3 * b + 3 * c + e) % 4 = 1) : ∃ g, 16 * a + 120 * b + 1240 * c + 14400 * d + 178312 * e + 2299200 * f - 120 = 16 + 32 * g := by
  obtain ⟨u, hu⟩ := quad_of h
  exact ⟨u + 3 * b + 38 * c + 450 * d + 5572 * e + 71850 * f - 4, by grind⟩
theorem of_sum {z S k m : Int} (h : (z - S) % m = 0) (hS : ∃ g, S = k + m * g) : (z - k) % m = 0 := by
  obtain ⟨g, rfl⟩ := hS
  obtain ⟨u, hu⟩ := Int.dvd_of_emod_eq_zero h
  exact Int.emod_eq_zero_of_dvd ⟨u + g, by grind⟩
theorem odd_lem (m : Int) {a b g : Int} (h : a % (2 * m) ≠ (a + m * b + 2 * m * g) % (2 * m)) : b % 2 = 1 := by
  rcases Int.emod_two_eq b with hb | hb
  · obtain ⟨c, rfl⟩ := Int.dvd_of_emod_eq_zero hb
    refine absurd ?_ h
    have e : a + m * (2 * c) + 2 * m * g = a + 2 * m * (c + g) := by grind
    rw [e, Int.add_mul_emod_self_left]
  · exact hb
theorem odd_of {a b g : Int} (h : a % 4 ≠ (a + 2 * b + 4 * g) % 4) : b % 2 = 1 := odd_lem 2 h
theorem half_way {z S : Int} (h : (z - S) % 8 = 0) (h4 : z % 4 = 0) (h8 : z % 8 ≠ 0) : S % 8 = 4 := by
  have e : z % 8 = S % 8 := Int.emod_eq_emod_iff_emod_sub_eq_zero.mpr h
  rw [e] at h8
  have h0 := Int.emod_nonneg S (b := 8) (by decide)
  have h1 := Int.emod_lt_of_pos S (b := 8) (by decide)
  have h2 : S % 8 % 4 = 0 := by rw [← e, Int.emod_emod_of_dvd z (by decide)]; exact h4
  obtain ⟨y, hy⟩ := Int.dvd_of_emod_eq_zero h2
  rw [hy] at h0 h1 h8 ⊢
  clear hy h2 e h h4
  omega
theorem psum4 : psum 0 4 = 4 ∧ psum 1 4 = 6 ∧ psum 2 4 = 14 ∧ psum 3 4 = 36 ∧ psum 4 4 = 98 ∧ psum 5 4 = 276 := by decide
theorem psum8 : psum 0 8 = 8 ∧ psum 1 8 = 28 ∧ psum 2 8 = 140 ∧ psum 3 8 = 784 ∧ psum 4 8 = 4676 ∧ psum 5 8 = 29008 := by decide
theorem psum16 : psum 0 16 = 16 ∧ psum 1 16 = 120 ∧ psum 2 16 = 1240 ∧ psum 3 16 = 14400 ∧ psum 4 16 = 178312 ∧ psum 5 16 = 2299200 := by decide
theorem sum4_is : stepSum (p6 a b c d e f) 4 = 4 * a + 6 * b + 14 * c + 36 * d + 98 * e + 276 * f - 6 := by
  obtain ⟨h0, h1, h2, h3, h4, h5⟩ := psum4
  rw [stepSum_p6, h0, h1, h2, h3, h4, h5]; grind
theorem sum8_is : stepSum (p6 a b c d e f) 8 = 8 * a + 28 * b + 140 * c + 784 * d + 4676 * e + 29008 * f - 28 := by
  obtain ⟨h0, h1, h2, h3, h4, h5⟩ := psum8
  rw [stepSum_p6, h0, h1, h2, h3, h4, h5]; grind
theorem sum16_is : stepSum (p6 a b c d e f) 16 = 16 * a + 120 * b + 1240 * c + 14400 * d + 178312 * e + 2299200 * f - 120 := by
  obtain ⟨h0, h1, h2, h3, h4, h5⟩ := psum16
  rw [stepSum_p6, h0, h1, h2, h3, h4, h5]; grind
theorem round_up (h : Round (p6 a b c d e f) 8) : Round (p6 a b c d e f) 32 := by
  have T : Told (p6 a b c d e f) := p6_told
  have h4 : Round (p6 a b c d e f) 4 := Round.less (N := 4) (M := 2) h T (by decide) (by decide)
  have b4 : orb (p6 a b c d e f) 4 % 4 = 0 := h4.back T (by decide)
  have n4 : orb (p6 a b c d e f) 4 % 8 ≠ 0 := fun q => absurd (h.inj T (by decide) (i := 4) (j := 0) (by decide) (by decide) q) (by decide)
  have hb : b % 2 = 1 := odd_of (a := a) (g := c + 2 * d + 4 * e + 8 * f) fun q => absurd (h4.apart T (by decide) (i := 0) (j := 2) (by decide) (by decide) (by
    have e0 : p6 a b c d e f ((0 : Nat) : Int) = a := by simp [p6]
    have e2 : p6 a b c d e f ((2 : Nat) : Int) = a + 2 * b + 4 * (c + 2 * d + 4 * e + 8 * f) := by simp only [p6]; grind
    rw [e0, e2]; exact q)) (by decide)
  have hf : (b + d + f) % 2 = 1 := odd_of (a := p6 a b c d e f 1) (g := 2 * c + 6 * d + 20 * e + 60 * f) fun q => absurd (h4.apart T (by decide) (i := 1) (j := 3) (by decide) (by decide) (by
    have e3 : p6 a b c d e f ((3 : Nat) : Int) = p6 a b c d e f 1 + 2 * (b + d + f) + 4 * (2 * c + 6 * d + 20 * e + 60 * f) := by simp only [p6]; grind
    rw [e3]; exact q)) (by decide)
  have s4 : (orb (p6 a b c d e f) 4 - stepSum (p6 a b c d e f) 4) % 8 = 0 := (p6_lifts (a := a) (c := c) (e := e) hb hf 2).sum T (by decide) h4
  have s8 : (orb (p6 a b c d e f) 8 - stepSum (p6 a b c d e f) 8) % 16 = 0 := (p6_lifts (a := a) (c := c) (e := e) hb hf 4).sum T (by decide) h
  have k : (2 * a + 3 * b + 3 * c + e) % 4 = 1 := cond_of (d := d) (f := f) (by rw [← sum4_is]; exact half_way s4 b4 n4) (by omega)
  have h16 : Round (p6 a b c d e f) 16 := h.twice (p6_lifts (h := 4) hb hf) (by decide) (of_sum s8 (by rw [sum8_is]; exact sum8 k))
  have s16 : (orb (p6 a b c d e f) 16 - stepSum (p6 a b c d e f) 16) % 32 = 0 := (p6_lifts (a := a) (c := c) (e := e) hb hf 8).sum T (by decide) h16
  exact h16.twice (p6_lifts (h := 8) hb hf) (by decide) (of_sum s16 (by rw [sum16_is]; exact sum16 k))
end
end Mine
/- part N2 -/
namespace Mine
theorem odd_out {g : Int} (hg : g % 2 = 1) : ∀ (k : Nat) (m : Int), (m * g) % (2 ^ k : Int) = 0 → m % (2 ^ k : Int) = 0
  | 0, m, _ => by simp
  | k + 1, m, h => by
    obtain ⟨u, hu⟩ := Int.dvd_of_emod_eq_zero h
    have hm : m % 2 = 0 := by
      have e : (m * g) % 2 = 0 := by
        rw [hu, show (2 : Int) ^ (k + 1) * u = 2 * (2 ^ k * u) by grind]; omega
      rw [Int.mul_emod, hg] at e; omega
    obtain ⟨n, rfl⟩ : ∃ n, m = 2 * n := ⟨m / 2, by omega⟩
    have e2 : n * g = 2 ^ k * u := by
      have : 2 * (n * g) = 2 * (2 ^ k * u) := by grind
      omega
    have ih := odd_out hg k n (Int.emod_eq_zero_of_dvd ⟨u, e2⟩)
    obtain ⟨v, rfl⟩ := Int.dvd_of_emod_eq_zero ih
    exact Int.emod_eq_zero_of_dvd ⟨v, by grind⟩
section
variable {a b c d e f : Int}
theorem sq_half (x : Int) : ∃ X, x * x = x + 2 * X := by
  rcases Int.emod_two_eq x with hx | hx
  · obtain ⟨y, rfl⟩ : ∃ y, x = 2 * y := ⟨x / 2, by omega⟩
    exact ⟨2 * y * y - y, by grind⟩
  · obtain ⟨y, rfl⟩ : ∃ y, x = 2 * y + 1 := ⟨x / 2, by omega⟩
    exact ⟨2 * y * y + y, by grind⟩
theorem odd_add (b w : Int) (hb : b % 2 = 1) : (b + 2 * w) % 2 = 1 := by rw [Int.add_mul_emod_self_left]; exact hb
theorem odd_g (hb : b % 2 = 1) (hc : (c + e) % 2 = 0) (hd : (d + f) % 2 = 0) (x y : Int) :
    (b + c * (x + y) + d * (x * x + x * y + y * y) + e * (x + y) * (x * x + y * y) + f * (x * x * x * x + x * x * x * y + x * x * y * y + x * y * y * y + y * y * y * y)) % 2 = 1 := by
  obtain ⟨X, hX⟩ := sq_half x
  obtain ⟨Y, hY⟩ := sq_half y
  obtain ⟨u, hu⟩ := Int.dvd_of_emod_eq_zero hc
  obtain ⟨v, hv⟩ := Int.dvd_of_emod_eq_zero hd
  have key : b + c * (x + y) + d * (x * x + x * y + y * y) + e * (x + y) * (x * x + y * y) + f * (x * x * x * x + x * x * x * y + x * x * y * y + x * y * y * y + y * y * y * y)
    = b + 2 * (u * (x + y) + v * (x + x * y + y) + d * (X + Y) + e * (X + Y + x * y + (x + y) * (X + Y)) + f * (x * y + X + 2 * x * X + 2 * X * X + 2 * X * y + X * x * y + 2 * x * Y + 2 * X * Y + x * y * Y + Y + 2 * y * Y + 2 * Y * Y)) := by grind
  rw [key]
  exact odd_add _ _ hb
theorem shuf_apart (hb : b % 2 = 1) (hc : (c + e) % 2 = 0) (hd : (d + f) % 2 = 0) {x y : Int} (h : p6 a b c d e f x % 32 = p6 a b c d e f y % 32) : x % 32 = y % 32 := by
  have h1 := Int.emod_eq_emod_iff_emod_sub_eq_zero.mp h
  rw [p6_sub] at h1
  exact Int.emod_eq_emod_iff_emod_sub_eq_zero.mpr (odd_out (odd_g hb hc hd x y) 5 (x - y) h1)
theorem p6_16 : p6 a b c d e f 16 = a + 16 * b + 32 * (8 * c + 128 * d + 2048 * e + 32768 * f) := by simp only [p6]; grind
theorem p6_17 : p6 a b c d e f 17 = p6 a b c d e f 1 + 16 * (b + d + f) + 32 * (9 * c + 153 * d + 2610 * e + 44370 * f) := by
  have h := p6_sub (a := a) (b := b) (c := c) (d := d) (e := e) (f := f) 17 1
  simp only [Int.reduceMul, Int.reduceAdd, Int.reduceSub] at h
  generalize p6 a b c d e f 17 = x at *
  generalize p6 a b c d e f 1 = y at *
  omega
theorem no_par (a : Int) : (a + 1) % 2 ≠ a % 2 := by omega
theorem even_sum {a b c d e f : Int} (hb : b % 2 = 1) (hc : ¬(c + e) % 2 = 0) (hd : (d + f) % 2 = 0) : (a + (b + (c + (d + (e + f))))) % 2 = a % 2 := by
  have hc1 : (c + e) % 2 = 1 := (Int.emod_two_eq (c + e)).resolve_left hc
  have h1 : (b + (c + e)) % 2 = 0 := by rw [Int.add_emod, hb, hc1]; rfl
  obtain ⟨u, hu⟩ := Int.dvd_of_emod_eq_zero h1
  obtain ⟨v, hv⟩ := Int.dvd_of_emod_eq_zero hd
  have : a + (b + (c + (d + (e + f)))) = a + 2 * (u + v) := by grind
  rw [this, Int.add_mul_emod_self_left]
theorem even_of {b d f : Int} (hb : b % 2 = 1) (hf : (b + d + f) % 2 = 1) : (d + f) % 2 = 0 := by omega
theorem odd16 {a b g : Int} (h : a % 32 ≠ (a + 16 * b + 32 * g) % 32) : b % 2 = 1 := odd_lem 16 h
/-- who tells all values is shuffled -/
theorem shuf_of_surj (h : ∀ r : Int, 0 ≤ r → r < 32 → ∃ j : Nat, j < 32 ∧ p6 a b c d e f j % 32 = r) : b % 2 = 1 ∧ (c + e) % 2 = 0 ∧ (d + f) % 2 = 0 := by
  have inj : ∀ i j : Nat, i < 32 → j < 32 → p6 a b c d e f i % 32 = p6 a b c d e f j % 32 → i = j := fun i j hi hj e9 =>
    inj_of_surj (N := 32) (g := fun j => p6 a b c d e f j % 32) h hi hj e9
  have hb : b % 2 = 1 := odd16 (a := a) (g := 8 * c + 128 * d + 2048 * e + 32768 * f) fun q => absurd (inj 0 16 (by decide) (by decide) (by
    have e0 : p6 a b c d e f ((0 : Nat) : Int) = a := by simp [p6]
    have e2 : p6 a b c d e f ((16 : Nat) : Int) = _ := p6_16
    rw [e0, e2]; exact q)) (by decide)
  have hf : (b + d + f) % 2 = 1 := odd16 (a := p6 a b c d e f 1) (g := 9 * c + 153 * d + 2610 * e + 44370 * f) fun q => absurd (inj 1 17 (by decide) (by decide) (by
    have e3 : p6 a b c d e f ((17 : Nat) : Int) = _ := p6_17
    rw [e3]; exact q)) (by decide)
  have hd : (d + f) % 2 = 0 := even_of hb hf
  refine ⟨hb, ?_, hd⟩
  apply Classical.byContradiction
  intro hc
  have p0 : p6 a b c d e f 0 = a := by simp [p6]
  have p1 : p6 a b c d e f 1 = a + (b + (c + (d + (e + f)))) := by simp [p6]
  have par : ∀ x : Int, p6 a b c d e f x % 2 = a % 2 := fun x => by
    rcases Int.emod_two_eq x with hx | hx
    · have := p6_told (a := a) (b := b) (c := c) (d := d) (e := e) (f := f) 2 x 0 hx
      rw [p0] at this; exact this
    · have := p6_told (a := a) (b := b) (c := c) (d := d) (e := e) (f := f) 2 x 1 hx
      rw [p1] at this; exact this.trans (even_sum hb hc hd)
  obtain ⟨j, _, hj⟩ := h ((a + 1) % 2) (Int.emod_nonneg _ (by decide)) (Int.lt_trans (Int.emod_lt_of_pos _ (by decide)) (by decide))
  have h9 := par j
  have h10 : p6 a b c d e f j % 32 % 2 = p6 a b c d e f j % 2 := Int.emod_emod_of_dvd _ (by decide)
  rw [hj, Int.emod_emod] at h10
  exact no_par a (h10.trans h9)
end
end Mine
/- part OxTop -/
open PySem PySem.W PyProof.Rows
namespace Mine
set_option maxRecDepth 100000 in
set_option maxHeartbeats 8000000 in
open_top hd for PySem.Challenge.rw_ox0031_01
end Mine
theorem Mine.afreshOxTop : True ∧ True := by
  w_top off
  walk1 <;> trivial
/- part B0 -/
open PySem PySem.W PyProof.Rows PySem.Calls
namespace Mine
/-- a place where the walk stands still -/
noncomputable def Stop (p : Prop) : Prop := p
theorem stop {p : Prop} (h : Stop p) : p := h
theorem Stop.go {p : Prop} (h : p) : Stop p := h
/-- names laid over a frame's map -/
noncomputable def ov : List (Str × Value) → (Str → Option Value) → Str → Option Value
  | [], m => m
  | (n, v) :: r, m => fun z => if z = n then some v else ov r m z
theorem lookup_ov : ∀ (l : List (Str × Value)), (fun y => l.lookup y) = ov l fun _ => none
  | [] => rfl
  | (n, v) :: r => by
    funext y
    have ih := congrFun (lookup_ov r) y
    simp only [List.lookup, ov] at ih ⊢
    by_cases h : y = n
    · subst h; simp
    · have hb : (y == n) = false := by simpa using h
      rw [hb, if_neg h]; exact ih
/-- two maps are the same but for some names -/
noncomputable def Same (ig : List Str) (m m' : Str → Option Value) : Prop := ∀ z, z ∉ ig → m z = m' z
noncomputable def mix : List Str → (Str → Option Value) → (Str → Option Value) → Str → Option Value
  | [], _, m' => m'
  | n :: r, m, m' => fun z => if z = n then m z else mix r m m' z
theorem mix_in : ∀ {ig : List Str} {m m' : Str → Option Value} {z : Str}, z ∈ ig → mix ig m m' z = m z
  | n :: r, m, m', z, h => by
    simp only [mix]
    split
    · rfl
    · rename_i e
      rcases List.mem_cons.mp h with h | h
      · exact absurd h e
      · exact mix_in h
theorem mix_out : ∀ {ig : List Str} {m m' : Str → Option Value} {z : Str}, z ∉ ig → mix ig m m' z = m' z
  | [], _, _, _, _ => rfl
  | n :: r, m, m', z, h => by
    simp only [mix]
    have hn : ¬ z = n := fun e => h (by rw [e]; exact List.mem_cons_self)
    rw [if_neg hn]
    exact mix_out fun q => h (List.mem_cons_of_mem _ q)
theorem Same.eq {ig : List Str} {m m' : Str → Option Value} (h : Same ig m m') : m = mix ig m m' := by
  funext z
  by_cases hz : z ∈ ig
  · rw [mix_in hz]
  · rw [mix_out hz, h z hz]
theorem Same.start {ig : List Str} {l : List (Str × Value)} {m : Str → Option Value} (h : ∀ p ∈ l, m p.1 = some p.2) : Same ig m (ov l m) := fun z _ => by
  induction l with
  | nil => rfl
  | cons p r ih =>
    obtain ⟨n, v⟩ := p
    simp only [ov]
    split
    · rename_i e; rw [e]; exact h (n, v) (.head _)
    · exact ih fun p hp => h p (.tail _ hp)
theorem Same.start0 {ig : List Str} {m : Str → Option Value} : Same ig m (ov [] m) := fun _ _ => rfl
theorem Same.start1 {ig : List Str} {m : Str → Option Value} {x : Str} {v : Value} (h : m x = some v) : Same ig m (ov [(x, v)] m) :=
  Same.start fun p hp => by rw [List.mem_singleton.mp hp]; exact h
theorem Same.start2 {ig : List Str} {m : Str → Option Value} {x y : Str} {v u : Value} (h : m x = some v) (h' : m y = some u) : Same ig m (ov [(x, v), (y, u)] m) :=
  Same.start fun p hp => by
    rcases List.mem_cons.mp hp with rfl | hp
    · exact h
    · rw [List.mem_singleton.mp hp]; exact h'
section
variable {ig : List Str} {m m' m₀ : Str → Option Value} {x : Str} {v u : Value} {l : List (Str × Value)}
theorem Same.mixed : Same ig (mix ig m m') m' := fun _ hz => mix_out hz
theorem Same.skip {v : Option Value} (h : Same ig m m') (hx : x ∈ ig) : Same ig (fun y => if y = x then v else m y) m' := fun z hz => by
  dsimp only
  rw [if_neg fun e => hz (by rw [e]; exact hx)]
  exact h z hz
theorem Same.put (h : Same ig m (ov ((x, u) :: l) m₀)) : Same ig (fun y => if y = x then some v else m y) (ov ((x, v) :: l) m₀) := fun z hz => by
  simp only [ov]
  by_cases e : z = x
  · rw [if_pos e, if_pos e]
  · have := h z hz
    simp only [ov, if_neg e] at this
    rw [if_neg e, if_neg e]; exact this
theorem Same.ov1 (h : Same ig m m') (hx : x ∈ ig) : Same ig (ov [(x, v)] m) m' := Same.skip (m := m) h hx
theorem Same.put2 {y : Str} {a : Value} (h : Same ig m (ov ((y, a) :: (x, u) :: l) m₀)) (hxy : y ≠ x) : Same ig (fun y => if y = x then some v else m y) (ov ((y, a) :: (x, v) :: l) m₀) := fun z hz => by
  simp only [ov]
  by_cases e : z = x
  · have hy : ¬ z = y := fun q => hxy (q ▸ e)
    rw [if_pos e, if_neg hy, if_pos e]
  · have := h z hz
    simp only [ov, if_neg e] at this
    rw [if_neg e, if_neg e]; exact this
end
section
variable {prog : Program} {w : World} {A : Around} {s : Shared} {K : Frag} {p : Program} {loose : List Str} {mean : ExcName → Option Value} {mg mb : Str → Option Value}
/-- a def of the text is called: its frame's base is the whole heap of the call -/
theorem enter {R : Result → Shared → Prop} {name qual : Str} {params : Arguments} {body : List Stmt} {scope : Scope} {dV kV doc pm cdv ct oc : Value} {an od : Option Addr} {osl : Array (Option Value)} {f : Addr} {args : Args} {binds : List (Str × Value)} (bs : List (Str × Value))
    (X : K.In s.heap) (T : Top p loose mean mg mb s.heap)
    (ho : K.lookup f = some ⟨oc, od, .func (fnOf name qual params body scope dV kV doc pm an cdv ct), osl⟩) (hcd : codeIn K cdv qual = true) (hroom : A.depth < recursionLimit)
    (hbind : BindsTo s (fnOf name qual params body scope dV kV doc pm an cdv ct) args binds) (hbs : binds.reverse = bs) (hloc : ∀ y ∈ binds, scope.names.lookup y.1 = some .local)
    (h : ∀ h₁ tk, Fr s.heap s.heap.objs.size h₁ (ov bs fun _ => none) → News s.heap s.heap.objs.size h₁ [] →
      wpAny (model prog w) (A.deeper (envOf qual scope s.heap.objs.size f cdv)) (execs body (envOf qual scope s.heap.objs.size f cdv))
        (fun fl s' => R (.ok (.ret (match fl with | .ret v => v | _ => .none))) s') (fun _ _ => False)
        { s with heap := h₁, toks := tk })
    (hco : scope.isCoroutine = false) (hgen : scope.isGenerator = false) (hk : scope.kind = .function)
    (hcell : ∀ x ∈ scope.names, x.2 ≠ .cell) : codeAny (model prog w) A (.call (.ref f) args) R s := by
  refine codeAny_call_def (fd := fnOf name qual params body scope dV kV doc pm an cdv ct) (body := body) (binds := binds) hroom (X _ _ ho) rfl T.nolimit (codeRec_of X hcd) rfl hbind hcell hloc (fun h₁ hns hk₁ => ?_) hco hgen hk
  rw [hbs, lookup_ov] at hns
  exact wpAny_noRaise (h h₁ _ ⟨hns, hk₁, Nat.le_refl _⟩ News.nil)
end
end Mine
/- part B1 -/
open PySem PySem.W PyProof.Rows PySem.Calls
namespace Mine
noncomputable abbrev rgI (x left step : Int) : Obj := { cls := .type "range_iterator", data := .fields #[rawInt x, rawInt left, rawInt step] }
noncomputable abbrev liI (l : Addr) (i : Nat) : Obj := { cls := .type "list_iterator", data := .fields #[.ref l, .int i 0] }
noncomputable abbrev enO (it : Addr) (i : Int) (old : Value) : Obj := { cls := .type "enumerate", data := .fields #[.none, .bool false, .ref it, rawInt i, .none, old] }
/-- the end that a step is to reach, by a name of its own -/
theorem post {α : Type} {M : Model} {A : Around} {x : Sem α} {Q : α → Shared → Prop} {E : Value → Shared → Prop} {s : Shared} (h : ∀ P : α → Shared → Prop, (∀ f s', Q f s' → P f s') → wpAny M A x P E s) : wpAny M A x Q E s := h Q fun _ _ q => q
/-- where a loop stands -/
inductive LoopR (h₀ : Heap) (L I : Addr) (s : Shared) (a st : Int) (n : Nat) (J : Nat → (Str → Option Value) → List (Addr × Obj) → Prop) (k : Nat) (s' : Shared) : Prop
  | mk (i : Nat) (h : Heap) (tk : Nat) (m : Str → Option Value) (news : List (Addr × Obj)) (e : s' = { s with heap := h, toks := tk }) (hi : i ≤ n) (hk : k = n - i) (F : Fr h₀ L h m) (N : News h₀ L h ((I, rgI (a + (i : Nat) * st) ((n : Int) - i) st) :: news)) (off : ∀ p ∈ news, p.1 ≠ I) (hJ : J i m news)
inductive LoopL (h₀ : Heap) (L I l : Addr) (s : Shared) (n : Nat) (J : Nat → (Str → Option Value) → List (Addr × Obj) → Prop) (k : Nat) (s' : Shared) : Prop
  | mk (i : Nat) (h : Heap) (tk : Nat) (m : Str → Option Value) (news : List (Addr × Obj)) (o : Obj) (e : s' = { s with heap := h, toks := tk }) (hi : i ≤ n) (hk : k = n - i) (F : Fr h₀ L h m) (N : News h₀ L h ((I, o) :: news)) (hit : h.IsListIter I l i) (off : ∀ p ∈ news, p.1 ≠ I) (hJ : J i m news)
inductive LoopE (h₀ : Heap) (L I it l : Addr) (s : Shared) (n : Nat) (J : Nat → (Str → Option Value) → List (Addr × Obj) → Prop) (k : Nat) (s' : Shared) : Prop
  | mk (i : Nat) (h : Heap) (tk : Nat) (m : Str → Option Value) (news : List (Addr × Obj)) (old : Value) (oi : Obj) (e : s' = { s with heap := h, toks := tk }) (hi : i ≤ n) (hk : k = n - i) (F : Fr h₀ L h m) (N : News h₀ L h ((I, enO it (i : Nat) old) :: (it, oi) :: news)) (hit : h.IsListIter it l i) (off : ∀ p ∈ news, p.1 ≠ I ∧ p.1 ≠ it) (hJ : J i m news)
/-- where a turn ends -/
inductive Ended (h₀ : Heap) (L : Addr) (g : Array GenState) (d : Drawn) (os : OsState) (own : List (Addr × Obj)) (Jn : (Str → Option Value) → List (Addr × Obj) → Prop) (s' : Shared) : Prop
  | mk (h' : Heap) (tk' : Nat) (m' : Str → Option Value) (news' : List (Addr × Obj)) (e : s' = { heap := h', gens := g, drawn := d, toks := tk', os := os }) (F : Fr h₀ L h' m') (N : News h₀ L h' (own ++ news')) (off : ∀ q ∈ own, ∀ p ∈ news', p.1 ≠ q.1) (j : Jn m' news')
/-- what a turn leaves behind it -/
noncomputable def TurnEnd (h₀ : Heap) (L : Addr) (s : Shared) (own : List (Addr × Obj)) (Jn : (Str → Option Value) → List (Addr × Obj) → Prop) (Q : Flow → Shared → Prop) (f : Flow) (s' : Shared) : Prop :=
  match f with
  | .ret v => Q (.ret v) s'
  | .brk => Q .next s'
  | _ => Ended h₀ L s.gens s.drawn s.os own Jn s'
theorem TurnEnd.next {h₀ : Heap} {L : Addr} {s : Shared} {own news' : List (Addr × Obj)} {Jn : (Str → Option Value) → List (Addr × Obj) → Prop} {Q : Flow → Shared → Prop} {h' : Heap} {tk' : Nat} {m' : Str → Option Value}
    (F : Fr h₀ L h' m') (N : News h₀ L h' (own ++ news')) (off : ∀ q ∈ own, ∀ p ∈ news', p.1 ≠ q.1) (j : Jn m' news') : TurnEnd h₀ L s own Jn Q .next { s with heap := h', toks := tk' } :=
  ⟨h', tk', m', news', rfl, F, N, off, j⟩
theorem TurnEnd.cont {h₀ : Heap} {L : Addr} {s : Shared} {own news' : List (Addr × Obj)} {Jn : (Str → Option Value) → List (Addr × Obj) → Prop} {Q : Flow → Shared → Prop} {h' : Heap} {tk' : Nat} {m' : Str → Option Value}
    (F : Fr h₀ L h' m') (N : News h₀ L h' (own ++ news')) (off : ∀ q ∈ own, ∀ p ∈ news', p.1 ≠ q.1) (j : Jn m' news') : TurnEnd h₀ L s own Jn Q .cont { s with heap := h', toks := tk' } :=
  ⟨h', tk', m', news', rfl, F, N, off, j⟩
section
variable {h₀ h h' : Heap} {L I : Addr} {m : Str → Option Value} {news : List (Addr × Obj)} {o o' : Obj}
/-- the ledger's first entry is changed -/
theorem news_head (N : News h₀ L h ((I, o) :: news)) (off : ∀ p ∈ news, p.1 ≠ I) (hs : Heap.SameBut I h h') (ho : h'.get? I = some o') : News h₀ L h' ((I, o') :: news) := fun p hp => by
  rcases List.mem_cons.mp hp with rfl | hp
  · exact ⟨ho, (N (I, o) (.head _)).2⟩
  · exact ⟨(hs.2 _ (off p hp)).trans (N p (.tail _ hp)).1, (N p (.tail _ hp)).2⟩
theorem news_tail (N : News h₀ L h ((I, o) :: news)) : News h₀ L h news := fun p hp => N p (.tail _ hp)
theorem news_ext (N : News h₀ L h news) (hs : Heap.ExtBut I h h') (off : ∀ p ∈ news, p.1 ≠ I) : News h₀ L h' news := fun p hp => ⟨hs _ _ (off p hp) (N p hp).1, (N p hp).2⟩
theorem fr_ext (F : Fr h₀ L h m) (hs : Heap.ExtBut I h h') (hL : I ≠ L) (hn : h₀.get? I = none) : Fr h₀ L h' m :=
  ⟨F.ns.extBut hs hL.symm, fun b o e => hs b o (fun q => by rw [q, hn] at e; cases e) (F.keep b o e), F.above⟩
end
section
variable {prog : Program} {w : World} {A : Around} {E : Value → Shared → Prop} {s : Shared} {env : Env} {h₀ : Heap} {L I : Addr} {x : Str} {px : Pos} {body : List Stmt} {m₀ : Str → Option Value} {news₀ : List (Addr × Obj)} {Q : Flow → Shared → Prop}
theorem loop_range {a st : Int} {n : Nat} (J : Nat → (Str → Option Value) → List (Addr × Obj) → Prop)
    (hh : A.handled = none) (hL : env.locals = L) (hx : env.kindOf x = some .local) (hp : (env.scope.kind == .class || (env.scope.kind == .module && env.locals != env.globals)) = false)
    (F : Fr h₀ L s.heap m₀) (N : News h₀ L s.heap ((I, rgI a n st) :: news₀)) (off : ∀ p ∈ news₀, p.1 ≠ I) (j0 : J 0 m₀ news₀)
    (turn : ∀ i m news h tk t, i < n → J i m news → (∀ p ∈ news, p.1 ≠ I) → Fr h₀ L h (fun y => if y = x then some (.int (a + i * st) t) else m y) → News h₀ L h ((I, rgI (a + i * st + st) ((n : Int) - i - 1) st) :: news) →
      wpAny (model prog w) A (execs body env) (TurnEnd h₀ L s [(I, rgI (a + i * st + st) ((n : Int) - i - 1) st)] (J (i + 1)) Q) (fun _ _ => False) { s with heap := h, toks := tk })
    (done : ∀ m news h tk, J n m news → Fr h₀ L h m → News h₀ L h news → (∀ p ∈ news, p.1 ≠ I) → Q .next { s with heap := h, toks := tk }) :
    codeAny (model prog w) A (.forLoop (.Name x px) (.ref I) body [] env) (fun r s' => match r with | .ok f => Q f s' | .error e => cameBackBy (model prog w) A env E e s') s := by
  subst hL
  refine codeAny_forLoop (LoopR h₀ env.locals I s a st n J) ?_ n
    ⟨0, s.heap, s.toks, m₀, news₀, rfl, Nat.zero_le _, rfl, F, by simpa using N, off, j0⟩
  rintro k s' ⟨i, h, tk, m, news, rfl, hi, rfl, F, N, off, hJ⟩
  obtain ⟨hI, hIL, hI0⟩ := N (I, _) (.head _)
  by_cases hlt : i < n
  · refine wpAny_pyNext_range_item (s := { s with heap := h, toks := tk }) hI (by omega) fun h₁ hit₁ hs₁ => ?_
    have F₁ := F.change hs₁ hIL hI0
    have N₁ := news_head N off hs₁ hit₁
    refine wpAny_assign_Name (wpAny_storeName_local hx F₁.ns (fun h₂ hn₂ hs₂ => ?_) hp)
    refine wpAny_noRaise (wpAny_mono (turn i m news h₂ _ _ hlt hJ off (F₁.set hn₂ hs₂) (N₁.set hs₂)) (fun f s₃ h₃ => ?_) fun _ _ e => e)
    have fin : Ended h₀ env.locals s.gens s.drawn s.os [(I, rgI (a + i * st + st) ((n : Int) - i - 1) st)] (J (i + 1)) s₃ → ∃ k', k' < n - i ∧ LoopR h₀ env.locals I s a st n J k' s₃ := by
      rintro ⟨h', tk', m', news', rfl, F', N', off', hJ'⟩
      refine ⟨n - (i + 1), Nat.sub_lt_sub_left hlt (Nat.lt_succ_self i), ⟨i + 1, h', tk', m', news', rfl, hlt, rfl, F', ?_, off' _ (.head _), hJ'⟩⟩
      have e1 : a + ((i + 1 : Nat) : Int) * st = a + i * st + st := by push_cast; rw [Int.add_mul]; omega
      have e2 : (n : Int) - ((i + 1 : Nat) : Int) = (n : Int) - i - 1 := by push_cast; omega
      rw [e1, e2]; exact N'
    cases f with
    | ret v => exact h₃
    | brk => exact h₃
    | next => exact fin h₃
    | cont => exact fin h₃
  · obtain rfl : i = n := Nat.le_antisymm hi (Nat.not_lt.mp hlt)
    refine wpAny_pyNext_range_end (s := { s with heap := h, toks := tk }) hh hI (by omega) fun h₁ hs₁ => wpAny_execs_nil ?_
    exact done m news h₁ tk hJ (fr_ext F hs₁ hIL hI0) (news_ext (news_tail N) hs₁ off) off
theorem loop_list {l : Addr} {its : Array Value} (J : Nat → (Str → Option Value) → List (Addr × Obj) → Prop)
    (hh : A.handled = none) (hL : env.locals = L) (hx : env.kindOf x = some .local) (hp : (env.scope.kind == .class || (env.scope.kind == .module && env.locals != env.globals)) = false)
    (F : Fr h₀ L s.heap m₀) (N : News h₀ L s.heap ((I, liI l 0) :: news₀)) (off : ∀ p ∈ news₀, p.1 ≠ I) (j0 : J 0 m₀ news₀)
    (hS : ∀ i m news, J i m news → LCg.SrcAt h₀ l its news)
    (turn : ∀ i v m news h tk o, its[i]? = some v → J i m news → (∀ p ∈ news, p.1 ≠ I) → Fr h₀ L h (fun y => if y = x then some v else m y) → News h₀ L h ((I, o) :: news) →
      wpAny (model prog w) A (execs body env) (TurnEnd h₀ L s [(I, o)] (J (i + 1)) Q) (fun _ _ => False) { s with heap := h, toks := tk })
    (done : ∀ m news h tk, J its.size m news → Fr h₀ L h m → News h₀ L h news → (∀ p ∈ news, p.1 ≠ I) → Q .next { s with heap := h, toks := tk }) :
    codeAny (model prog w) A (.forLoop (.Name x px) (.ref I) body [] env) (fun r s' => match r with | .ok f => Q f s' | .error e => cameBackBy (model prog w) A env E e s') s := by
  subst hL
  refine codeAny_forLoop (LoopL h₀ env.locals I l s its.size J) ?_ its.size
    ⟨0, s.heap, s.toks, m₀, news₀, _, rfl, Nat.zero_le _, rfl, F, N, ⟨_, (N _ (.head _)).1, rfl, rfl⟩, off, j0⟩
  rintro k s' ⟨i, h, tk, m, news, o, rfl, hi, rfl, F, N, hit, off, hJ⟩
  obtain ⟨hI, hIL, hI0⟩ := N (I, o) (.head _)
  have hl : h.IsList l its := (hS i m news hJ).list F.keep (news_tail N)
  by_cases hlt : i < its.size
  · have hv : its[i]? = some its[i] := Array.getElem?_eq_getElem hlt
    refine wpAny_pyNext_list_item (s := { s with heap := h, toks := tk }) hit hl hv fun h₁ hit₁ hs₁ => ?_
    have F₁ := F.change hs₁ hIL hI0
    obtain ⟨o₁, ho₁, hc₁, hd₁⟩ := hit₁
    have N₁ := news_head N off hs₁ ho₁
    refine wpAny_assign_Name (wpAny_storeName_local hx F₁.ns (fun h₂ hn₂ hs₂ => ?_) hp)
    refine wpAny_noRaise (wpAny_mono (turn i _ m news h₂ _ o₁ hv hJ off (F₁.set hn₂ hs₂) (N₁.set hs₂)) (fun f s₃ h₃ => ?_) fun _ _ e => e)
    have fin : Ended h₀ env.locals s.gens s.drawn s.os [(I, o₁)] (J (i + 1)) s₃ → ∃ k', k' < its.size - i ∧ LoopL h₀ env.locals I l s its.size J k' s₃ := by
      rintro ⟨h', tk', m', news', rfl, F', N', off', hJ'⟩
      exact ⟨its.size - (i + 1), Nat.sub_lt_sub_left hlt (Nat.lt_succ_self i), ⟨i + 1, h', tk', m', news', o₁, rfl, hlt, rfl, F', N', ⟨o₁, (N' _ (.head _)).1, hc₁, hd₁⟩, off' _ (.head _), hJ'⟩⟩
    cases f with
    | ret v => exact h₃
    | brk => exact h₃
    | next => exact fin h₃
    | cont => exact fin h₃
  · obtain rfl : i = its.size := Nat.le_antisymm hi (Nat.not_lt.mp hlt)
    refine wpAny_pyNext_list_end (s := { s with heap := h, toks := tk }) hh hit hl (Array.getElem?_eq_none (Nat.le_refl _)) fun h₁ hs₁ => wpAny_execs_nil ?_
    exact done m news h₁ tk hJ (fr_ext F hs₁ hIL hI0) (news_ext (news_tail N) hs₁ off) off
/-- for xi, xv in enumerate(l), the list l being changed in the turns (its length is not) -/
theorem loop_enum {it l : Addr} {xi xv : Str} {pi pv pt : Pos} {x1 : Nat} {n : Nat} (J : Nat → (Str → Option Value) → List (Addr × Obj) → Prop)
    (hh : A.handled = none) (hL : env.locals = L) (hxi : env.kindOf xi = some .local) (hxv : env.kindOf xv = some .local) (hp : (env.scope.kind == .class || (env.scope.kind == .module && env.locals != env.globals)) = false)
    {oi₀ : Obj} (F : Fr h₀ L s.heap m₀) (N : News h₀ L s.heap ((I, enO it 0 .none) :: (it, oi₀) :: news₀)) (hoc : oi₀.cls = .type "list_iterator") (hod : oi₀.data = .fields #[.ref l, .int 0 0]) (hne : I ≠ it) (off : ∀ p ∈ news₀, p.1 ≠ I ∧ p.1 ≠ it) (j0 : J 0 m₀ news₀)
    (hS : ∀ i m news, J i m news → ∃ its : Array Value, LCg.SrcAt h₀ l its news ∧ its.size = n)
    (turn : ∀ i v m news h tk t oI oi its, i < n → LCg.SrcAt h₀ l its news → its[i]? = some v → J i m news → (∀ p ∈ news, p.1 ≠ I ∧ p.1 ≠ it) → Fr h₀ L h (fun y => if y = xv then some v else if y = xi then some (.int i t) else m y) → News h₀ L h ((I, oI) :: (it, oi) :: news) →
      wpAny (model prog w) A (execs body env) (TurnEnd h₀ L s [(I, oI), (it, oi)] (J (i + 1)) Q) (fun _ _ => False) { s with heap := h, toks := tk })
    (done : ∀ m news h tk, J n m news → Fr h₀ L h m → News h₀ L h news → (∀ p ∈ news, p.1 ≠ I ∧ p.1 ≠ it) → Q .next { s with heap := h, toks := tk }) :
    codeAny (model prog w) A (.forLoop (.Tuple [.Name xi pi, .Name xv pv] x1 pt) (.ref I) body [] env) (fun r s' => match r with | .ok f => Q f s' | .error e => cameBackBy (model prog w) A env E e s') s := by
  subst hL
  refine codeAny_forLoop_any (LoopE h₀ env.locals I it l s n J) ?_ n
    ⟨0, s.heap, s.toks, m₀, news₀, _, _, rfl, Nat.zero_le _, rfl, F, N, ⟨_, (N _ (.tail _ (.head _))).1, hoc, hod⟩, off, j0⟩
  rintro k s' ⟨i, h, tk, m, news, old, oi, rfl, hi, rfl, F, N, hit, off, hJ⟩
  obtain ⟨hI, hIL, hI0⟩ := N (I, _) (.head _)
  obtain ⟨hi', hiL, hi0⟩ := N (it, _) (.tail _ (.head _))
  obtain ⟨its, S, hsz⟩ := hS i m news hJ
  have hl : h.IsList l its := S.list F.keep (news_tail (news_tail N))
  by_cases hlt : i < n
  · have hlt' : i < its.size := hsz ▸ hlt
    have hv : its[i]? = some its[i] := Array.getElem?_eq_getElem hlt'
    have hIlt : I < h.objs.size := Heap.lt_size hI
    have hilt : it < h.objs.size := Heap.lt_size hi'
    have hLlt : env.locals < h.objs.size := F.ns.lt
    refine wpAny_pyNext_enum_item (s := { s with heap := h, toks := tk }) hI hit hl hv hne fun h₁ heo hit₁ ht₁ hz₁ hk₁ => ?_
    refine wpAny_letOwnedTupleGo_enum heo fun h₂ he₂ hs₂ => ?_
    replace hs₂ : Heap.SameBut I h₁ h₂ := hs₂
    have ht₂ : h₂.IsTuple h.objs.size #[.int i tk, its[i]] := ⟨_, (hs₂.2 _ (Nat.ne_of_gt hIlt)).trans ht₁, rfl, _, rfl⟩
    have hz₂ : h₂.objs.size = h.objs.size + 1 := hs₂.1.trans hz₁
    refine wpAny_assign_Tuple hh ht₂ rfl rfl fun h₃ hx₃ => ?_
    replace hx₃ : Heap.ExtBut h₂.objs.size h₂ h₃ := hx₃
    have up : ∀ b o, b < h.objs.size → b ≠ I → b ≠ it → h.get? b = some o → h₃.get? b = some o := fun b o hb hbI hbi e =>
      hx₃ b o (by rw [hz₂]; exact Nat.ne_of_lt (Nat.lt_succ_of_lt hb)) ((hs₂.2 b hbI).trans (hk₁ b o hbI hbi e))
    have F₃ : Fr h₀ env.locals h₃ m := ⟨F.ns.at' fun o e => up _ o hLlt hIL.symm hiL.symm e, fun b o e => up b o (Heap.lt_size (F.keep b o e)) (fun q => by rw [q, hI0] at e; cases e) (fun q => by rw [q, hi0] at e; cases e) (F.keep b o e), F.above⟩
    obtain ⟨o₁, ho₁, hc₁, hd₁⟩ := hit₁
    have hI₃ : h₃.get? I = some (enO it ((i : Int) + 1) its[i]) := hx₃ _ _ (by rw [hz₂]; exact Nat.ne_of_lt (Nat.lt_succ_of_lt hIlt)) he₂
    have hi₃ : h₃.get? it = some o₁ := hx₃ _ _ (by rw [hz₂]; exact Nat.ne_of_lt (Nat.lt_succ_of_lt hilt)) ((hs₂.2 it hne.symm).trans ho₁)
    have N₃ : News h₀ env.locals h₃ ((I, enO it ((i : Int) + 1) its[i]) :: (it, o₁) :: news) := fun p hp => by
      rcases List.mem_cons.mp hp with rfl | hp
      · exact ⟨hI₃, hIL, hI0⟩
      · rcases List.mem_cons.mp hp with rfl | hp
        · exact ⟨hi₃, hiL, hi0⟩
        · have z := N p (.tail _ (.tail _ hp))
          exact ⟨up _ _ (Heap.lt_size z.1) (off p hp).1 (off p hp).2 z.1, z.2⟩
    show wpAny _ A (do holding [its[i]] (assign (.Name xi pi) env (.int i tk)); do holding [] (assign (.Name xv pv) env its[i]); pure ()) _ _ _
    refine wpAny_bind (wpAny_holding (wpAny_assign_Name (wpAny_storeName_local hxi F₃.ns (fun h₄ hn₄ hs₄ => ?_) hp)))
    have F₄ := F₃.set hn₄ hs₄
    have N₄ := N₃.set hs₄
    refine wpAny_bind (wpAny_holding (wpAny_assign_Name (wpAny_storeName_local hxv F₄.ns (fun h₅ hn₅ hs₅ => wpAny_pure ?_) hp)))
    refine wpAny_noRaise (wpAny_mono (turn i _ m news h₅ _ _ _ _ its hlt S hv hJ off (F₄.set hn₅ hs₅) (N₄.set hs₅)) (fun f s₃ h₃ => ?_) fun _ _ e => e)
    have fin : Ended h₀ env.locals s.gens s.drawn s.os [(I, enO it ((i : Int) + 1) its[i]), (it, o₁)] (J (i + 1)) s₃ → ∃ k', k' < n - i ∧ LoopE h₀ env.locals I it l s n J k' s₃ := by
      rintro ⟨h', tk', m', news', rfl, F', N', off', hJ'⟩
      refine ⟨n - (i + 1), Nat.sub_lt_sub_left hlt (Nat.lt_succ_self i), ⟨i + 1, h', tk', m', news', its[i], o₁, rfl, hlt, rfl, F', ?_, ⟨o₁, (N' _ (.tail _ (.head _))).1, hc₁, hd₁⟩, fun p hp => ⟨off' _ (.head _) p hp, off' _ (.tail _ (.head _)) p hp⟩, hJ'⟩⟩
      have : ((i + 1 : Nat) : Int) = (i : Int) + 1 := by push_cast; rfl
      rw [this]; exact N'
    cases f with
    | ret v => exact h₃
    | brk => exact h₃
    | next => exact fin h₃
    | cont => exact fin h₃
  · obtain rfl : i = n := Nat.le_antisymm hi (Nat.not_lt.mp hlt)
    refine wpAny_pyNext_enum_end (s := { s with heap := h, toks := tk }) hh hI hit hl (Array.getElem?_eq_none (by omega)) fun h₁ hs₁ => wpAny_execs_nil ?_
    exact done m news h₁ tk hJ (fr_ext F hs₁ hiL hi0) (news_ext (news_tail (news_tail N)) hs₁ fun p hp => (off p hp).2) off
end
end Mine
/- part B2 -/
open PySem PySem.W PyProof.Rows PySem.Calls
namespace Mine
theorem for_ {M : Model} {A : Around} {E : Value → Shared → Prop} {s : Shared} {env : Env} {tgt iter : Expr} {body rest : List Stmt} {pos : Pos} {Q : Flow → Shared → Prop}
    (h : wpAny M A (eval iter env) (fun x s₁ => Stop (wpAny M A (pyIter x) (fun it s₂ => codeAny M A (.forLoop tgt it body [] env) (fun r s' => match r with
      | .ok f => (match f with | .next => wpAny M A (execs rest env) Q E s' | f => Q f s')
      | .error e => cameBackBy M A env E e s') s₂) E s₁)) E s)
    (hs : ∀ x, foldedSetIterable iter env x = pure x := by intro _; rfl) : Stop (wpAny M A (execs (.For tgt iter body [] pos :: rest) env) Q E s) :=
  wpAny_execs_cons (wpAny_For h hs)
end Mine
namespace Mine
noncomputable abbrev rgO (a b c : Int) (t u v : Tok) : Obj := { cls := .type "range", data := .fields #[.int a t, .int b u, .int c v] }
section
variable {prog : Program} {w : World} {A : Around} {E : Value → Shared → Prop} {s : Shared} {env : Env} {h₀ : Heap} {L : Addr} {m : Str → Option Value} {news : List (Addr × Obj)} {Q : Value → Shared → Prop}
theorem range1 {n : Int} {t : Tok} (F : Fr h₀ L s.heap m) (N : News h₀ L s.heap news)
    (h : ∀ r h' tk t₁ t₂, Fr h₀ L h' m → News h₀ L h' ((r, rgO 0 n 1 t₁ t t₂) :: news) → (∀ p ∈ news, p.1 < r) → Q (.ref r) { s with heap := h', toks := tk }) : wpAny (model prog w) A (call (.type "range") [.int n t]) Q E s :=
  call_range_1 (h _ _ _ _ _ (F.push _) (N.push F _) fun p hp => Heap.lt_size (N p hp).1)
theorem range2 {a b : Int} {t u : Tok} (F : Fr h₀ L s.heap m) (N : News h₀ L s.heap news)
    (h : ∀ r h' tk t₂, Fr h₀ L h' m → News h₀ L h' ((r, rgO a b 1 t u t₂) :: news) → (∀ p ∈ news, p.1 < r) → Q (.ref r) { s with heap := h', toks := tk }) : wpAny (model prog w) A (call (.type "range") [.int a t, .int b u]) Q E s :=
  call_range_2 (h _ _ _ _ (F.push _) (N.push F _) fun p hp => Heap.lt_size (N p hp).1)
end
section
variable {prog : Program} {w : World} {A : Around} {E : Value → Shared → Prop} {s : Shared} {env : Env} {h₀ : Heap} {L r : Addr} {x : Str} {px : Pos} {body : List Stmt} {m₀ : Str → Option Value} {news₀ news : List (Addr × Obj)} {Q : Flow → Shared → Prop}
/-- for x in range(a, a + n): news₀ is what the turns need of the ledger -/
theorem for_range {a b : Int} {t u v : Tok} (n : Nat) (J' : (Str → Option Value) → Nat → (Str → Option Value) → List (Addr × Obj) → Prop) (news₀ : List (Addr × Obj))
    (hh : A.handled = none) (F : Fr h₀ L s.heap m₀) (N : News h₀ L s.heap news) (hr : (r, rgO a b 1 t u v) ∈ news) (hsm : Builtin.Range.small a b 1 = true) (hn : Builtin.Range.rangeSize a b 1 = ((n : Nat) : Int))
    (hx : env.kindOf x = some .local) (hp : (env.scope.kind == .class || (env.scope.kind == .module && env.locals != env.globals)) = false) (hL : env.locals = L)
    (sub : ∀ p ∈ news₀, p ∈ news) (j0 : J' m₀ 0 m₀ news₀)
    (turn : ∀ I i m news h tk t o, (∀ p ∈ news₀, p.1 < I) → i < n → J' m₀ i m news → (∀ p ∈ news, p.1 ≠ I) → Fr h₀ L h (fun y => if y = x then some (.int (a + (i : Nat)) t) else m y) → News h₀ L h ((I, o) :: news) →
      wpAny (model prog w) A (execs body env) (TurnEnd h₀ L s [(I, o)] (J' m₀ (i + 1)) Q) (fun _ _ => False) { s with heap := h, toks := tk })
    (done : ∀ m news h tk, J' m₀ n m news → Fr h₀ L h m → News h₀ L h news → Q .next { s with heap := h, toks := tk }) :
    Stop (wpAny (model prog w) A (pyIter (.ref r)) (fun it s₂ => codeAny (model prog w) A (.forLoop (.Name x px) it body [] env) (fun r s' => match r with | .ok f => Q f s' | .error e => cameBackBy (model prog w) A env E e s') s₂) E s) := by
  have hr' : IsRange s.heap r a b 1 t u v := (N _ hr).1
  refine wpAny_pyIter_range hr' hsm ?_
  have F₁ := F.push { cls := .type "range_iterator", data := .fields #[rawInt a, rawInt (Builtin.Range.rangeSize a b 1), rawInt 1] }
  have N₁ := N.push F { cls := .type "range_iterator", data := .fields #[rawInt a, rawInt (Builtin.Range.rangeSize a b 1), rawInt 1] }
  rw [hn] at F₁ N₁ ⊢
  have lt₀ : ∀ p ∈ news₀, p.1 < s.heap.objs.size := fun p hp => Heap.lt_size (N p (sub p hp)).1
  refine loop_range (n := n) (a := a) (st := 1) (I := s.heap.objs.size) (news₀ := news₀) (J' m₀) hh hL hx hp F₁ (fun p hp => ?_) (fun p hp => Nat.ne_of_lt (lt₀ p hp)) j0 ?_ ?_
  · rcases List.mem_cons.mp hp with rfl | hp
    · exact N₁ _ (.head _)
    · exact N₁ _ (.tail _ (sub p hp))
  · intro i m news h tk t hi hJ off F' N'
    rw [Int.mul_one] at F' N' ⊢
    exact turn s.heap.objs.size i m news h tk t _ lt₀ hi hJ off F' N'
  · exact fun m news h tk hJ F' N' _ => done m news h tk hJ F' N'
end
end Mine
namespace Mine
section
variable {prog : Program} {w : World} {A : Around} {E : Value → Shared → Prop} {s : Shared} {env : Env} {h₀ : Heap} {L l : Addr} {x : Str} {px : Pos} {body : List Stmt} {m₀ : Str → Option Value} {news : List (Addr × Obj)} {Q : Flow → Shared → Prop}
/-- for x in l, a list that the turns leave alone -/
theorem for_list {its : Array Value} (J' : (Str → Option Value) → Nat → (Str → Option Value) → List (Addr × Obj) → Prop) (news₀ : List (Addr × Obj))
    (hh : A.handled = none) (F : Fr h₀ L s.heap m₀) (N : News h₀ L s.heap news)
    (hx : env.kindOf x = some .local) (hp : (env.scope.kind == .class || (env.scope.kind == .module && env.locals != env.globals)) = false) (hL : env.locals = L)
    (sub : ∀ p ∈ news₀, p ∈ news) (j0 : J' m₀ 0 m₀ news₀) (hS : ∀ i m news, J' m₀ i m news → LCg.SrcAt h₀ l its news)
    (turn : ∀ I i v m news h tk o, (∀ p ∈ news₀, p.1 < I) → its[i]? = some v → J' m₀ i m news → (∀ p ∈ news, p.1 ≠ I) → Fr h₀ L h (fun y => if y = x then some v else m y) → News h₀ L h ((I, o) :: news) →
      wpAny (model prog w) A (execs body env) (TurnEnd h₀ L s [(I, o)] (J' m₀ (i + 1)) Q) (fun _ _ => False) { s with heap := h, toks := tk })
    (done : ∀ m news h tk, J' m₀ its.size m news → Fr h₀ L h m → News h₀ L h news → Q .next { s with heap := h, toks := tk }) :
    Stop (wpAny (model prog w) A (pyIter (.ref l)) (fun it s₂ => codeAny (model prog w) A (.forLoop (.Name x px) it body [] env) (fun r s' => match r with | .ok f => Q f s' | .error e => cameBackBy (model prog w) A env E e s') s₂) E s) := by
  have hl : s.heap.IsList l its := (hS _ _ _ j0).list F.keep fun p hp => N p (sub p hp)
  refine wpAny_pyIter_list hl ?_
  have F₁ := F.push (liI l 0)
  have N₁ := N.push F (liI l 0)
  have lt₀ : ∀ p ∈ news₀, p.1 < s.heap.objs.size := fun p hp => Heap.lt_size (N p (sub p hp)).1
  refine loop_list (l := l) (its := its) (I := s.heap.objs.size) (news₀ := news₀) (J' m₀) hh hL hx hp F₁ (fun p hp => ?_) (fun p hp => Nat.ne_of_lt (lt₀ p hp)) j0 hS ?_ ?_
  · rcases List.mem_cons.mp hp with rfl | hp
    · exact N₁ _ (.head _)
    · exact N₁ _ (.tail _ (sub p hp))
  · exact fun i v m news h tk o hv hJ off F' N' => turn s.heap.objs.size i v m news h tk o lt₀ hv hJ off F' N'
  · exact fun m news h tk hJ F' N' _ => done m news h tk hJ F' N'
theorem enum1 {its : Array Value} {m : Str → Option Value} {Q : Value → Shared → Prop} (F : Fr h₀ L s.heap m) (N : News h₀ L s.heap news) (hl : s.heap.IsList l its)
    (h : ∀ e it oi h' tk, Fr h₀ L h' m → News h₀ L h' ((e, enO it 0 .none) :: (it, oi) :: news) → (∀ p ∈ news, p.1 < it) → it < e → oi.cls = .type "list_iterator" → oi.data = .fields #[.ref l, .int 0 0] → Q (.ref e) { s with heap := h', toks := tk }) :
    wpAny (model prog w) A (call (.type "enumerate") [.ref l]) Q E s := by
  refine call_enumerate_list hl fun h' he hit hz hk => ?_
  obtain ⟨oi, ho, hc, hd⟩ := hit
  refine h _ _ oi h' s.toks (F.keeps hk) (fun p hp => ?_) (fun p hp => Heap.lt_size (N p hp).1) (Nat.lt_succ_self _) hc hd
  have fresh : ∀ a, s.heap.objs.size ≤ a → a ≠ L ∧ h₀.get? a = none := fun a ha => ⟨fun e => absurd (e ▸ F.ns.lt) (Nat.not_lt.mpr ha), by
    cases e : h₀.get? a with
    | none => rfl
    | some o => exact absurd (Heap.lt_size (F.keep _ _ e)) (Nat.not_lt.mpr ha)⟩
  rcases List.mem_cons.mp hp with rfl | hp
  · exact ⟨he, fresh _ (Nat.le_succ _)⟩
  · rcases List.mem_cons.mp hp with rfl | hp
    · exact ⟨ho, fresh _ (Nat.le_refl _)⟩
    · exact ⟨hk _ _ (N p hp).1, (N p hp).2⟩
theorem for_enum {e it : Addr} {oi : Obj} {xi xv : Str} {pi pv pt : Pos} {x1 : Nat} (n : Nat) (J' : (Str → Option Value) → Nat → (Str → Option Value) → List (Addr × Obj) → Prop) (news₀ : List (Addr × Obj))
    (hh : A.handled = none) (F : Fr h₀ L s.heap m₀) (N : News h₀ L s.heap ((e, enO it 0 .none) :: (it, oi) :: news)) (hoc : oi.cls = .type "list_iterator") (hod : oi.data = .fields #[.ref l, .int 0 0]) (hne : e ≠ it) (off : ∀ p ∈ news₀, p.1 ≠ e ∧ p.1 ≠ it)
    (hxi : env.kindOf xi = some .local) (hxv : env.kindOf xv = some .local) (hp : (env.scope.kind == .class || (env.scope.kind == .module && env.locals != env.globals)) = false) (hL : env.locals = L)
    (sub : ∀ p ∈ news₀, p ∈ news) (j0 : J' m₀ 0 m₀ news₀) (hS : ∀ i m news, J' m₀ i m news → ∃ its : Array Value, LCg.SrcAt h₀ l its news ∧ its.size = n)
    (turn : ∀ i v m news h tk t oI oi its, i < n → LCg.SrcAt h₀ l its news → its[i]? = some v → J' m₀ i m news → (∀ p ∈ news, p.1 ≠ e ∧ p.1 ≠ it) → Fr h₀ L h (fun y => if y = xv then some v else if y = xi then some (.int i t) else m y) → News h₀ L h ((e, oI) :: (it, oi) :: news) →
      wpAny (model prog w) A (execs body env) (TurnEnd h₀ L s [(e, oI), (it, oi)] (J' m₀ (i + 1)) Q) (fun _ _ => False) { s with heap := h, toks := tk })
    (done : ∀ m news h tk, J' m₀ n m news → Fr h₀ L h m → News h₀ L h news → Q .next { s with heap := h, toks := tk }) :
    Stop (wpAny (model prog w) A (pyIter (.ref e)) (fun it s₂ => codeAny (model prog w) A (.forLoop (.Tuple [.Name xi pi, .Name xv pv] x1 pt) it body [] env) (fun r s' => match r with | .ok f => Q f s' | .error e => cameBackBy (model prog w) A env E e s') s₂) E s) := by
  have he : IsEnum s.heap e it 0 .none := (N _ (.head _)).1
  refine wpAny_pyIter_enum he ?_
  refine loop_enum (n := n) (news₀ := news₀) (J' m₀) hh hL hxi hxv hp F (oi₀ := oi) (fun p hp => ?_) hoc hod hne off j0 hS turn ?_
  · rcases List.mem_cons.mp hp with rfl | hp
    · exact N _ (.head _)
    · rcases List.mem_cons.mp hp with rfl | hp
      · exact N _ (.tail _ (.head _))
      · exact N _ (.tail _ (.tail _ (sub p hp)))
  · exact fun m news h tk hJ F' N' _ => done m news h tk hJ F' N'
end
end Mine
/- part B3 -/
open PySem PySem.W PyProof.Rows PySem.Calls
namespace Mine
/-- all objects of the one heap stand in the other -/
noncomputable def Keep (h h' : Heap) : Prop := ∀ b o, h.get? b = some o → h'.get? b = some o
noncomputable def GivesInt (w : World) (A : Around) (f : Addr) (args : List Value) (s : Shared) (v : Int) : Prop :=
  ∀ R : Result → Shared → Prop, (∀ t' h' tk, Keep s.heap h' → R (.ok (.ret (.int v t'))) { s with heap := h', toks := tk }) → codeAny (model Challenge.rw_ox0031_01.row.prog w) A (.call (.ref f) ⟨args, []⟩) R s
noncomputable def GivesInts (w : World) (A : Around) (f : Addr) (args : List Value) (s : Shared) (P : List Int → Prop) : Prop :=
  ∀ R : Result → Shared → Prop, (∀ a (us : Array Value) k h' tk ns, Keep s.heap h' → s.heap.get? a = none → h'.get? a = some (listOf us k) → IntsAre us.toList ns → P ns → R (.ok (.ret (.ref a))) { s with heap := h', toks := tk }) →
    codeAny (model Challenge.rw_ox0031_01.row.prog w) A (.call (.ref f) ⟨args, []⟩) R s
section
variable {w : World} {A : Around} {E : Value → Shared → Prop} {s : Shared} {f : Addr} {args : List Value} {h₀ : Heap} {L : Addr} {m : Str → Option Value} {news : List (Addr × Obj)} {Q : Value → Shared → Prop}
theorem GivesInt.use {v : Int} (C : GivesInt w A f args s v) (F : Fr h₀ L s.heap m) (N : News h₀ L s.heap news)
    (h : ∀ t' h' tk, Fr h₀ L h' m → News h₀ L h' news → Q (.int v t') { s with heap := h', toks := tk }) : wpAny (model Challenge.rw_ox0031_01.row.prog w) A (call (.ref f) args) Q E s :=
  wpAny_call (C _ fun t' h' tk k => h t' h' tk (F.keeps k) (N.grown k))
theorem news_new {h₀ h h' : Heap} {L a : Addr} {m : Str → Option Value} {news : List (Addr × Obj)} {o : Obj} (F : Fr h₀ L h m) (N : News h₀ L h news) (k : Keep h h') (hn : h.get? a = none) (ho : h'.get? a = some o) :
    News h₀ L h' ((a, o) :: news) ∧ ∀ p ∈ news, p.1 ≠ a := by
  refine ⟨fun p hp => ?_, fun p hp e => ?_⟩
  · rcases List.mem_cons.mp hp with rfl | hp
    · refine ⟨ho, fun e => ?_, ?_⟩
      · obtain ⟨o, _, _, e', _⟩ := F.ns
        have e2 : a = L := e
        rw [e2, e'] at hn; cases hn
      · cases e : h₀.get? a with
        | none => rfl
        | some o => rw [F.keep _ _ e] at hn; cases hn
    · exact ⟨k _ _ (N p hp).1, (N p hp).2⟩
  · rw [← e, (N p hp).1] at hn; cases hn
theorem GivesInts.use {P : List Int → Prop} (C : GivesInts w A f args s P) (F : Fr h₀ L s.heap m) (N : News h₀ L s.heap news)
    (h : ∀ a us k h' tk ns, Fr h₀ L h' m → News h₀ L h' ((a, listOf us k) :: news) → (∀ p ∈ news, p.1 ≠ a) → IntsAre us.toList ns → P ns → Q (.ref a) { s with heap := h', toks := tk }) : wpAny (model Challenge.rw_ox0031_01.row.prog w) A (call (.ref f) args) Q E s :=
  wpAny_call (C _ fun a us k h' tk ns kp hn ho hi hP => let ⟨N', off⟩ := news_new F N kp hn ho; h a us k h' tk ns (F.keeps kp) N' off hi hP)
end
theorem src_uniq {h₀ h : Heap} {L l : Addr} {m : Str → Option Value} {news all : List (Addr × Obj)} {its its' : Array Value} {k : Nat} (S : LCg.SrcAt h₀ l its' news) (F : Fr h₀ L h m) (N : News h₀ L h all) (sub : ∀ p ∈ news, p ∈ all) (hm : (l, listOf its k) ∈ news) : its' = its := by
  obtain ⟨o, ho, hc, n, hd⟩ := S.list F.keep (fun p hp => N p (sub p hp))
  rw [(N _ (sub _ hm)).1] at ho
  cases ho
  injection hd with e _
  exact e.symm
theorem ints_set : ∀ {vs : List Value} {ns : List Int}, IntsAre vs ns → ∀ (i : Nat) (n : Int) (t : Tok), IntsAre (vs.set i (.int n t)) (ns.set i n)
  | _, _, .nil, i, n, t => by simpa using IntsAre.nil
  | _, _, .cons a u h, 0, n, t => .cons n t h
  | _, _, .cons a u h, i + 1, n, t => .cons a u (ints_set h i n t)
/-- what stands around a call -/
structure Cx (w : World) (d : Nat) (A : Around) (h : Heap) : Prop where
  X : (hd.heap_39 w.params).In h
  T : ∃ loose mean mg mb, Top hd.view_39 loose mean mg mb h
  hh : A.handled = none
  dp : A.depth + d < recursionLimit
  un : A.units + 10 * d < cLine
theorem Cx.callee {w : World} {d : Nat} {A : Around} {h₀ h : Heap} {L : Addr} {m : Str → Option Value} {env : Env} {loose : List Str} {mean : ExcName → Option Value} {mg mb : Str → Option Value}
    (F : Fr h₀ L h m) (X : (hd.heap_39 w.params).In h₀) (T : Top hd.view_39 loose mean mg mb h₀) (hh : A.handled = none) (dp : A.depth + (d + 1) < recursionLimit) (un : A.units + (10 * d + 10) < cLine) : Cx w d (A.deeper env) h :=
  ⟨X.keeps F.keep, ⟨_, _, _, _, T.keeps F.keep⟩, hh, by show A.depth + 1 + d < recursionLimit; omega, by show A.units + 3 + 10 * d < cLine; omega⟩
theorem small9 {a b : Nat} (ha : a ≤ 64) (hb : b ≤ 64) : Builtin.Range.small (a : Int) (b : Int) 1 = true := small_one (by omega) (by omega) (by omega) (by omega)
theorem small09 {b : Nat} (hb : b ≤ 64) : Builtin.Range.small 0 (b : Int) 1 = true := small9 (a := 0) (by decide) hb
theorem rsize9 {a b : Nat} (h : a ≤ b) : Builtin.Range.rangeSize (a : Int) (b : Int) 1 = ((b - a : Nat) : Int) := by rw [rangeSize_one]; split <;> omega
theorem rsize09 (b : Nat) : Builtin.Range.rangeSize 0 (b : Int) 1 = (b : Int) := rsize9 (a := 0) (Nat.zero_le b)
theorem room9 {a b c n : Nat} (h : a + c < n) (hb : b ≤ c) : a + b < n := Nat.lt_of_le_of_lt (Nat.add_le_add_left hb _) h
theorem room0 {a c n : Nat} (h : a + c < n) : a < n := Nat.lt_of_le_of_lt (Nat.le_add_right _ _) h
end Mine
/- part F3 -/
open PySem PySem.W PyProof.Rows PySem.Calls
namespace Mine
set_option linter.unusedVariables false
set_option maxRecDepth 100000 in
set_option maxHeartbeats 8000000 in
theorem ctoi_call {w : World} {A : Around} {s : Shared} {n : Int} {t : Tok} (C : Cx w 5 A s.heap) : GivesInt w A 159 [.int n t] s n := by
  intro R ret
  obtain ⟨X, ⟨loose, mean, mg, mb, T⟩, hh, dp, un⟩ := C
  revert X; k_fill; intro X
  (refine' enter _ ?k1 ?k2 ?k6 ?k7 ?k8 ?k9 ?kR ?kB ?_ ?c2 ?c3 ?c4 ?c5; (case k1 => assumption); (case k2 => assumption); (case k6 => k_is); (case k7 => k_is); (case k8 => exact room0 (by assumption)); (case k9 => exact BindsTo.of_eq rfl); (case kR => exact rfl); (case kB => exact locs rfl); (case c2 => rfl); (case c3 => rfl); (case c4 => rfl); (case c5 => decide))
  intro h₁ tk (F : Fr s.heap s.heap.objs.size h₁ (ov [(Str.ofString "c", .int n t)] fun _ => none)) N
  k_steps
  exact ret _ _ _ F.keep
set_option maxRecDepth 100000 in
set_option maxHeartbeats 8000000 in
theorem ctrl_call {w : World} {A : Around} {s : Shared} {n : Int} {t : Tok} (C : Cx w 10 A s.heap) (h0 : 0 ≤ n) : GivesInt w A 166 [.int n t] s (n % 32) := by
  intro R ret
  obtain ⟨X, ⟨loose, mean, mg, mb, T⟩, hh, dp, un⟩ := C
  revert X; k_fill; intro X
  (refine' enter _ ?k1 ?k2 ?k6 ?k7 ?k8 ?k9 ?kR ?kB ?_ ?c2 ?c3 ?c4 ?c5; (case k1 => assumption); (case k2 => assumption); (case k6 => k_is); (case k7 => k_is); (case k8 => exact room0 (by assumption)); (case k9 => exact BindsTo.of_eq rfl); (case kR => exact rfl); (case kB => exact locs rfl); (case c2 => rfl); (case c3 => rfl); (case c4 => rfl); (case c5 => decide))
  intro h₁ tk (F : Fr s.heap s.heap.objs.size h₁ (ov [(Str.ofString "c", .int n t)] fun _ => none)) N
  k_steps
  refine (ctoi_call (Cx.callee F X T hh (by omega) (by omega))).use F N ?_
  intro t' h' tk' F N
  (try dsimp only)
  k_steps
  rw [bitAnd_m5]
  exact ret _ _ _ F.keep
end Mine
/- part F2 -/
open PySem PySem.W PyProof.Rows PySem.Calls
namespace Mine
set_option linter.unusedVariables false
local macro_rules | `(tactic| walk_at "execs cons For") => `(tactic| refine Mine.stop ?_)
theorem fold_in {x : Int} : ∀ (ps : List Int) (a : Int), 0 ≤ a ∧ a < 32 → 0 ≤ ps.foldl (fun v p => (v * x + p) % 32) a ∧ ps.foldl (fun v p => (v * x + p) % 32) a < 32
  | [], _, h => h
  | p :: r, a, _ => fold_in r _ ⟨Int.emod_nonneg _ (by decide), Int.emod_lt_of_pos _ (by decide)⟩
noncomputable def cutF (ps : List Int) (x : Int) : Int := ps.reverse.foldl (fun v p => (v * x + p) % 32) 0
noncomputable def cutTo (qs : List Int) (x : Int) (i : Nat) : Int := (qs.take i).foldl (fun v p => (v * x + p) % 32) 0
theorem cutTo_succ {qs : List Int} {x p : Int} {i : Nat} (h : qs[i]? = some p) : cutTo qs x (i + 1) = (cutTo qs x i * x + p) % 32 := by unfold cutTo; rw [List.take_add_one, h]; simp
theorem cutTo_all (qs : List Int) (x : Int) : cutTo qs x qs.length = qs.foldl (fun v p => (v * x + p) % 32) 0 := by unfold cutTo; rw [List.take_length]
theorem cutTo_in (qs : List Int) (x : Int) (i : Nat) : 0 ≤ cutTo qs x i ∧ cutTo qs x i < 32 := fold_in _ _ ⟨by decide, by decide⟩
inductive JC (D : Addr) (ws : List Value) (qs : List Int) (x : Int) (m₀ : Str → Option Value) (i : Nat) (m : Str → Option Value) (news : List (Addr × Obj)) : Prop
  | mk (tv : Tok) (hm : Same [Str.ofString "part"] m (ov [(Str.ofString "value", .int (cutTo qs x i) tv)] m₀)) (hn : news = [(D, listOf ws.toArray 0)])
set_option maxRecDepth 100000 in
set_option maxHeartbeats 8000000 in
theorem cut_call {w : World} {A : Around} {s : Shared} {l : Addr} {vs : List Value} {ps : List Int} {x : Int} {t : Tok} (C : Cx w 15 A s.heap)
    (hl : s.heap.IsList l vs.toArray) (hi : IntsAre vs ps) (hlen : ps.length = 6) (hb : ∀ p ∈ ps, 0 ≤ p ∧ p < 8) (hx : 0 ≤ x ∧ x < 32) : GivesInt w A 180 [.ref l, .int x t] s (cutF ps x) := by
  intro R ret
  obtain ⟨X, ⟨loose, mean, mg, mb, T⟩, hh, dp, un⟩ := C
  revert X; k_fill; intro X
  (refine' enter _ ?k1 ?k2 ?k6 ?k7 ?k8 ?k9 ?kR ?kB ?_ ?c2 ?c3 ?c4 ?c5; (case k1 => assumption); (case k2 => assumption); (case k6 => k_is); (case k7 => k_is); (case k8 => exact room0 (by assumption)); (case k9 => exact BindsTo.of_eq rfl); (case kR => exact rfl); (case kB => exact locs rfl); (case c2 => rfl); (case c3 => rfl); (case c4 => rfl); (case c5 => decide))
  intro h₁ tk (F : Fr s.heap s.heap.objs.size h₁ (ov [(Str.ofString "x", .int x t), (Str.ofString "parts", .ref l)] fun _ => none)) N
  k_steps
  refine for_ ?_
  k_steps
  (try dsimp only)
  rename_i D ws _ F N hI _ _
  refine for_list (its := ws.toArray) (fun m₀ i m news => JC D ws ps.reverse x m₀ i m news) [(D, listOf ws.toArray 0)] hh F N rfl rfl rfl (fun p hp => hp) ?_ ?_ ?_ ?_
  · exact ⟨_, .start1 rfl, rfl⟩
  · rintro i m _ ⟨tv, _, rfl⟩
    exact .inr ⟨_, .head _, rfl, _, rfl⟩
  · rintro I i v m _ h tk o lt hv ⟨tv, hm, rfl⟩ off F N
    rw [hm.eq] at F
    refine post fun P9 hP => ?_
    have hcI := ltN (lt _ (.head _))
    obtain ⟨p, tp, rfl, hp⟩ := hI.at i v (by simpa using hv)
    have hpb := hb p (by simpa using List.mem_of_getElem? hp)
    have hs := cutTo_succ (x := x) hp
    have hvb := cutTo_in ps.reverse x i
    generalize cutTo ps.reverse x i = a at *
    have hax : 0 ≤ a * x := Int.mul_nonneg hvb.1 hx.1
    k_steps
    refine (ctrl_call (Cx.callee F X T hh (room9 dp (by decide)) (room9 un (by decide))) (Int.add_nonneg hax hpb.1)).use F N ?_
    intro t' h' tk' F N
    (try dsimp only)
    rw [← hs] at *
    k_steps
    rename Fr _ _ _ _ => F
    rename News _ _ _ _ => N
    refine hP _ _ ?_
    exact TurnEnd.next F N (fun q hq p hp => by simp at hq hp; subst hq hp; exact off _ (.head _)) ⟨_, (Same.skip .mixed (.head _)).put, rfl⟩
  · rintro m _ h tk ⟨tv, hm, rfl⟩ F N
    rw [hm.eq] at F
    have hsz : ws.toArray.size = ps.reverse.length := by simpa using hI.length
    rw [hsz, cutTo_all] at F
    k_steps
    exact ret _ _ _ F.keep
theorem pfold_in {x turn : Int} (ht : 0 < turn) (ht' : turn ≤ 32) : ∀ (ps : List Int) (a : Int × Int), (0 ≤ a.1 ∧ a.1 < 33 ∧ 0 ≤ a.2 ∧ a.2 < 33) → 0 ≤ (ps.foldl (fun a p => ((a.1 + p * a.2) % turn, a.2 * x % turn)) a).1 ∧ (ps.foldl (fun a p => ((a.1 + p * a.2) % turn, a.2 * x % turn)) a).1 < 33 ∧ 0 ≤ (ps.foldl (fun a p => ((a.1 + p * a.2) % turn, a.2 * x % turn)) a).2 ∧ (ps.foldl (fun a p => ((a.1 + p * a.2) % turn, a.2 * x % turn)) a).2 < 33
  | [], _, h => h
  | p :: r, a, _ => pfold_in ht ht' r _ ⟨Int.emod_nonneg _ (by omega), by have := Int.emod_lt_of_pos (a.1 + p * a.2) ht; dsimp only; omega, Int.emod_nonneg _ (by omega), by have := Int.emod_lt_of_pos (a.2 * x) ht; dsimp only; omega⟩
noncomputable def plainF (ps : List Int) (x turn : Int) : Int × Int := ps.foldl (fun a p => ((a.1 + p * a.2) % turn, a.2 * x % turn)) (0, 1)
noncomputable def plTo (ps : List Int) (x turn : Int) (i : Nat) : Int × Int := (ps.take i).foldl (fun a p => ((a.1 + p * a.2) % turn, a.2 * x % turn)) (0, 1)
theorem plTo_succ {ps : List Int} {x turn p : Int} {i : Nat} (h : ps[i]? = some p) : plTo ps x turn (i + 1) = (((plTo ps x turn i).1 + p * (plTo ps x turn i).2) % turn, (plTo ps x turn i).2 * x % turn) := by unfold plTo; rw [List.take_add_one, h]; simp
theorem plTo_all (ps : List Int) (x turn : Int) : plTo ps x turn ps.length = plainF ps x turn := by unfold plTo; rw [List.take_length]; rfl
theorem plTo_in (ps : List Int) {x turn : Int} (ht : 0 < turn) (ht' : turn ≤ 32) (i : Nat) : 0 ≤ (plTo ps x turn i).1 ∧ (plTo ps x turn i).1 < 33 ∧ 0 ≤ (plTo ps x turn i).2 ∧ (plTo ps x turn i).2 < 33 := pfold_in (x := x) ht ht' _ (0, 1) ⟨by simp, by simp, by simp, by simp⟩
inductive JP (ps : List Int) (x turn : Int) (m₀ : Str → Option Value) (i : Nat) (m : Str → Option Value) (news : List (Addr × Obj)) : Prop
  | mk (tv tw : Tok) (hm : Same [Str.ofString "part"] m (ov [(Str.ofString "total", .int (plTo ps x turn i).1 tv), (Str.ofString "power", .int (plTo ps x turn i).2 tw)] m₀)) (hn : news = [])
set_option maxRecDepth 100000 in
set_option maxHeartbeats 8000000 in
theorem plain_call {w : World} {A : Around} {s : Shared} {l : Addr} {vs : List Value} {ps : List Int} {x turn : Int} {t u : Tok} (C : Cx w 15 A s.heap)
    (hl : s.heap.IsList l vs.toArray) (hi : IntsAre vs ps) (hlen : ps.length = 6) (hb : ∀ p ∈ ps, 0 ≤ p ∧ p < 8) (hx : 0 ≤ x ∧ x < 32) (ht : 0 < turn ∧ turn ≤ 32) : GivesInt w A 187 [.ref l, .int x t, .int turn u] s (plainF ps x turn).1 := by
  intro R ret
  obtain ⟨X, ⟨loose, mean, mg, mb, T⟩, hh, dp, un⟩ := C
  revert X; k_fill; intro X
  (refine' enter _ ?k1 ?k2 ?k6 ?k7 ?k8 ?k9 ?kR ?kB ?_ ?c2 ?c3 ?c4 ?c5; (case k1 => assumption); (case k2 => assumption); (case k6 => k_is); (case k7 => k_is); (case k8 => exact room0 (by assumption)); (case k9 => exact BindsTo.of_eq rfl); (case kR => exact rfl); (case kB => exact locs rfl); (case c2 => rfl); (case c3 => rfl); (case c4 => rfl); (case c5 => decide))
  intro h₁ tk (F : Fr s.heap s.heap.objs.size h₁ (ov [(Str.ofString "turn", .int turn u), (Str.ofString "x", .int x t), (Str.ofString "parts", .ref l)] fun _ => none)) N
  k_steps
  refine for_ ?_
  k_steps
  (try dsimp only)
  rename_i F N
  refine for_list (its := vs.toArray) (fun m₀ i m news => JP ps x turn m₀ i m news) [] hh F N rfl rfl rfl (fun p hp => hp) ?_ ?_ ?_ ?_
  · exact ⟨_, _, .start2 rfl rfl, rfl⟩
  · rintro i m _ ⟨tv, tw, _, rfl⟩
    exact .inl hl
  · rintro I i v m _ h tk o lt hv ⟨tv, tw, hm, rfl⟩ off F N
    rw [hm.eq] at F
    obtain ⟨p, tp, rfl, hp⟩ := hi.at i v (by simpa using hv)
    have hpb := hb p (by simpa using List.mem_of_getElem? hp)
    have hs := plTo_succ (x := x) (turn := turn) hp
    have hvb := plTo_in ps (x := x) ht.1 ht.2 i
    refine post fun P9 hP => ?_
    replace hP : ∀ f s', _ → P9 f s' := hP
    generalize plTo ps x turn i = a at F hs hvb
    obtain ⟨a1, a2⟩ := a
    dsimp only at hs hvb F
    k_steps
    rename Fr _ _ _ _ => F
    rename News _ _ _ _ => N
    rw [Int.fmod_eq_emod_of_nonneg _ (by omega), Int.fmod_eq_emod_of_nonneg _ (by omega)] at F
    refine hP _ _ ?_
    exact TurnEnd.next F N (fun q hq p hp => nomatch hp) ⟨_, _, by rw [hs]; exact Same.put2 (Same.put (Same.skip .mixed (.head _))) (by decide), rfl⟩
  · rintro m _ h tk ⟨tv, tw, hm, rfl⟩ F N
    rw [hm.eq] at F
    have hsz : vs.toArray.size = ps.length := by simpa using hi.length
    rw [hsz, plTo_all] at F
    k_steps
    exact ret _ _ _ F.keep
end Mine
theorem Mine.afreshF2 : True ∧ True := by
  w_top off
  walk1 <;> trivial
/- part O1 -/
open PySem PySem.W PyProof.Rows PySem.Calls
namespace Mine
set_option maxRecDepth 100000
noncomputable abbrev nulO : Obj := { cls := .type "object", data := .plain }
theorem on_run : Builtin.«object.__new__» ⟨[.type "object"], []⟩ = (newObj (.type "object") .plain none >>= fun v => ret v) := by kernel_rfl
theorem on_mro : mroOf (.type "object") = pure [.type "object"] := by rw [mroOf_type]; kernel_rfl
theorem on_lookup : typeLookup (.type "object") "__new__" = pure (some (.builtin "object.__new__")) := by rw [typeLookup_type, builtinLookup_eq_fast]; kernel_rfl
theorem on_entry : entryFor table "object.__new__" = some Builtin.«object.__new__» := entryFor_of_tree (by kernel_rfl)
theorem on_tc : checkTypeCall "object" ⟨[], []⟩ = pure () := by kernel_rfl
theorem on_nc : checkBuiltinCall "object.__new__" ⟨[.type "object"], []⟩ = pure () := by kernel_rfl
theorem called_object : TypeCalled "object" "object.__new__" "object.__init__" :=
  ⟨by decide +kernel, by decide +kernel, ⟨_, _, on_mro⟩, madeBy_type on_mro on_lookup (by decide +kernel), by decide +kernel, by rw [isSubtype_type]; kernel_rfl, F.slot_object_init⟩
section
variable {prog : Program} {w : World} {A : Around} {E : Value → Shared → Prop} {s : Shared} {Q : Value → Shared → Prop} {h₀ : Heap} {L : Addr} {m : Str → Option Value} {news : List (Addr × Obj)}
theorem call_object (FF : Fr h₀ L s.heap m) (N : News h₀ L s.heap news)
    (h : ∀ x h', Fr h₀ L h' m → News h₀ L h' ((x, nulO) :: news) → (∀ p ∈ news, p.1 < x) → Q (.ref x) { s with heap := h' }) : wpAny (model prog w) A (call (.type "object") []) Q E s := by
  refine callType_meets (Q₁ := fun obj s₁ => s₁.TypeIs obj "object" ∧ Q obj s₁) (S := fun _ R s => R (.ok (.ret (.ref s.heap.objs.size))) { s with heap := s.heap.push nulO }) called_object on_tc on_nc on_entry F.entry_object_init ?_ ?_ ?_
  · refine Meets.of_wp fun prog w A R s hs => ?_
    rw [on_run]
    exact wpAny_bind (wpAny_newObj_type (wpAny_pure ⟨_, rfl, hs⟩))
  · exact ⟨⟨_, Heap.get?_push_size _ rfl, rfl⟩, h _ _ (FF.push _) (N.push FF _) fun p hp => Heap.lt_size (N p hp).1⟩
  · intro obj s₁ hq
    refine ⟨hq.1, F.args_object_init_1 obj, fun _ R s => R (.ok (.ret .none)) s, Meets.of_wp fun prog w A R s hs => wpAny_pure ⟨_, rfl, hs⟩, rfl, hq.2⟩
theorem obj_eq_declines (x : Addr) (n : Int) (t : Tok) : Meets (Builtin.«object.__eq__» ⟨[.ref x, .int n t], []⟩) (fun _ R s => s.heap.get? x = some nulO ∧ R (.ok (.ret .notImplemented)) s) :=
  .of_wp fun prog w A R s h => by obtain ⟨hp, g, d, tk, os⟩ := s; obtain ⟨hl, h⟩ := h; wp_walk using wpAny_load hl; exact ⟨_, rfl, h⟩
theorem int_eq_declines (x : Addr) (n : Int) (t : Tok) : Meets (Builtin.«int.__eq__» ⟨[.int n t, .ref x], []⟩) (fun _ R s => s.heap.get? x = some nulO ∧ R (.ok (.ret .notImplemented)) s) :=
  .of_wp fun prog w A R s h => by obtain ⟨hp, g, d, tk, os⟩ := s; obtain ⟨hl, h⟩ := h; wp_walk using wpAny_load hl; exact ⟨_, rfl, h⟩
theorem sub_int_object : isSubtype (.type "int") (.type "object") = pure true := by rw [isSubtype_type]; kernel_rfl
theorem eq_obj_int {x : Addr} {n : Int} {t : Tok} (hx : s.heap.get? x = some nulO) (hu : A.units < cLine) (h : Q (.bool false) s) : wpAny (model prog w) A (compareOp .Eq (.ref x) (.int n t)) Q E s := by
  show wpAny _ A (richCompare .Eq (.ref x) (.int n t)) Q E s
  have ha : s.TypeIs (.ref x) "object" := ⟨_, hx, rfl⟩
  have hb : s.TypeIs (.int n t) "int" := typeIs_int s n t
  simp only [richCompare, ha.oneThing_none]
  try with_reducible refine wpAny_holding ?_
  refine wpAny_bind (wpAny_cRoomFor_or (.inr hu) ?_)
  refine wpAny_bind (wpAny_typeOf ha (wpAny_bind (wpAny_typeOf hb ?_)))
  simp only [show ((Value.type "object" != Value.type "int") = true) from by decide, if_true]
  refine wpAny_bind (wpAny_of_eq sub_int_object ?_)
  simp only [if_true, Bool.not_true, Bool.false_eq_true, if_false]
  refine wpAny_bind (m := tryCompare (.int n t) _ (.ref x)) (wpAny_tryCompare_declines hb F.slot_int_eq_refl (call_meets F.slot_int_eq_refl hb F.entry_int_eq (F.args_int_eq_2 _ _) (int_eq_declines x n t) ⟨hx, rfl, ?_⟩))
  refine wpAny_bind (m := tryCompare (.ref x) _ (.int n t)) (wpAny_tryCompare_declines ha F.slot_object_eq (call_meets F.slot_object_eq ha F.entry_object_eq (F.args_object_eq_2 _ _) (obj_eq_declines x n t) ⟨hx, rfl, ?_⟩))
  exact wpAny_bind (wpAny_rule (wpAny_bind (wpAny_pure (wpAny_pure h))))
end
end Mine
/- part M0 -/
open PySem PySem.W PyProof.Rows PySem.Calls
namespace Mine
set_option linter.unusedVariables false
set_option maxRecDepth 100000
section
variable (w : World) (S : Setting) (D : Addr)
theorem pk1 : peek (hd.heap_39 w.params) S (checkBuiltinCall "tuple.__new__" ⟨[.ref 142, .ref D], []⟩) = some () := by kernel_rfl
theorem pk2 : peek (hd.heap_39 w.params) S (isType (.ref 142)) = some true := by kernel_rfl
theorem pk3 : peek (hd.heap_39 w.params) S (isSubtype (.ref 142) (.type "tuple")) = some true := by kernel_rfl
theorem pk4 : peek (hd.heap_39 w.params) S (Bind.madeHere "tuple.__new__" (.ref 142)) = some () := by kernel_rfl
theorem pk5 : peek (hd.heap_39 w.params) S (typeLookup (.ref 142) "__init__") = some (some (.builtin "object.__init__")) := by kernel_rfl
theorem pk6 : peek (hd.heap_39 w.params) S (specialOf (.ref 142) "__call__") = some (some (.builtin "type.__call__")) := by kernel_rfl
theorem pk7 : peek (hd.heap_39 w.params) S (isInstance (.ref 142) (.type "type")) = some true := by kernel_rfl
theorem pk8 : peek (hd.heap_39 w.params) S (mroOf (.ref 142)) = some [.ref 142, .type "tuple", .type "object"] := by kernel_rfl
theorem pk9 : peek (hd.heap_39 w.params) S (Bind.madeBy (.ref 142)) = some none := by kernel_rfl
theorem pk10 : peek (hd.heap_39 w.params) S (isSubtype (.ref 142) (.ref 142)) = some true := by kernel_rfl
theorem pk11 : peek (hd.heap_39 w.params) S (isSubtype (.ref 142) (.type "object")) = some true := by kernel_rfl
theorem pk12 : findCls (hd.heap_39 w.params) (.type "tuple") (.type "type") (Str.ofString "__new__") = some (.val (.builtin "tuple.__new__")) := by kernel_rfl
end
noncomputable abbrev rowO (d : Addr) (xs : Array Value) : Obj := { cls := .ref 142, dict := some d, data := .seq xs }
theorem tn_entry : entryFor table "tuple.__new__" = some Builtin.«tuple.__new__» := entryFor_of_tree (by kernel_rfl)
theorem tn_quiet (args : Args) : (Code.builtin "tuple.__new__" args).quiet = true := Code.quiet_builtin _ (by decide +kernel)
theorem keep_push {h : Heap} (o : Obj) : Keep h (h.push o) := fun _ _ e => Heap.get?_push_of_some _ e
theorem Keep.trans {h h' h'' : Heap} (a : Keep h h') (b : Keep h' h'') : Keep h h'' := fun _ _ e => b _ _ (a _ _ e)
theorem size_of_keep {h h' : Heap} (k : Keep h h') (L : Addr) {o : Obj} (e : h.get? L = some o) : L < h'.objs.size := Heap.lt_size (k _ _ e)
noncomputable def noDel (o : Obj) : Bool := match o.data with | .cls cd => !cd.hasDel | _ => false
theorem lookC' (w : World) : ((hd.heap_39 w.params).lookup 142).any noDel = true := by kernel_rfl
theorem lookC (w : World) : ∃ oc od cd sl, (hd.heap_39 w.params).lookup 142 = some ⟨oc, od, .cls cd, sl⟩ ∧ cd.hasDel = false := by
  have e := lookC' w
  cases q : (hd.heap_39 w.params).lookup 142 with
  | none => rw [q] at e; cases e
  | some o =>
    rw [q] at e
    obtain ⟨oc, od, dt, sl⟩ := o
    cases dt <;> first | cases e | skip
    rename_i cd
    exact ⟨_, _, _, _, rfl, by simpa [noDel] using e⟩
theorem tt0 : typeOf (.type "tuple") = pure (.type "type") := by kernel_rfl
theorem tt1 : Manifest.isStub "tuple" = false := by decide +kernel
theorem tt2 : handedIn (.builtin "tuple.__new__") = true := by decide +kernel
theorem tupleNew_call {w : World} {A : Around} {s : Shared} {E : Value → Shared → Prop} {Q : Value → Shared → Prop} {D : Addr} {xs : Array Value} (X : (hd.heap_39 w.params).In s.heap)
    (hD : s.heap.get? D = some { cls := .type "tuple", data := .seq xs }) (hsz : xs.size ≤ sizeLine)
    (h : ∀ x d h', Keep s.heap h' → s.heap.get? x = none → h'.get? x = some (rowO d xs) → Q (.ref x) { s with heap := h' }) :
    wpAny (model Challenge.rw_ox0031_01.row.prog w) A (call (.builtin "tuple.__new__") [.ref 142, .ref D]) Q E s := by
  refine wpAny_call (codeAny_call_builtin_code (tn_quiet _) ((Looks.of_peek X (pk1 w _ D)).here (codeAny_builtin tn_entry ?_)))
  unfold Builtin.«tuple.__new__»
  dsimp only
  refine wpAny_bind ((Looks.of_peek X (pk2 w _)).here ?_)
  simp only [Bool.not_true, Bool.false_eq_true, if_false]
  refine wpAny_bind ((Looks.of_peek X (pk3 w _)).here ?_)
  simp only [Bool.not_true, Bool.false_eq_true, if_false]
  refine wpAny_bind ((Looks.of_peek X (pk4 w _)).here ?_)
  refine wpAny_bind ((Looks.of_peek X (pk5 w _)).here ?_)
  rw [if_pos (by decide)]
  refine wpAny_bind (m := noKeywords _ _) (wpAny_of_eq (a := ()) (by rfl) ?_)
  refine wpAny_bind (m := checkCount _ _ _ _) (wpAny_of_eq (a := ()) (by rfl) ?_)
  rw [if_neg (by decide)]
  refine wpAny_bind (wpAny_collect_seq (T := "tuple") (hsz := hsz) D (.inr rfl) hD rfl rfl fun h' k => wpAny_bind (wpAny_pure (wpAny_bind (wpAny_alloc (wpAny_bind ?_)))))
  obtain ⟨oc, od, cd, sl, hC, hdel⟩ := lookC w
  have hC' : s.heap.get? 142 = some _ := X _ _ hC
  have hC2 : (h'.push { cls := .type "dict", data := .dict #[] }).get? 142 = some _ := Heap.get?_push_of_some _ (k _ _ hC')
  unfold newObj
  dsimp only
  rw [if_neg (by simp; omega)]
  unfold newObjAsIs classHasDel
  refine wpAny_bind (wpAny_alloc ?_)
  dsimp only
  refine wpAny_bind (wpAny_bind (wpAny_load (Heap.get?_push_of_some _ hC2) (wpAny_pure ?_)))
  rw [hdel]
  simp only [Bool.false_eq_true, if_false]
  refine wpAny_pure (wpAny_pure ?_)
  refine h _ h'.objs.size _ (Keep.trans k (Keep.trans (keep_push _) (keep_push _))) ?_ ?_
  · cases e : s.heap.get? (h'.push { cls := .type "dict", data := .dict #[] }).objs.size with
    | none => rfl
    | some o =>
      have := Heap.lt_size (Heap.get?_push_of_some { cls := .type "dict", data := .dict #[] } (k _ _ e))
      exact absurd this (Nat.lt_irrefl _)
  · have z := Heap.get?_push_size (h'.push { cls := .type "dict", data := .dict #[] }) (o := rowO h'.objs.size xs) rfl
    simpa using z
end Mine
/- part M1 -/
open PySem PySem.W PyProof.Rows PySem.Calls
namespace Mine
set_option linter.unusedVariables false
set_option maxRecDepth 100000
local macro_rules | `(tactic| walk_at "getMethod type:tuple") => `(tactic| refine Mine.stop ?_)
local macro_rules | `(tactic| walk_at "call builtin:tuple.__new__") => `(tactic| refine Mine.stop ?_)
set_option maxHeartbeats 8000000 in
theorem new_call {w : World} {A : Around} {s : Shared} {R : Result → Shared → Prop} {a b c : Int} {ta tb tc : Tok} (C : Cx w 5 A s.heap)
    (ret : ∀ x d h' tk, Keep s.heap h' → s.heap.get? x = none → h'.get? x = some (rowO d #[.int a ta, .int b tb, .int c tc]) → R (.ok (.ret (.ref x))) { s with heap := h', toks := tk }) :
    codeAny (model Challenge.rw_ox0031_01.row.prog w) A (.call (.ref 89) ⟨[.ref 142, .int a ta, .int b tb, .int c tc], []⟩) R s := by
  obtain ⟨X, ⟨loose, mean, mg, mb, T⟩, hh, dp, un⟩ := C
  obtain ⟨hd9, dp9, fr9, gd9, un9⟩ := A
  obtain rfl : hd9 = none := hh
  replace dp : dp9 + 5 < recursionLimit := dp
  replace un : un9 + 10 * 5 < cLine := un
  revert X; k_fill; intro X
  (refine' enter _ ?k1 ?k2 ?k6 ?k7 ?k8 ?k9 ?kR ?kB ?_ ?c2 ?c3 ?c4 ?c5; (case k1 => assumption); (case k2 => assumption); (case k6 => k_is); (case k7 => k_is); (case k8 => ((try dsimp only); exact room0 (by assumption))); (case k9 => exact BindsTo.of_eq rfl); (case kR => exact rfl); (case kB => exact locs rfl); (case c2 => rfl); (case c3 => rfl); (case c4 => rfl); (case c5 => decide))
  intro h₁ tk (F : Fr s.heap s.heap.objs.size h₁ (ov [(Str.ofString "value", .int c tc), (Str.ofString "expected", .int b tb), (Str.ofString "actual", .int a ta), (Str.ofString "_cls", .ref 142)] fun _ => none)) N
  k_steps
  (try dsimp only)
  refine Stop.go (method_type (T := "tuple") F X tt0 tt1 (pk12 w) tt2 ?_)
  (try dsimp only)
  k_steps
  (try dsimp only)
  rename Fr _ _ _ _ => F
  rename News _ _ _ _ => N
  refine Stop.go (tupleNew_call (X.keeps F.keep) (N _ (.head _)).1 (by show (3 : Nat) ≤ sizeLine; decide) ?_)
  intro x d h' k hn ho
  refine ret x d h' _ (Keep.trans F.keep k) ?_ ho
  cases e : s.heap.get? x with
  | none => rfl
  | some o => rw [F.keep _ _ e] at hn; cases hn
theorem pk13 (w : World) : readsIn (hd.heap_39 w.params) 142 (.type "type") = true := by kernel_rfl
theorem pk15 (w : World) : ∃ p rest, findCls (hd.heap_39 w.params) (.ref 142) (.type "type") (Str.ofString "__new__") = some (.get (.builtin "staticmethod.__get__") (.ref p) .none (.ref 142)) ∧ recIn (hd.heap_39 w.params) p "staticmethod" = some (.ref 89 :: rest) := ⟨143, [], by kernel_rfl, by kernel_rfl⟩
theorem oi_args4 (a b c d : Value) : argsOk "object.__init__" ⟨[a, b, c, d], []⟩ := by unfold argsOk; kernel_rfl
theorem tcu {b c d : Value} : (Code.builtin "type.__call__" ⟨[.ref 142, b, c, d], []⟩).cUnits = 1 := by rfl
set_option profiler true in
set_option maxHeartbeats 8000000 in
theorem mis_call {w : World} {A : Around} {s : Shared} {R : Result → Shared → Prop} {a b c : Int} {ta tb tc : Tok} (C : Cx w 10 A s.heap)
    (ret : ∀ x d h' tk, Keep s.heap h' → s.heap.get? x = none → h'.get? x = some (rowO d #[.int a ta, .int b tb, .int c tc]) → R (.ok (.ret (.ref x))) { s with heap := h', toks := tk }) :
    codeAny (model Challenge.rw_ox0031_01.row.prog w) A (.call (.ref 142) ⟨[.int a ta, .int b tb, .int c tc], []⟩) R s := by
  obtain ⟨X, ⟨loose, mean, mg, mb, T⟩, hh, dp, un⟩ := C
  obtain ⟨oc, od, cd, sl, hC, hdel⟩ := lookC w
  have hC' : s.heap.get? 142 = some _ := X _ _ hC
  refine codeAny_of_tree ?_
  show wpAny _ _ (callAny (.ref 142) _) _ _ _
  refine nd_load hC' ?_
  show wpAny _ _ (callAny.viaDunder (.ref 142) _) _ _ _
  unfold callAny.viaDunder
  refine wpAny_bind ((Looks.of_peek X (pk6 w _)).here ?_)
  dsimp only
  rw [tc_bind]
  refine wpAny_bind (wpAny_pure (wpAny_bind (wpAny_pure ?_)))
  refine wpAny_pure (a := Fin.again (.call (.builtin "type.__call__") ⟨[.ref 142, .int a ta, .int b tb, .int c tc], []⟩)) (And.intro rfl ?_)
  refine codeAny_call_builtin_at (Code.quiet_builtin _ (by decide +kernel)) entry_typeCall (@check_slot (model Challenge.rw_ox0031_01.row.prog w) _ _ _ "type.__call__" "type" "__call__" (.ref 142) [.int a ta, .int b tb, .int c tc] [] _ tc_kind tc_split (Looks.of_peek X (pk7 w _)) (tc_args _ _ _) ?_)
  unfold Builtin.«type.__call__»
  dsimp only
  rw [if_neg (by decide)]
  refine wpAny_bind ((Looks.of_peek X (pk8 w _)).here ?_)
  simp only [List.isEmpty_cons, Bool.false_eq_true, if_false]
  refine wpAny_bind ((Looks.of_peek X (pk9 w _)).here ?_)
  dsimp only
  obtain ⟨p, rest, hf, hr⟩ := pk15 w
  refine wpAny_bind (cls_bind X (pk13 w) hf (wpAny_call (sm_get (s := { s with toks := s.toks + 1 }) X hr (handed_on (by decide) ?_))))
  have C' : Cx w 5 (A.under (.builtin "type.__call__" ⟨[.ref 142, .int a ta, .int b tb, .int c tc], []⟩)) s.heap :=
    ⟨X, ⟨_, _, _, _, T⟩, hh, by show A.depth + 1 + 5 < recursionLimit; omega, by show A.units + (Code.builtin "type.__call__" ⟨[.ref 142, .int a ta, .int b tb, .int c tc], []⟩).cUnits + 10 * 5 < cLine; rw [tcu]; omega⟩
  refine wpAny_bind (wpAny_holding (wpAny_call (new_call (s := { s with toks := s.toks + 1 }) C' ?_)))
  intro x d h' tk k hn ho
  dsimp only
  have X' := X.keeps k
  have tx : Looks (model Challenge.rw_ox0031_01.row.prog w) h' (typeOf (.ref x)) (.ref 142) := (Looks.ld ho).andThen .now
  unfold isInstance callSpecial? specialOf
  refine wpAny_bind (wpAny_bind (tx.at ((Looks.of_peek X' (pk10 w _)).at ?_)))
  simp only [Bool.not_true, Bool.false_eq_true, if_false]
  refine wpAny_bind (wpAny_holding (wpAny_bind (wpAny_bind (tx.at ((Looks.of_peek X' (pk5 w _)).at ?_)))))
  dsimp only
  rw [oi_bind]
  refine wpAny_holding (wpAny_bind (wpAny_pure (wpAny_bind (wpAny_call ?_))))
  have ti : Looks (model Challenge.rw_ox0031_01.row.prog w) h' (isInstance (.ref x) (.type "object")) true := tx.andThen (Looks.of_peek X' (pk11 w _))
  show codeAny _ _ (.call (.builtin "object.__init__") ⟨[.ref x, .int a ta, .int b tb, .int c tc], []⟩) _ _
  refine codeAny_call_builtin oi_plain entry_oi (@check_slot (model Challenge.rw_ox0031_01.row.prog w) _ _ { s with heap := h', toks := tk } "object.__init__" "object" "__init__" (.ref x) [.int a ta, .int b tb, .int c tc] [] _ oi_kind oi_split ti (oi_args4 _ _ _ _) ?_)
  unfold Builtin.«object.__init__»
  dsimp only
  simp only [List.isEmpty_cons, Bool.not_false, Bool.true_or, if_true]
  refine wpAny_bind (tx.at ?_)
  refine wpAny_bind ((Looks.of_peek X' (pk5 w _)).at ?_)
  refine wpAny_bind ((Looks.of_peek X' (pk9 w _)).at ?_)
  rw [if_neg (by decide), if_neg (by decide)]
  refine wpAny_pure ?_
  dsimp only
  refine wpAny_pure ?_
  dsimp only
  rw [if_neg (by decide)]
  refine wpAny_pure ?_
  exact ret x d h' tk k hn ho
end Mine
theorem Mine.afreshM1 : True ∧ True := by
  w_top off
  walk1 <;> trivial
/- part T2 -/
open PySem PySem.W PyProof.Rows PySem.Calls
namespace Mine
set_option linter.unusedVariables false
set_option maxRecDepth 100000
section
variable (w : World) (S : Setting)
theorem pkI : peek (hd.heap_39 w.params) S (typeLookup (.ref 142) (Str.ofString "__iter__")) = some (some (.builtin "tuple.__iter__")) := by kernel_rfl
theorem pkL : peek (hd.heap_39 w.params) S (typeLookup (.ref 142) (Str.ofString "__len__")) = some (some (.builtin "tuple.__len__")) := by kernel_rfl
end
theorem ti_kind : builtinKind "tuple.__iter__" = some .slot := by decide +kernel
theorem ti_split : splitId "tuple.__iter__" = some ("tuple", "__iter__") := by decide +kernel
theorem tl_kind : builtinKind "tuple.__len__" = some .slot := by decide +kernel
theorem tl_split : splitId "tuple.__len__" = some ("tuple", "__len__") := by decide +kernel
set_option maxHeartbeats 4000000
section
variable {w : World} {A : Around} {E : Value → Shared → Prop} {s : Shared} {x d : Addr} {xs : Array Value}
theorem row_type (ho : s.heap.get? x = some (rowO d xs)) : Looks (model Challenge.rw_ox0031_01.row.prog w) s.heap (typeOf (.ref x)) (.ref 142) := (Looks.ld ho).andThen .now
theorem row_isa (X : (hd.heap_39 w.params).In s.heap) (ho : s.heap.get? x = some (rowO d xs)) : Looks (model Challenge.rw_ox0031_01.row.prog w) s.heap (isInstance (.ref x) (.type "tuple")) true :=
  (row_type ho).andThen (Looks.of_peek X (pk3 w _))
theorem row_iter {Q : Value → Shared → Prop} (X : (hd.heap_39 w.params).In s.heap) (ho : s.heap.get? x = some (rowO d xs))
    (hQ : Q (.ref s.heap.objs.size) { s with heap := s.heap.push { cls := .type "tuple_iterator", data := .fields #[.ref x, .int 0 0] } }) :
    wpAny (model Challenge.rw_ox0031_01.row.prog w) A (pyIter (.ref x)) Q E s := by
  have tI : Looks (model Challenge.rw_ox0031_01.row.prog w) s.heap (specialOf (.ref x) (Str.ofString "__iter__")) (some (.builtin "tuple.__iter__")) := (row_type ho).andThen (Looks.of_peek X (pkI w _))
  unfold pyIter
  refine wpAny_bind (tI.here ?_)
  show wpAny _ A (callSpecialIfBoundUnlessNone? (.ref x) (Str.ofString "__iter__") _ >>= _) Q E s
  have hcall : ∀ (Q' : Value → Shared → Prop), Q' (.ref s.heap.objs.size) { s with heap := s.heap.push { cls := .type "tuple_iterator", data := .fields #[.ref x, .int 0 0] } } → wpAny (model Challenge.rw_ox0031_01.row.prog w) A (call (.builtin "tuple.__iter__") [.ref x]) Q' E s := fun Q' hq => by
    refine wpAny_call (codeAny_call_builtin F.slot_tuple_iter.plain F.entry_tuple_iter (@check_slot (model Challenge.rw_ox0031_01.row.prog w) _ _ _ "tuple.__iter__" "tuple" "__iter__" (.ref x) [] [] _ ti_kind ti_split (row_isa X ho) (F.args_tuple_iter_1 _) ?_))
    show wpAny _ _ (do ret (← newFields "tuple_iterator" [.ref x, rawInt 0])) _ _ s
    exact wpAny_bind (wpAny_newObj_type (wpAny_pure hq))
  refine wpAny_bind ?_
  simp only [callSpecialIfBoundUnlessNone?, bindSpecialIfBound?]
  refine wpAny_holding (wpAny_bind (wpAny_bind (tI.here ?_)))
  simp only [F.slot_tuple_iter.bind]
  have fin : ∀ refuse : Sem Value, wpAny (model Challenge.rw_ox0031_01.row.prog w) A (if (Value.builtin "tuple.__iter__" == Value.none) = true then (refuse >>= fun v => pure (some v)) else (call (.builtin "tuple.__iter__") [.ref x] >>= fun v => pure (some v)))
      (fun a s' => wpAny (model Challenge.rw_ox0031_01.row.prog w) A (match a with
        | some it => (do
          match ← specialOf it "__next__" with
          | none => do rule "iter.non-iterator"; raiseError "TypeError" s!"iter() returned non-iterator of type '{← typeNameOf it}'"
          | some _ => pure it)
        | none => (do
          match ← bindSpecialIfBound? (.ref x) "__getitem__" with
          | none => do rule "iter.not-iterable"; raiseError "TypeError" s!"'{← typeNameOf (.ref x)}' object is not iterable"
          | some _ => do rule "iter.getitem-fallback"; newFields "iterator" [.ref x, ← mkInt 0])) Q E s') E s := fun refuse => by
    simp only [builtin_beq_none, Bool.false_eq_true, if_false]
    refine wpAny_bind (hcall _ (wpAny_pure ?_))
    dsimp only
    exact wpAny_bind (wpAny_specialOf (T := "tuple_iterator") ⟨_, Heap.get?_push_size _ rfl, rfl⟩ F.slot_tuple_iterator_next.lookup (wpAny_pure hQ))
  refine wpAny_bind (wpAny_askSetting (wpAny_ite ?_))
  split
  · exact wpAny_bind (wpAny_pure (wpAny_pure (fin _)))
  · exact wpAny_tryCatch (wpAny_bind (wpAny_pure (wpAny_pure (fin _))))
theorem row_len {Q : Value → Shared → Prop} (X : (hd.heap_39 w.params).In s.heap) (ho : s.heap.get? x = some (rowO d xs)) (hsz : xs.size ≤ 64)
    (h : ∀ tk t, Q (.int (xs.size : Int) t) { s with toks := tk }) : wpAny (model Challenge.rw_ox0031_01.row.prog w) A (call (.builtin "len") [.ref x]) Q E s := by
  have tL : Looks (model Challenge.rw_ox0031_01.row.prog w) s.heap (specialOf (.ref x) (Str.ofString "__len__")) (some (.builtin "tuple.__len__")) := (row_type ho).andThen (Looks.of_peek X (pkL w _))
  refine Calls.call_function_entry kind_len plain_len entry_len (args_len1 _) ?_
  unfold Builtin.«len»
  refine wpAny_bind (m := oneArg "len" _) (wpAny_pure ?_)
  refine wpAny_bind (m := callSpecial? (.ref x) (Str.ofString "__len__")) ?_
  simp only [callSpecial?]
  refine wpAny_bind (tL.here ?_)
  simp only [F.slot_tuple_len.bind]
  refine wpAny_holding (wpAny_bind (wpAny_pure (wpAny_bind ?_)))
  refine wpAny_call (codeAny_call_builtin F.slot_tuple_len.plain F.entry_tuple_len (@check_slot (model Challenge.rw_ox0031_01.row.prog w) _ _ _ "tuple.__len__" "tuple" "__len__" (.ref x) [] [] _ tl_kind tl_split (row_isa X ho) (F.args_tuple_len_1 _) ?_))
  show wpAny _ _ (Builtin.Tuple.tupleItemsOf (.ref x) >>= fun ys => retInt ys.size) _ _ s
  unfold Builtin.Tuple.tupleItemsOf
  refine wpAny_bind (wpAny_bind (wpAny_seqItems ho rfl (wpAny_pure ?_)))
  refine wpAny_bind (wpAny_mkInt (wpAny_pure ?_))
  dsimp only
  refine wpAny_pure ?_
  refine wpAny_bind (wpAny_holding (wpAny_pure ?_))
  refine wpAny_bind (wpAny_letGo ?_)
  show wpAny _ _ (if (xs.size : Int) < 0 then _ else _) _ _ _
  rw [if_neg (by omega)]
  show wpAny _ _ (if (xs.size : Int) ≥ 2 ^ 63 then _ else _) _ _ _
  rw [if_neg (by omega)]
  exact wpAny_bind (wpAny_mkInt (wpAny_pure ⟨_, rfl, h _ _⟩))
theorem row_hint {Q : Bool → Shared → Prop} (X : (hd.heap_39 w.params).In s.heap) (ho : s.heap.get? x = some (rowO d xs)) (hsz : xs.size ≤ 64)
    (h : ∀ tk, Q ((xs.size : Int) != 0) { s with toks := tk }) : wpAny (model Challenge.rw_ox0031_01.row.prog w) A (Builtin.List.listLengthHint (.ref x)) Q E s := by
  have tL : Looks (model Challenge.rw_ox0031_01.row.prog w) s.heap (specialOf (.ref x) (Str.ofString "__len__")) (some (.builtin "tuple.__len__")) := (row_type ho).andThen (Looks.of_peek X (pkL w _))
  unfold Builtin.List.listLengthHint
  refine wpAny_bind (tL.here ?_)
  generalize hid : ("tuple.__len__" : String) = id0
  wp_delta
  rw [show splitId id0 = some ("tuple", "__len__") from by subst hid; decide +kernel]
  subst hid
  refine wpAny_bind ((row_isa X ho).here ?_)
  refine wpAny_ite_split (fun hab => absurd hab (by decide)) (fun _ => ?_)
  refine wpAny_ite_split (fun _ => ?_) (fun hab => absurd (by decide +kernel) hab)
  refine wpAny_bind ((row_type ho).here ?_)
  dsimp only
  refine wpAny_bind (row_len X ho hsz fun tk t => ?_)
  refine wpAny_bind (m := asInt? _) (wpAny_pure ?_)
  exact wpAny_pure (h _)
theorem row_next {prog : Program} {it t : Addr} {i : Nat} {items : Array Value} {ol : Obj} {nl : Nat} {y : Value} {Q : Option Value → Shared → Prop} (hit : s.heap.IsTupleIter it t i)
    (hol : s.heap.get? t = some ol) (hdl : ol.data = .seq items nl) (hx : items[i]? = some y)
    (hQ : ∀ h', h'.IsTupleIter it t (i + 1) → Heap.SameBut it s.heap h' → Q (some y) { s with heap := h' }) :
    wpAny (model prog w) A (pyNext (.ref it)) Q E s := by
  obtain ⟨o, ho, hc, hd⟩ := id hit
  unfold pyNext
  refine wpAny_bind (wpAny_attempt (wpAny_callSpecial?_slot (name := Str.ofString "__next__") hit.typeIs F.slot_tuple_iterator_next
    (wpAny_call_entry F.slot_tuple_iterator_next hit.typeIs F.entry_tuple_iterator_next ?_ (F.args_tuple_iterator_next_1 _))))
  show wpAny _ _ (field (.ref it) 0 >>= _) _ _ s
  refine wpAny_bind (wpAny_field ho hd (x := .ref t) rfl ?_)
  show wpAny _ _ (if (Value.ref t == Value.none) = true then _ else _) _ _ s
  rw [if_neg (show ¬ ((Value.ref t == Value.none) = true) from Bool.false_ne_true)]
  show wpAny _ _ (field (.ref it) 1 >>= _) _ _ s
  refine wpAny_bind (wpAny_field ho hd (x := .int i 0) rfl ?_)
  show wpAny _ _ (seqItems? (.ref t) >>= _) _ _ s
  refine wpAny_bind (wpAny_seqItems hol hdl ?_)
  simp only [Int.toNat_natCast, hx]
  refine wpAny_bind (wpAny_setField ho hd (by simp) (wpAny_pure ⟨y, rfl, wpAny_pure (hQ _ ?_ (Heap.SameBut.update ..))⟩))
  exact ⟨_, Heap.get?_update_self _ ho (Obj.isFreed_of_fields (Obj.data_mapFields hd _)), (Obj.cls_mapFields ..).trans hc, by
    rw [Obj.data_mapFields hd]; simp [rawInt]⟩
theorem row_stop {prog : Program} {it t : Addr} {i : Nat} {items : Array Value} {ol : Obj} {nl : Nat} {Q : Option Value → Shared → Prop} (hh : A.handled = none) (hit : s.heap.IsTupleIter it t i)
    (hol : s.heap.get? t = some ol) (hdl : ol.data = .seq items nl) (hx : items[i]? = none)
    (hQ : ∀ h', Heap.ExtBut it s.heap h' → Q none { s with heap := h' }) : wpAny (model prog w) A (pyNext (.ref it)) Q E s := by
  obtain ⟨o, ho, hc, hd⟩ := id hit
  unfold pyNext
  refine wpAny_bind (wpAny_attempt (wpAny_callSpecial?_slot (name := Str.ofString "__next__") hit.typeIs F.slot_tuple_iterator_next
    (wpAny_call_entry F.slot_tuple_iterator_next hit.typeIs F.entry_tuple_iterator_next ?_ (F.args_tuple_iterator_next_1 _))))
  show wpAny _ _ (field (.ref it) 0 >>= _) _ _ s
  refine wpAny_bind (wpAny_field ho hd (x := .ref t) rfl ?_)
  show wpAny _ _ (if (Value.ref t == Value.none) = true then _ else _) _ _ s
  rw [if_neg (show ¬ ((Value.ref t == Value.none) = true) from Bool.false_ne_true)]
  show wpAny _ _ (field (.ref it) 1 >>= _) _ _ s
  refine wpAny_bind (wpAny_field ho hd (x := .int i 0) rfl ?_)
  show wpAny _ _ (seqItems? (.ref t) >>= _) _ _ s
  refine wpAny_bind (wpAny_seqItems hol hdl ?_)
  simp only [Int.toNat_natCast, hx]
  refine wpAny_bind (wpAny_rule (wpAny_bind (wpAny_setField ho hd (by simp) ?_)))
  show wpAny _ _ (newExc (.type "StopIteration") [] >>= _) _ _ _
  refine wpAny_bind ?_
  simp only [newExc, newTuple]
  refine wpAny_bind (wpAny_newObj_type ?_ (by size_fits))
  refine wpAny_bind (m := firstArgMember _ _) (wpAny_of_eq (a := Value.none) (by first | rfl | (simp only [firstArgMember]; rfl)) ?_)
  refine wpAny_newObj_type ?_ (by size_fits)
  simp only [raiseNew]
  refine wpAny_bind (wpAny_handled ?_)
  first | rw [show A.in1.handled = none from hh] | rw [hh]
  refine wpAny_bind (wpAny_pure (wpAny_throw ?_))
  refine wpAny_bind (wpAny_isInstance (T := "StopIteration") (b := true) ⟨_, Heap.get?_push_size _ rfl, rfl⟩ isSubtype_stop ?_)
  exact wpAny_pure (hQ _ (((Heap.SameBut.update ..).extBut.push _).push _))
theorem row_walks {prog : Program} (hh : A.handled = none) (I ax d : Addr) (hne : ax ≠ I) (items : Array Value) :
    Walks prog w A I [I, ax] [I] items.size (fun i v => items[i]? = some v) (fun i h => h.IsTupleIter I ax i ∧ h.get? ax = some (rowO d items)) where
  sub := fun b hb => by simp at hb; simp [hb]
  frame := fun _ _ _ st hk => ⟨st.1.at fun o e => hk I (by simp) o e, hk ax (by simp) _ st.2⟩
  item := fun i s Q E hi st hQ => by
    refine row_next st.1 st.2 rfl (y := items[i]) (by simp [hi]) fun h' hit' hs' => ?_
    exact hQ _ h' s.toks (by simp [hi]) ⟨hit', hs'.extBut _ _ hne st.2⟩ fun b o hb e => hs'.extBut b o (fun h => hb (by simp [h])) e
  done := fun s Q E st hQ => row_stop hh st.1 st.2 rfl (by simp) fun h' he' => hQ h' s.toks fun b o hb e => he' b o (fun h => hb (by simp [h])) e
  self := fun _ _ _ _ st hQ => wpAny_pyIter_tupleiter st.1 hQ
theorem arr_of_items {acc items : Array Value} (h : ItemsOf (fun i v => items[i]? = some v) acc items.size) : acc = items := by
  refine Array.ext h.1 fun i h1 h2 => ?_
  have : items[i]? = some acc[i] := h.2 i acc[i] (by simp [h1])
  rw [Array.getElem?_eq_getElem h2] at this
  exact (Option.some.inj this).symm
theorem row_collect {Q : List Value → Shared → Prop} (hh : A.handled = none) (X : (hd.heap_39 w.params).In s.heap) (ho : s.heap.get? x = some (rowO d xs)) (hsz : xs.size = 3)
    (hQ : ∀ h' tk, Keep s.heap h' → Q xs.toList { s with heap := h', toks := tk }) : wpAny (model Challenge.rw_ox0031_01.row.prog w) A (collect (.ref x)) Q E s := by
  have hxlt : x < s.heap.objs.size := Heap.lt_size ho
  unfold collect
  refine wpAny_bind (wpAny_runValue (codeAny_builtin F.entry_proto_collect ?_))
  rw [Around.under_plainId F.plain_proto_collect _]
  show wpAny _ A.in1 (newList [] >>= fun l => again (.builtin "list.__iadd__" ⟨[l, .ref x], []⟩)) _ _ s
  refine wpAny_bind (wpAny_newObj_type ?_)
  refine wpAny_pure ⟨plainId_quiet F.plain_list_iadd _, codeAny_builtin F.entry_list_iadd ?_⟩
  rw [Around.under_plainId F.plain_list_iadd _]
  show wpAny _ A.in1 (Builtin.List.listExtendWith (.ref s.heap.objs.size) (.ref x) (.ref s.heap.objs.size)) _ _ _
  generalize hH1 : s.heap.push { cls := .type "list", dict := none, data := .seq ([] : List Value).toArray } = H1
  have k1 : Keep s.heap H1 := fun b o e => hH1 ▸ Heap.get?_push_of_some _ e
  have hsz1 : H1.objs.size = s.heap.objs.size + 1 := by rw [← hH1, Heap.size_push]
  have hS1 : H1.get? s.heap.objs.size = some { cls := .type "list", data := .seq #[] 0 } := hH1 ▸ Heap.get?_push_size _ rfl
  have X1 : (hd.heap_39 w.params).In H1 := X.keeps k1
  have ho1 := k1 _ _ ho
  have h1 : Builtin.List.listSameRef (.ref s.heap.objs.size) (.ref x) = false := by simp [Builtin.List.listSameRef, Nat.ne_of_gt hxlt]
  unfold Builtin.List.listExtendWith
  refine wpAny_bind ((row_type (s := { s with heap := H1 }) ho1).here ?_)
  rw [if_neg (by rw [h1]; decide)]
  refine wpAny_bind (row_iter (s := { s with heap := H1 }) X1 ho1 ?_)
  dsimp only
  generalize hH2 : H1.push { cls := .type "tuple_iterator", data := .fields #[.ref x, .int 0 0] } = H2
  have k2 : Keep H1 H2 := fun b o e => hH2 ▸ Heap.get?_push_of_some _ e
  have hI2 : H2.get? H1.objs.size = some { cls := .type "tuple_iterator", data := .fields #[.ref x, .int 0 0] } := hH2 ▸ Heap.get?_push_size _ rfl
  refine wpAny_bind (wpAny_holding (row_hint (s := { s with heap := H2 }) (X1.keeps k2) (k2 _ _ ho1) (by omega) fun tk => ?_))
  rw [hsz]
  refine wpAny_ite_split (fun _ => ?_) (fun hab => absurd (by rfl) hab)
  refine wpAny_bind (wpAny_rule ?_)
  refine wpAny_bind ?_
  show wpAny _ _ (updateSeq s.heap.objs.size (·.push .none) >>= fun _ => updateSeq s.heap.objs.size (·.pop)) _ _ _
  have hS2 := k2 _ _ hS1
  refine wpAny_bind (wpAny_updateSeq hS2 rfl ?_)
  have hS3 := Heap.get?_update_self (Obj.mapSeq (·.push Value.none)) hS2 rfl
  refine wpAny_updateSeq (hz := by seq_fits) hS3 rfl ?_
  have hS4 := Heap.get?_update_self (Obj.mapSeq (·.pop)) hS3 rfl
  have oth : ∀ b o, b ≠ s.heap.objs.size → H2.get? b = some o → ((H2.update s.heap.objs.size (Obj.mapSeq (·.push Value.none))).update s.heap.objs.size (Obj.mapSeq (·.pop))).get? b = some o :=
    fun b o hb e => (Heap.get?_update_other _ _ (Ne.symm hb)).trans ((Heap.get?_update_other _ _ (Ne.symm hb)).trans e)
  generalize hH4 : (H2.update s.heap.objs.size (Obj.mapSeq (·.push Value.none))).update s.heap.objs.size (Obj.mapSeq (·.pop)) = H4 at hS4 oth
  have hne1 : (H1.objs.size : Nat) ≠ s.heap.objs.size := by rw [hsz1]; omega
  have hnx : (x : Nat) ≠ s.heap.objs.size := Nat.ne_of_lt hxlt
  have hxI : (x : Nat) ≠ H1.objs.size := by rw [hsz1]; exact Nat.ne_of_lt (Nat.lt_succ_of_lt hxlt)
  have hSf : s.heap.objs.size ∉ [H1.objs.size, x] := by
    intro hm
    rcases List.mem_cons.mp hm with e | hm
    · exact hne1 e.symm
    · exact hnx (List.mem_singleton.mp hm).symm
  refine wpAny_pure ⟨plainId_quiet F.plain_extend_loop _, codeAny_extend_loopS (row_walks (prog := Challenge.rw_ox0031_01.row.prog) (w := w) (A := A.in1) hh H1.objs.size x d hxI xs).toS (by rw [sizeLine_eq]; omega) _ hSf _ xs.size 0 _ #[] _ rfl (Nat.zero_le _)
    ⟨⟨_, oth _ _ hne1 hI2, rfl, rfl⟩, oth _ _ hnx (k2 _ _ ho1)⟩ hS4 (ItemsOf.nil _) fun s' acc' c' hm hS' hacc => ?_⟩
  show wpAny _ A (load s.heap.objs.size >>= _) _ _ s'
  refine wpAny_bind (wpAny_load hS' ?_)
  refine wpAny_pure ?_
  rw [arr_of_items hacc, Moved.eq_with hm]
  refine hQ s'.heap s'.toks fun b o e => ?_
  have hb : b < s.heap.objs.size := Heap.lt_size e
  refine hm.heap b o (fun hmem => ?_) (oth b o (Nat.ne_of_lt hb) (k2 _ _ (k1 _ _ e)))
  rcases List.mem_cons.mp hmem with q | q
  · exact Nat.lt_irrefl _ (q ▸ hb)
  · have q := List.mem_singleton.mp q
    rw [q, hsz1] at hb
    exact absurd hb (Nat.not_lt.mpr (Nat.le_succ _))
theorem tuple_row_meets (x d : Addr) (xs : Array Value) (hsz : xs.size = 3) :
    MeetsIn Challenge.rw_ox0031_01.row.prog w (Builtin.«tuple.__new__» ⟨[.type "tuple", .ref x], []⟩) (fun A R s => A.handled = none ∧ (hd.heap_39 w.params).In s.heap ∧ s.heap.get? x = some (rowO d xs) ∧
      ∀ h' tk, Keep s.heap h' → R (.ok (.ret (.ref h'.objs.size))) { s with heap := h'.push { cls := .type "tuple", data := .seq xs }, toks := tk }) :=
  .of_wp fun A R s h => by
    obtain ⟨hh, X, ho, h⟩ := h
    unfold Builtin.«tuple.__new__»
    dsimp only
    refine wpAny_bind (m := isType _) (wpAny_of_eq (a := true) (by kernel_rfl) ?_)
    simp only [Bool.not_true, Bool.false_eq_true, if_false]
    refine wpAny_bind (wpAny_of_eq (a := true) sub_tuple_self ?_)
    simp only [Bool.not_true, Bool.false_eq_true, if_false]
    refine wpAny_ite_split (fun hab => absurd hab (by decide +kernel)) (fun _ => ?_)
    refine wpAny_bind (wpAny_of_eq (a := ()) madeHere_tuple ?_)
    refine wpAny_bind (wpAny_of_eq (a := some (.builtin "object.__init__")) init_tuple_lookup ?_)
    rw [if_pos (by decide)]
    refine wpAny_bind (m := noKeywords _ _) (wpAny_of_eq (a := ()) (by rfl) ?_)
    refine wpAny_bind (m := checkCount _ _ _ _) (wpAny_of_eq (a := ()) (by rfl) ?_)
    rw [if_pos (by decide)]
    unfold Builtin.Tuple.tupleIsExact
    refine wpAny_bind (wpAny_bind ((row_type ho).here (wpAny_pure ?_)))
    rw [if_neg (by decide)]
    refine wpAny_bind (row_collect hh X ho hsz fun h' tk k => wpAny_bind (wpAny_pure ?_))
    unfold Builtin.Tuple.tupleExact
    have e : xs.toList.toArray = xs := by simp
    rw [e]
    refine wpAny_bind (wpAny_newObj_type ?_ (by show xs.size ≤ sizeLine; rw [hsz]; decide))
    exact wpAny_pure ⟨_, rfl, h h' tk k⟩
theorem tuple_row {Q : Value → Shared → Prop} (hh : A.handled = none) (X : (hd.heap_39 w.params).In s.heap) (ho : s.heap.get? x = some (rowO d xs)) (hsz : xs.size = 3)
    (h : ∀ y h' tk, Keep s.heap h' → s.heap.get? y = none → h'.get? y = some { cls := .type "tuple", data := .seq xs } → Q (.ref y) { s with heap := h', toks := tk }) :
    wpAny (model Challenge.rw_ox0031_01.row.prog w) A (call (.type "tuple") [.ref x]) Q E s := by
  refine callType_newIn F.called_tuple (by decide) (F.typeCall_tuple_1 _) (F.newCall_tuple_1 _) (fun obj => F.args_object_init_2 obj _) F.entry_tuple_new
    (tuple_row_meets x d xs hsz) ⟨hh, X, ho, fun h' tk k => ⟨⟨_, Heap.get?_push_size _ rfl, rfl⟩, ?_⟩⟩
  refine h _ _ tk (Keep.trans k (keep_push _)) ?_ (Heap.get?_push_size _ rfl)
  cases e : s.heap.get? h'.objs.size with
  | none => rfl
  | some o => exact absurd (Heap.lt_size (k _ _ e)) (Nat.lt_irrefl _)
end
end Mine
/- part C1 -/
open PySem PySem.W PyProof.Rows PySem.Calls
namespace Mine
set_option linter.unusedVariables false
section
variable {prog : Program} {w : World} {A : Around} {E : Value → Shared → Prop} {s : Shared} {h₀ : Heap} {L D : Addr} {m : Str → Option Value} {news news' : List (Addr × Obj)} {its : Array Value} {n : Nat} {k : Int} {t : Tok} {v : Value}
theorem set_cell {Q : Unit → Shared → Prop} (F : Fr h₀ L s.heap m) (N : News h₀ L s.heap news) (U : Upd D (listOf its n) (listOf (its.setIfInBounds k.toNat v) n) news news') (h0 : 0 ≤ k) (h1 : k < its.size) (hfit : k < 2 ^ 63)
    (h : ∀ h', Fr h₀ L h' m → News h₀ L h' news' → Q () { s with heap := h' }) : wpAny (model prog w) A (setItem (.ref D) (.int k t) v) Q E s := by
  obtain ⟨pre, post, rfl, rfl, a, b⟩ := U.split
  have z := N (D, listOf its n) (List.mem_append.mpr (.inr (.head _)))
  exact ki_setAt z.1 h0 hfit h1 (h _ (F.change (Heap.SameBut.update ..) z.2.1 z.2.2) (ki_turn _ N a b rfl (by simp)))
theorem get_cell {value slice : PySem.Expr} {Q : Value → Shared → Prop} (N : News h₀ L s.heap news) (hm : (D, listOf its n) ∈ news) (h0 : 0 ≤ k) (hfit : k < 2 ^ 63) (hx : its[k.toNat]? = some v) (h : Q v s)
    (hs : subscripted slice false (.ref D) (.int k t) = operate [.ref D, .int k t] (getItem (.ref D) (.int k t)) := by with_unfolding_all rfl) :
    wpAny (model prog w) A (subscriptTail value slice (.ref D) (.int k t)) Q E s := by
  have z := (N _ hm).1
  have hl : s.heap.IsList D its.toList.toArray := ⟨_, z, rfl, n, by simp⟩
  exact item_litK hl h0 hfit (by simpa using hx) h hs
end
/-- a list's item: an int, or the mark -/
noncomputable def CellOk (nul : Addr) (v : Value) : Option Int → Prop
  | none => v = .ref nul
  | some q => ∃ t, v = .int q t
noncomputable def Cells (nul : Addr) (its : Array Value) (n : Nat) (f : Nat → Option Int) : Prop := its.size = n ∧ ∀ p, p < n → ∃ v, its[p]? = some v ∧ CellOk nul v (f p)
theorem Cells.set {nul : Addr} {its : Array Value} {n p : Nat} {f : Nat → Option Int} (h : Cells nul its n f) : Cells nul (its.setIfInBounds p (.ref nul)) n (fun q => if q = p then none else f q) := by
  refine ⟨by rw [Array.size_setIfInBounds]; exact h.1, fun q hq => ?_⟩
  by_cases e : q = p
  · subst e
    refine ⟨.ref nul, ?_, by simp [CellOk]⟩
    rw [Array.getElem?_setIfInBounds_self_of_lt (by rw [h.1]; exact hq)]
  · obtain ⟨v, hv, ho⟩ := h.2 q hq
    refine ⟨v, ?_, by simpa [e] using ho⟩
    rw [Array.getElem?_setIfInBounds_ne (Ne.symm e)]; exact hv
theorem Cells.congr {nul : Addr} {its : Array Value} {n : Nat} {f g : Nat → Option Int} (h : Cells nul its n f) (e : ∀ p, p < n → f p = g p) : Cells nul its n g :=
  ⟨h.1, fun p hp => by rw [← e p hp]; exact h.2 p hp⟩
theorem Cells.ints {nul : Addr} {vs : List Value} {ns : List Int} (h : IntsAre vs ns) : Cells nul vs.toArray ns.length (fun p => ns[p]?) := by
  refine ⟨by simpa using h.length, fun p hp => ?_⟩
  have e : ns[p]? = some ns[p] := List.getElem?_eq_getElem hp
  obtain ⟨t, ht⟩ := h.get p ns[p] e
  exact ⟨.int ns[p] t, by simpa using ht, by dsimp only; rw [e]; exact ⟨t, rfl⟩⟩
end Mine
/- part C2 -/
open PySem PySem.W PyProof.Rows PySem.Calls
namespace Mine
set_option linter.unusedVariables false
noncomputable def er (done xs : List Int) (p : Nat) : Option Int := xs[p]?.bind fun v => if v ∈ done then none else some v
theorem er_congr {d d' xs : List Int} (h : ∀ x, x ∈ d ↔ x ∈ d') (p : Nat) : er d xs p = er d' xs p := by
  unfold er
  cases xs[p]? with
  | none => rfl
  | some v => simp [h v]
theorem er_some {done xs : List Int} {p : Nat} {v : Int} : er done xs p = some v ↔ xs[p]? = some v ∧ v ∉ done := by
  unfold er
  cases e : xs[p]? with
  | none => simp
  | some u =>
    by_cases h : u ∈ done
    · simp only [Option.bind_some, h, if_true]
      constructor
      · intro q; cases q
      · rintro ⟨q, hn⟩; cases q; exact absurd h hn
    · simp only [Option.bind_some, h, if_false, Option.some.injEq]
      constructor
      · rintro rfl; exact ⟨rfl, h⟩
      · rintro ⟨q, _⟩; exact q
theorem er_zero (xs ys : List Int) (p : Nat) : ys[p]? = er (xs.take 0) ys p := by
  unfold er
  cases ys[p]? <;> simp
noncomputable def fB (f : Nat → Option Int) (v : Int) (i k p : Nat) : Option Int := if i ≤ p ∧ p < i + k ∧ f p = some v then none else f p
noncomputable def cB (f : Nat → Option Int) (v : Int) (i : Nat) : Nat → Int
  | 0 => 0
  | k + 1 => cB f v i k + if f (i + k) = some v then 1 else 0
theorem fB_zero (f : Nat → Option Int) (v : Int) (i p : Nat) : fB f v i 0 p = f p := by
  unfold fB
  rw [if_neg]; rintro ⟨a, b, _⟩; omega
theorem fB_hit {f : Nat → Option Int} {v : Int} {i k : Nat} (h : f (i + k) = some v) (p : Nat) : (if p = i + k then none else fB f v i k p) = fB f v i (k + 1) p := by
  unfold fB
  by_cases e : p = i + k
  · subst e; simp [h]
  · rw [if_neg e]
    by_cases q : i ≤ p ∧ p < i + k ∧ f p = some v
    · rw [if_pos q, if_pos ⟨q.1, by omega, q.2.2⟩]
    · rw [if_neg q, if_neg]; rintro ⟨a, b, c⟩; exact q ⟨a, by omega, c⟩
theorem fB_miss {f : Nat → Option Int} {v : Int} {i k : Nat} (h : f (i + k) ≠ some v) (p : Nat) : fB f v i k p = fB f v i (k + 1) p := by
  unfold fB
  by_cases e : p = i + k
  · subst e; simp [h]
  · by_cases q : i ≤ p ∧ p < i + k ∧ f p = some v
    · rw [if_pos q, if_pos ⟨q.1, by omega, q.2.2⟩]
    · rw [if_neg q, if_neg]; rintro ⟨a, b, c⟩; exact q ⟨a, by omega, c⟩
theorem fB_at {f : Nat → Option Int} {v : Int} {i k : Nat} : fB f v i k (i + k) = f (i + k) := by
  unfold fB; rw [if_neg]; rintro ⟨_, b, _⟩; omega
theorem fB_er {done xs : List Int} {v : Int} {i : Nat} (hi : v ∉ xs.take i) (p : Nat) (hp : p < xs.length) : fB (er done xs) v i (xs.length - i) p = er (v :: done) xs p := by
  have e : xs[p]? = some xs[p] := List.getElem?_eq_getElem hp
  unfold fB
  by_cases h : er done xs p = some v
  · have h' := er_some.mp h
    have hip : i ≤ p := by
      refine Nat.le_of_not_lt fun q => hi ?_
      have : (xs.take i)[p]? = some v := by rw [List.getElem?_take_of_lt q]; exact h'.1
      exact List.mem_of_getElem? this
    rw [if_pos ⟨hip, by omega, h⟩]
    unfold er
    rw [h'.1]; simp
  · rw [if_neg fun q => h q.2.2]
    unfold er at h ⊢
    rw [e] at h ⊢
    simp only [Option.bind_some] at h ⊢
    by_cases hd : xs[p] ∈ done
    · simp [hd]
    · rw [if_neg hd] at h
      have hne : xs[p] ≠ v := fun q => h (by rw [q])
      simp [hd, hne]
theorem cB_count {done xs : List Int} {v : Int} (hv : v ∉ done) (i : Nat) : ∀ k, cB (er done xs) v i k = (((xs.drop i).take k).count v : Int)
  | 0 => by simp [cB]
  | k + 1 => by
    rw [cB, cB_count hv i k, List.take_add_one, List.count_append]
    have e : (xs.drop i)[k]? = xs[i + k]? := by simp [List.getElem?_drop]
    rw [e]
    by_cases h : er done xs (i + k) = some v
    · rw [if_pos h, (er_some.mp h).1]; simp
    · rw [if_neg h]
      cases q : xs[i + k]? with
      | none => simp
      | some u =>
        have hne : u ≠ v := fun z => h (er_some.mpr ⟨by rw [q, z], hv⟩)
        simp [List.count_cons, hne]
theorem cB_all {done xs : List Int} {v : Int} (hv : v ∉ done) {i : Nat} (hi : v ∉ xs.take i) : cB (er done xs) v i (xs.length - i) = (xs.count v : Int) := by
  rw [cB_count hv]
  have e : (xs.drop i).take (xs.length - i) = xs.drop i := by rw [List.take_of_length_le]; simp
  rw [e]
  have c : xs.count v = (xs.take i).count v + (xs.drop i).count v := by rw [← List.count_append, List.take_append_drop]
  rw [c, List.count_eq_zero_of_not_mem hi]; simp
noncomputable def rowA (ns ms : List Int) (k : Nat) : Option (Int × Int × Int) := ns[k]?.bind fun v => if v ∈ ns.take k then none else if (ns.count v : Int) = (ms.count v : Int) then none else some ((ns.count v : Int), (ms.count v : Int), v)
noncomputable def rowsA (ns ms : List Int) (i : Nat) : List (Int × Int × Int) := (List.range i).filterMap (rowA ns ms)
theorem rowsA_succ (ns ms : List Int) (i : Nat) : rowsA ns ms (i + 1) = rowsA ns ms i ++ (rowA ns ms i).toList := by
  simp only [rowsA, List.range_succ, List.filterMap_append]
  cases e : rowA ns ms i <;> simp [e]
noncomputable def rowD (ns ms : List Int) (k : Nat) : Option (Int × Int × Int) := ms[k]?.bind fun v => if v ∈ ns ++ ms.take k then none else some (0, (ms.count v : Int), v)
noncomputable def rowsD (ns ms : List Int) (i : Nat) : List (Int × Int × Int) := (List.range i).filterMap (rowD ns ms)
theorem rowsD_succ (ns ms : List Int) (i : Nat) : rowsD ns ms (i + 1) = rowsD ns ms i ++ (rowD ns ms i).toList := by
  simp only [rowsD, List.range_succ, List.filterMap_append]
  cases e : rowD ns ms i <;> simp [e]
inductive RowsAre (rl : List (Addr × Obj)) : List Value → List (Int × Int × Int) → Prop
  | nil : RowsAre rl [] []
  | cons {x d : Addr} {a b c : Int} {ta tb tc : Tok} {vs : List Value} {rs : List (Int × Int × Int)} : (x, rowO d #[.int a ta, .int b tb, .int c tc]) ∈ rl → RowsAre rl vs rs → RowsAre rl (.ref x :: vs) ((a, b, c) :: rs)
theorem RowsAre.mono {rl rl' : List (Addr × Obj)} {vs : List Value} {rs : List (Int × Int × Int)} (h : RowsAre rl vs rs) (k : ∀ p ∈ rl, p ∈ rl') : RowsAre rl' vs rs := by
  induction h with
  | nil => exact .nil
  | cons hm _ ih => exact .cons (k _ hm) ih
theorem RowsAre.snoc {rl : List (Addr × Obj)} {vs : List Value} {rs : List (Int × Int × Int)} (h : RowsAre rl vs rs) {x d : Addr} {a b c : Int} {ta tb tc : Tok} (hm : (x, rowO d #[.int a ta, .int b tb, .int c tc]) ∈ rl) : RowsAre rl (vs ++ [.ref x]) (rs ++ [(a, b, c)]) := by
  induction h with
  | nil => exact .cons hm .nil
  | cons hm' _ ih => exact .cons hm' ih
theorem RowsAre.length {rl : List (Addr × Obj)} {vs : List Value} {rs : List (Int × Int × Int)} (h : RowsAre rl vs rs) : vs.length = rs.length := by
  induction h with
  | nil => rfl
  | cons _ _ ih => simp [ih]
theorem rowsA_len (ns ms : List Int) (i : Nat) : (rowsA ns ms i).length ≤ i := by
  unfold rowsA
  have := List.length_filterMap_le (rowA ns ms) (List.range i)
  simpa using this
theorem rowsD_len (ns ms : List Int) (i : Nat) : (rowsD ns ms i).length ≤ i := by
  unfold rowsD
  have := List.length_filterMap_le (rowD ns ms) (List.range i)
  simpa using this
theorem off_of {news news' : List (Addr × Obj)} {I : Addr} (e : news'.map (·.1) = news.map (·.1)) (off : ∀ p ∈ news, p.1 ≠ I) : ∀ p ∈ news', p.1 ≠ I := fun p hp => by
  have : p.1 ∈ news.map (·.1) := e ▸ List.mem_map_of_mem hp
  obtain ⟨q, hq, e'⟩ := List.mem_map.mp this
  rw [← e']; exact off q hq
theorem off_one {news news' : List (Addr × Obj)} {I : Addr} {o : Obj} (e : news'.map (·.1) = news.map (·.1)) (off : ∀ p ∈ news, p.1 ≠ I) : ∀ q ∈ [(I, o)], ∀ p ∈ news', p.1 ≠ q.1 := fun q hq => by
  rw [List.mem_singleton.mp hq]; exact off_of e off
theorem fB_at0 {f : Nat → Option Int} {v : Int} {k : Nat} : fB f v 0 k k = f k := by
  have := fB_at (f := f) (v := v) (i := 0) (k := k)
  simpa using this
theorem fB_hit0 {f : Nat → Option Int} {v : Int} {k : Nat} (h : f k = some v) (p : Nat) : (if p = k then none else fB f v 0 k p) = fB f v 0 (k + 1) p := by
  have := fB_hit (f := f) (v := v) (i := 0) (k := k) (by simpa using h) p
  simpa using this
theorem fB_miss0 {f : Nat → Option Int} {v : Int} {k : Nat} (h : f k ≠ some v) (p : Nat) : fB f v 0 k p = fB f v 0 (k + 1) p := fB_miss (by simpa using h) p
theorem cB_hit0 {f : Nat → Option Int} {v : Int} {k : Nat} (h : f k = some v) : cB f v 0 (k + 1) = cB f v 0 k + 1 := by
  rw [cB, Nat.zero_add, if_pos h]
theorem cB_miss0 {f : Nat → Option Int} {v : Int} {k : Nat} (h : f k ≠ some v) : cB f v 0 (k + 1) = cB f v 0 k := by
  rw [cB, Nat.zero_add, if_neg h, Int.add_zero]
theorem off_two {news news' : List (Addr × Obj)} {I J : Addr} {o o' : Obj} (e : news'.map (·.1) = news.map (·.1)) (off : ∀ p ∈ news, p.1 ≠ I ∧ p.1 ≠ J) : ∀ q ∈ [(I, o), (J, o')], ∀ p ∈ news', p.1 ≠ q.1 := fun q hq => by
  rcases List.mem_cons.mp hq with rfl | hq
  · exact off_of e fun p hp => (off p hp).1
  · rw [List.mem_singleton.mp hq]; exact off_of e fun p hp => (off p hp).2
theorem row_use {w : World} {A : Around} {E : Value → Shared → Prop} {s : Shared} {h₀ : Heap} {L : Addr} {m : Str → Option Value} {news : List (Addr × Obj)} {Q : Value → Shared → Prop} {a b c : Int} {ta tb tc : Tok} (C : Cx w 10 A s.heap) (F : Fr h₀ L s.heap m) (N : News h₀ L s.heap news)
    (h : ∀ x d h' tk, Fr h₀ L h' m → News h₀ L h' ((x, rowO d #[.int a ta, .int b tb, .int c tc]) :: news) → (∀ p ∈ news, p.1 ≠ x) → Q (.ref x) { s with heap := h', toks := tk }) :
    wpAny (model Challenge.rw_ox0031_01.row.prog w) A (call (.ref 142) [.int a ta, .int b tb, .int c tc]) Q E s :=
  wpAny_call (mis_call C fun x d h' tk k hn ho => let ⟨N', off⟩ := news_new F N k hn ho; h x d h' tk (F.keeps k) N' off)
theorem take_mem {ns : List Int} {i : Nat} {q : Int} (h : ns[i]? = some q) (x : Int) : x ∈ q :: ns.take i ↔ x ∈ ns.take (i + 1) := by
  rw [List.take_add_one, h]; simp [or_comm]
theorem take_mem' {ns : List Int} {i : Nat} {q : Int} (h : ns[i]? = some q) (hq : q ∈ ns.take i) (x : Int) : x ∈ ns.take (i + 1) ↔ x ∈ ns.take i := by
  rw [List.take_add_one, h]; simp; rintro rfl; exact hq
theorem er_none {done xs : List Int} {p : Nat} (hp : p < xs.length) (h : er done xs p = none) : ∃ q, xs[p]? = some q ∧ q ∈ done := by
  have e : xs[p]? = some xs[p] := List.getElem?_eq_getElem hp
  refine ⟨xs[p], e, ?_⟩
  unfold er at h
  rw [e] at h
  simp only [Option.bind_some] at h
  by_cases hd : xs[p] ∈ done
  · exact hd
  · rw [if_neg hd] at h; cases h
noncomputable def GivesRows (w : World) (A : Around) (f : Addr) (args : List Value) (s : Shared) (rs : List (Int × Int × Int)) : Prop :=
  ∀ R : Result → Shared → Prop, (∀ a (us : Array Value) k h' tk rl, Keep s.heap h' → s.heap.get? a = none → h'.get? a = some (listOf us k) → (∀ p ∈ rl, h'.get? p.1 = some p.2 ∧ s.heap.get? p.1 = none) → RowsAre rl us.toList rs → R (.ok (.ret (.ref a))) { s with heap := h', toks := tk }) →
    codeAny (model Challenge.rw_ox0031_01.row.prog w) A (.call (.ref f) ⟨args, []⟩) R s
theorem mem_app {ns ms : List Int} {i : Nat} {q : Int} (h : ms[i]? = some q) (x : Int) : x ∈ q :: (ns ++ ms.take i) ↔ x ∈ ns ++ ms.take (i + 1) := by
  rw [List.take_add_one, h]; simp only [List.mem_cons, List.mem_append, Option.toList_some, List.not_mem_nil, or_false]
  constructor
  · rintro (h | h | h)
    · exact .inr (.inr h)
    · exact .inl h
    · exact .inr (.inl h)
  · rintro (h | h | h)
    · exact .inr (.inl h)
    · exact .inr (.inr h)
    · exact .inl h
theorem mem_app' {ns ms : List Int} {i : Nat} {q : Int} (h : ms[i]? = some q) (hq : q ∈ ns ++ ms.take i) (x : Int) : x ∈ ns ++ ms.take (i + 1) ↔ x ∈ ns ++ ms.take i := by
  rw [← mem_app h, List.mem_cons]
  constructor
  · rintro (rfl | h)
    · exact hq
    · exact h
  · exact .inr
theorem row_use2 {w : World} {A : Around} {E : Value → Shared → Prop} {s : Shared} {h₀ : Heap} {L : Addr} {m : Str → Option Value} {news : List (Addr × Obj)} {Q : Value → Shared → Prop} {a b c : Int} {ta tb tc : Tok} (C : Cx w 10 A s.heap) (F : Fr h₀ L s.heap m) (N : News h₀ L s.heap news)
    (h : ∀ x ro h' tk, (∃ d, ro = rowO d #[.int a ta, .int b tb, .int c tc]) → Fr h₀ L h' m → News h₀ L h' ((x, ro) :: news) → (∀ p ∈ news, p.1 ≠ x) → Q (.ref x) { s with heap := h', toks := tk }) :
    wpAny (model Challenge.rw_ox0031_01.row.prog w) A (call (.ref 142) [.int a ta, .int b tb, .int c tc]) Q E s :=
  row_use C F N fun x d h' tk F' N' off => h x _ h' tk ⟨d, rfl⟩ F' N' off
end Mine
/- part U1 -/
open PySem PySem.W PyProof.Rows PySem.Calls
namespace Mine
set_option linter.unusedVariables false
noncomputable def ustep (x : List Int × List Int) (v : Int) : List Int × List Int := if v ∈ x.2 then (x.1, x.2.erase v) else (x.1 ++ [v], x.2)
noncomputable def ust (ns ms : List Int) (n : Nat) : List Int × List Int := ((ns.drop n).reverse).foldl ustep ([], ms)
theorem ust_top (ns ms : List Int) : ust ns ms ns.length = ([], ms) := by simp [ust]
theorem ust_succ {ns : List Int} (ms : List Int) {n : Nat} {v : Int} (h : ns[n]? = some v) : ust ns ms n = ustep (ust ns ms (n + 1)) v := by
  have hn : n < ns.length := (List.getElem?_eq_some_iff.mp h).1
  have e : ns.drop n = ns[n] :: ns.drop (n + 1) := List.drop_eq_getElem_cons hn
  have hv : ns[n] = v := (List.getElem?_eq_some_iff.mp h).2
  unfold ust
  rw [e, List.reverse_cons, List.foldl_append, hv]; rfl
theorem ustep_len (x : List Int × List Int) (v : Int) : (ustep x v).1.length ≤ x.1.length + 1 ∧ (ustep x v).2.length ≤ x.2.length := by
  unfold ustep
  split
  · rename_i h; simp [List.length_erase_of_mem h]
  · simp
theorem ust_len {ns ms : List Int} : ∀ k n, n + k = ns.length → (ust ns ms n).1.length ≤ k ∧ (ust ns ms n).2.length ≤ ms.length
  | 0, n, h => by
    have : n = ns.length := by omega
    subst this; rw [ust_top]; simp
  | k + 1, n, h => by
    have hn : n < ns.length := by omega
    rw [ust_succ ms (List.getElem?_eq_getElem hn)]
    have a := ustep_len (ust ns ms (n + 1)) ns[n]
    have b := ust_len (ns := ns) (ms := ms) k (n + 1) (by omega)
    omega
section
variable {prog : Program} {w : World} {A : Around} {E : Value → Shared → Prop} {s : Shared} {h₀ : Heap} {L D : Addr} {m : Str → Option Value} {news news' : List (Addr × Obj)} {its : List Value} {ns : List Int} {n : Nat} {v : Int} {t : Tok} {Q : Value → Shared → Prop}
theorem ints_erase : ∀ {vs : List Value} {ns : List Int}, IntsAre vs ns → ∀ j, IntsAre (vs.eraseIdx j) (ns.eraseIdx j)
  | _, _, .nil, j => by simpa using IntsAre.nil
  | _, _, .cons a u h, 0 => h
  | _, _, .cons a u h, j + 1 => .cons a u (ints_erase h j)
noncomputable def eqInt (v : Int) : Value → Bool
  | .int a _ => a == v
  | _ => false
theorem eqInt_gives (hi : IntsAre its ns) (v : Int) (t : Tok) : ∀ y, y ∈ its.toArray → MeetsSeq.EqGives y (.int v t) (eqInt v y) := fun y hy => by
  obtain ⟨a, u, rfl⟩ := hi.all y (by simpa using hy)
  exact MeetsSeq.EqGives.int a v u t
theorem eqInt_at (hi : IntsAre its ns) {j : Nat} (hj : j < its.toArray.size) (hj' : j < ns.length) : eqInt v its.toArray[j] = (ns[j] == v) := by
  obtain ⟨t, ht⟩ := hi.get j ns[j] (List.getElem?_eq_getElem hj')
  have hz : j < its.length := by simpa using hj
  have e : its.toArray[j] = .int ns[j] t := by
    rw [List.getElem?_eq_getElem hz] at ht
    simpa using ht
  rw [e]; rfl
theorem remove_hit (FF : Fr h₀ L s.heap m) (N : News h₀ L s.heap news) (hi : IntsAre its ns) (hv : v ∈ ns) (hsz : its.length ≤ 64)
    (U : Upd D (listOf its.toArray n) (listOf (its.eraseIdx (ns.idxOf v)).toArray (n + 1)) news news')
    (h : ∀ h', Fr h₀ L h' m → News h₀ L h' news' → IntsAre (its.eraseIdx (ns.idxOf v)) (ns.erase v) → Q .none { s with heap := h' }) : wpAny (model prog w) A (call (.builtin "list.remove") [.ref D, .int v t]) Q E s := by
  obtain ⟨pre, post, rfl, rfl, a, b⟩ := U.split
  have z := N (D, listOf its.toArray n) (List.mem_append.mpr (.inr (.head _)))
  have hlen := hi.length
  have hlt : ns.idxOf v < ns.length := List.idxOf_lt_length_of_mem hv
  have hjs : ns.idxOf v < its.toArray.size := by simp; omega
  have hit : eqInt v its.toArray[ns.idxOf v] = true := by
    rw [eqInt_at hi hjs hlt]; simp
  have hno : ∀ q (hq : q < its.toArray.size), q < ns.idxOf v → eqInt v its.toArray[q] = false := fun q hq hlt' => by
    rw [eqInt_at hi hq (by omega)]
    simpa using List.not_of_lt_findIdx hlt'
  refine call_meets F.slot_list_remove ⟨_, z.1, rfl⟩ F.entry_list_remove (F.args_list_remove_2 _ _) (MeetsSeq.list_remove D its.toArray n (.int v t) (eqInt v) (eqInt_gives hi v t) (ns.idxOf v) hjs hit hno (by rw [sizeLine_eq]; simp; omega)) ⟨z.1, ?_⟩
  refine h _ (FF.change (Heap.SameBut.update ..) z.2.1 z.2.2) (ki_turn _ N a b ?_ ?_) ?_
  · apply Array.toList_inj.mp
    simp [Array.toList_eraseIdxIfInBounds]
  · simp [List.length_eraseIdx]; omega
  · rw [List.erase_eq_eraseIdx_of_idxOf rfl]; exact ints_erase hi _
theorem remove_miss {E : Value → Shared → Prop} (N : News h₀ L s.heap news) (hm : (D, listOf its.toArray n) ∈ news) (hh : A.handled = none) (hi : IntsAre its ns) (hv : v ∉ ns)
    (h : ∀ h' tk e, Heap.NewExc s.heap h' e "ValueError" → E (.ref e) { s with heap := h', toks := tk }) : wpAny (model prog w) A (call (.builtin "list.remove") [.ref D, .int v t]) Q E s := by
  have z := (N _ hm).1
  have hlen := hi.length
  refine call_meets F.slot_list_remove ⟨_, z, rfl⟩ F.entry_list_remove (F.args_list_remove_2 _ _) (MeetsSeq.list_remove_none D its.toArray n (.int v t) (eqInt v) (eqInt_gives hi v t) fun q hq => ?_) ⟨z, hh, h⟩
  have hq' : q < ns.length := by simp at hq; omega
  rw [eqInt_at hi hq hq']
  have : ns[q] ≠ v := fun e => hv (e ▸ List.getElem_mem hq')
  simpa using this
end
inductive Stood (h₀ : Heap) (L : Addr) (g : Array GenState) (d : Drawn) (os : OsState) (Jn : (Str → Option Value) → List (Addr × Obj) → Prop) (s' : Shared) : Prop
  | mk (h : Heap) (tk : Nat) (m : Str → Option Value) (news : List (Addr × Obj)) (e : s' = { heap := h, gens := g, drawn := d, toks := tk, os := os }) (F : Fr h₀ L h m) (N : News h₀ L h news) (j : Jn m news)
/-- while: the number n falls at each turn -/
noncomputable def WEnd (h₀ : Heap) (L : Addr) (s : Shared) (n : Nat) (J : Nat → (Str → Option Value) → List (Addr × Obj) → Prop) (Q : Flow → Shared → Prop) (f : Flow) (s' : Shared) : Prop :=
  match f with
  | .ret v => Q (.ret v) s'
  | .brk => Q .next s'
  | _ => ∃ n', n' < n ∧ Stood h₀ L s.gens s.drawn s.os (J n') s'
theorem while_ {prog : Program} {w : World} {A : Around} {E : Value → Shared → Prop} {s : Shared} {env : Env} {h₀ : Heap} {L : Addr} {m₀ : Str → Option Value} {news₀ : List (Addr × Obj)} {test : Expr} {body rest : List Stmt} {pos : Pos} {Q : Flow → Shared → Prop}
    (J' : (Str → Option Value) → Nat → (Str → Option Value) → List (Addr × Obj) → Prop) (n : Nat) (F : Fr h₀ L s.heap m₀) (N : News h₀ L s.heap news₀) (j0 : J' m₀ n m₀ news₀)
    (turn : ∀ n m news h tk, J' m₀ n m news → Fr h₀ L h m → News h₀ L h news →
      wpAny (model prog w) A (isTrue test env (eval test env)) (fun b s₂ => if b = true then wpAny (model prog w) A (execs body env) (WEnd h₀ L s n (J' m₀) (fun f s' => match f with | .next => wpAny (model prog w) A (execs rest env) Q E s' | f => Q f s')) (fun _ _ => False) s₂
        else wpAny (model prog w) A (execs rest env) Q E s₂) (fun _ _ => False) { s with heap := h, toks := tk }) :
    Stop (wpAny (model prog w) A (execs (.While test body [] pos :: rest) env) Q E s) := by
  refine wpAny_execs_cons (wpAny_While (codeAny_whileLoop (fun n s' => Stood h₀ L s.gens s.drawn s.os (J' m₀ n) s') ?_ n ⟨s.heap, s.toks, m₀, news₀, rfl, F, N, j0⟩))
  rintro n s' ⟨h, tk, m, news, rfl, F, N, j⟩
  refine wpAny_noRaise (wpAny_mono (turn n m news h tk j F N) (fun b s₂ h₂ => ?_) fun _ _ e => e)
  cases b with
  | false =>
    simp only [Bool.false_eq_true, if_false] at h₂ ⊢
    exact wpAny_execs_nil h₂
  | true =>
    simp only [if_true] at h₂ ⊢
    refine wpAny_noRaise (wpAny_mono h₂ (fun f s₃ h₃ => ?_) fun _ _ e => e)
    cases f with
    | next => exact h₃
    | cont => exact h₃
    | brk => exact h₃
    | ret v => exact h₃
theorem WEnd.next {h₀ : Heap} {L : Addr} {s : Shared} {n n' : Nat} {J : Nat → (Str → Option Value) → List (Addr × Obj) → Prop} {Q : Flow → Shared → Prop} {h' : Heap} {tk' : Nat} {m' : Str → Option Value} {news' : List (Addr × Obj)}
    (hn : n' < n) (F : Fr h₀ L h' m') (N : News h₀ L h' news') (j : J n' m' news') : WEnd h₀ L s n J Q .next { s with heap := h', toks := tk' } := ⟨n', hn, ⟨h', tk', m', news', rfl, F, N, j⟩⟩
/-- a call of a def that changes objects of its caller's ledger; the caller's frame stands at the ledger's end -/
theorem enterL {prog : Program} {w : World} {A : Around} {s : Shared} {K : Frag} {p : Program} {loose : List Str} {mean : ExcName → Option Value} {mg mb : Str → Option Value} {h₀ : Heap} {L : Addr} {m : Str → Option Value} {news : List (Addr × Obj)} {cenv : Env}
    {R : Result → Shared → Prop} {name qual : Str} {params : Arguments} {body : List Stmt} {scope : Scope} {dV kV doc pm cdv ct oc : Value} {an od : Option Addr} {osl : Array (Option Value)} {f : Addr} {args : Args} {binds : List (Str × Value)} (bs : List (Str × Value))
    (F : Fr h₀ L s.heap m) (N : News h₀ L s.heap news) (X : K.In h₀) (T : Top p loose mean mg mb h₀) (hcf : cenv.frame = some L) (hck : cenv.scope.kind = .function)
    (ho : K.lookup f = some ⟨oc, od, .func (fnOf name qual params body scope dV kV doc pm an cdv ct), osl⟩) (hcd : codeIn K cdv qual = true) (hroom : A.depth < recursionLimit)
    (hbind : BindsTo s (fnOf name qual params body scope dV kV doc pm an cdv ct) args binds) (hbs : binds.reverse = bs) (hloc : ∀ y ∈ binds, scope.names.lookup y.1 = some .local)
    (h : ∀ oL h₁ tk, TI.Caller h₀ L m oL → TI.Frs [cenv] [(L, oL)] → (∀ p ∈ news, p.1 ≠ L) → Fr h₀ s.heap.objs.size h₁ (ov bs fun _ => none) → News h₀ s.heap.objs.size h₁ (news ++ [(L, oL)]) →
      wpAny (model prog w) (A.deeper (envOf qual scope s.heap.objs.size f cdv)) (execs body (envOf qual scope s.heap.objs.size f cdv))
        (fun fl s' => R (.ok (.ret (match fl with | .ret v => v | _ => .none))) s') (fun _ _ => False)
        { s with heap := h₁, toks := tk })
    (hco : scope.isCoroutine = false) (hgen : scope.isGenerator = false) (hk : scope.kind = .function)
    (hcell : ∀ x ∈ scope.names, x.2 ≠ .cell) : codeAny (model prog w) A (.call (.ref f) args) R s := by
  have X' := X.keeps F.keep
  obtain ⟨oL, es, ep, hL, hLd, hLk, hLf⟩ := F.ns
  have hLt := Heap.lt_size hL
  refine codeAny_call_def (fd := fnOf name qual params body scope dV kV doc pm an cdv ct) (body := body) (binds := binds) hroom (X' _ _ ho) rfl (T.nolimit.keeps F.keep) (codeRec_of X' hcd) rfl hbind hcell hloc (fun h₁ hns hk₁ => ?_) hco hgen hk
  rw [hbs, lookup_ov] at hns
  refine wpAny_noRaise (h oL h₁ _ ⟨fun h' sl e => ⟨_, es, ep, e, hLd, hLk, hLf⟩, ⟨es, ep, hLd⟩, F.above⟩ ⟨by rw [hck]; decide, hcf, ⟨es, ep, hLd⟩, trivial⟩ (fun p hp => (N p hp).2.1)
    ⟨hns, fun b o e => hk₁ b o (F.keep b o e), Nat.le_trans F.above (Nat.le_of_lt hLt)⟩ fun p hp => ?_)
  rcases List.mem_append.mp hp with hp | hp
  · obtain ⟨h1, h2, h3⟩ := N p hp
    exact ⟨hk₁ _ _ h1, Nat.ne_of_lt (Heap.lt_size h1), h3⟩
  · rw [List.mem_singleton.mp hp]
    exact ⟨hk₁ _ _ hL, Nat.ne_of_lt hLt, Heap.get?_none_of_le F.above⟩
theorem truthyN {prog : Program} {w : World} {A : Around} {E : Value → Shared → Prop} {s : Shared} {h₀ : Heap} {L D : Addr} {news : List (Addr × Obj)} {its : Array Value} {n : Nat} {b : Bool} {Q : Bool → Shared → Prop} (N : News h₀ L s.heap news) (hm : (D, listOf its n) ∈ news) (hfit : its.size ≤ 1000) (hb : (!its.isEmpty) = b)
    (h : ∀ tk, Q b { s with toks := tk }) : wpAny (model prog w) A (truthy (.ref D)) Q E s := by
  have hl : s.heap.IsList D its := ⟨_, (N _ hm).1, rfl, n, rfl⟩
  refine wpAny_truthy_list hl (by omega) ?_
  rw [hb]; exact h _
theorem clause9 {prog : Program} {w : World} {A₀ : Around} {s' : Shared} {h₀ : Heap} {L a e : Addr} {m : Str → Option Value} {name : Str} {scope : Scope} {cd : Value} {news : List (Addr × Obj)} {b₀ : Stmt} {suite : List Stmt} {pos np : Pos} {rest : List ExceptHandler} {Q : Flow → Shared → Prop} {fl : Value}
    (H : TT.HeldNA h₀ L s'.heap m e "ValueError" news fl)
    (hev : ∀ (Q' : Value → Shared → Prop) (E' : Value → Shared → Prop), Q' (.type "ValueError") s' → wpAny (model prog w) ((A₀.deeper (envOf name scope L a cd)).mark (some (.ref e))) (eval (.Name (Str.ofString "ValueError") np) (envOf name scope L a cd)) Q' E' s')
    (k : ∀ h', Fr h₀ L h' m → News h₀ L h' news → wpAny (model prog w) ((A₀.deeper (envOf name scope L a cd)).mark (some (.ref e))) (execs (b₀ :: suite) (envOf name scope L a cd)) Q (fun _ _ => False) { s' with heap := h' })  :
    wpAny (model prog w) (A₀.deeper (envOf name scope L a cd)) (handleBy (.ref e) (envOf name scope L a cd) (.ExceptHandler (some (.Name (Str.ofString "ValueError") np)) none (b₀ :: suite) pos :: rest)) Q (fun _ _ => False) s' := by
  refine wpAny_handleBy_builtin (X := "ValueError") (T := "ValueError") (b := true) (isSubtype_of_subB (by decide +kernel)) (isSubtype_of_subB (by decide +kernel)) (isSubtype_of_subB (by decide +kernel)) (wpAny_passesOwnAt PassesOwnAt.never (hev _ _ ⟨rfl, H.isA, ?_⟩))
  rw [if_pos rfl]
  exact H.lands fun h' F' N' => wpAny_passesOwnAt PassesOwnAt.never (k h' F' N')
theorem last_take {ns : List Int} {n : Nat} (h : n < ns.length) : ns[n]? = some ((ns.take (n + 1)).getLastD 0) := by
  have e : ns.take (n + 1) = ns.take n ++ [ns[n]] := by rw [List.take_add_one, List.getElem?_eq_getElem h]; rfl
  rw [e, List.getElem?_eq_getElem h, List.getLastD_concat]
theorem mem9 {α : Type} {x y z c : α} {l l' : List α} {p : α} (h : p ∈ x :: y :: c :: l) : p ∈ x :: y :: z :: c :: (l ++ l') := by
  simp only [List.mem_cons, List.mem_append] at h ⊢
  rcases h with h | h | h | h
  · exact .inl h
  · exact .inr (.inl h)
  · exact .inr (.inr (.inr (.inl h)))
  · exact .inr (.inr (.inr (.inr (.inl h))))
end Mine
/- part K1 -/
open PySem PySem.W PyProof.Rows PySem.Calls
namespace Mine
set_option linter.unusedVariables false
section
variable {prog : Program} {w : World} {A : Around} {s : Shared} {K : Frag} {p : Program} {loose : List Str} {mean : ExcName → Option Value} {mg mb : Str → Option Value}
/-- as `enter`, for a def that owns cells -/
theorem enterC {R : Result → Shared → Prop} {name qual : Str} {params : Arguments} {body : List Stmt} {scope : Scope} {dV kV doc pm cdv ct oc : Value} {an od : Option Addr} {osl : Array (Option Value)} {f : Addr} {args : Args} {binds : List (Str × Value)}
    (X : K.In s.heap) (T : Top p loose mean mg mb s.heap)
    (ho : K.lookup f = some ⟨oc, od, .func (fnOf name qual params body scope dV kV doc pm an cdv ct), osl⟩) (hcd : codeIn K cdv qual = true) (hroom : A.depth < recursionLimit)
    (hbind : BindsTo s (fnOf name qual params body scope dV kV doc pm an cdv ct) args binds) (hkind : (binds.all fun y => scope.names.lookup y.1 == some .local || scope.names.lookup y.1 == some .cell) = true)
    (hnd : ((cellsFrom 0 scope.names []).map (·.1)).Nodup)
    (h : ∀ h₁ tk cells, Fr s.heap s.heap.objs.size h₁ (bindL (envOfC qual scope s.heap.objs.size f cdv).kindOf binds fun _ => none) → News s.heap s.heap.objs.size h₁ cells →
      CellsAre (bindC (envOfC qual scope s.heap.objs.size f cdv).kindOf binds fun _ => none) (cellsFrom (s.heap.objs.size + 1) scope.names []) cells →
      wpAny (model prog w) (A.deeper (envOfC qual scope s.heap.objs.size f cdv)) (execs body (envOfC qual scope s.heap.objs.size f cdv))
        (fun fl s' => R (.ok (.ret (match fl with | .ret v => v | _ => .none))) s') (fun _ _ => False)
        { s with heap := h₁, toks := tk })
    (hco : scope.isCoroutine = false) (hgen : scope.isGenerator = false) (hk : scope.kind = .function) : codeAny (model prog w) A (.call (.ref f) args) R s := by
  refine codeAny_call_function hroom (X _ _ ho) rfl hco hgen rfl (codeRec_of X hcd) (hbind _ _ _ _ ?_)
  refine wpAny_newFunctionEnv_cells hk (kindsX hkind _) fun env' he s' x => ?_
  subst he
  refine ⟨T.nolimit.keeps x.toInCall.keep, codeAny_func ?_⟩
  obtain ⟨h₁, tk, rfl, _⟩ := x.done
  obtain ⟨cells, NC, Y⟩ := Cl.news (h₀ := s.heap) (Nat.le_refl _) fun n c hm => ⟨x.cell n c (lookup_of_mem_nodup (cellsFrom_names scope.names 0 (s.heap.objs.size + 1) [] [] rfl ▸ hnd) hm), x.above n c hm⟩
  exact wpAny_noRaise (h h₁ tk cells ⟨x.toInCall.ns, x.toInCall.keep, Nat.le_refl _⟩ NC Y)
end
open LCg
section
variable {prog : Program} {w : World} {A : Around} {E : Value → Shared → Prop} {s : Shared} {h₀ : Heap} {L : Addr} {m : Str → Option Value} {env : Env}
theorem CompEnd.mono {I C D : Addr} {s₁ : Shared} {oI oC oD : Obj} {S : List (Addr × Obj) → Prop} {rest rest' : Value → List (Addr × Obj) → Prop} {y : Value} {s₂ : Shared}
    (h : CompEnd h₀ L m s₁ I oI C oC D oD S rest y s₂) (k : ∀ y n, rest y n → rest' y n) : CompEnd h₀ L m s₁ I oI C oC D oD S rest' y s₂ :=
  let ⟨h', tk, n, e, F, N, o, hS, r⟩ := h; ⟨h', tk, n, e, F, N, o, hS, k _ _ r⟩
theorem rest_T {ct elt : Expr} {x : Str} {scope : Scope} {cl : List (Str × Addr)} {S : List (Addr × Obj) → Prop} {P : Nat → Value → Prop} {Fin : List Value → List (Addr × Obj) → Prop} {n : Nat}
    (J : Nat → List Value → List (Addr × Obj) → Prop)
    (turn : ∀ i ys news v I oI C oC D m₂ h tk (E' : Value → Shared → Prop), i < n → J i ys news → P i v → NsObj oC m₂ → m₂ x = some v → Fr h₀ L h m → News h₀ L h ((I, oI) :: (C, oC) :: (D, lst ys) :: news) → Off3 I C D news → ((@Ne Nat I C) ∧ (@Ne Nat I D) ∧ (@Ne Nat C D)) →
      wpAny (model prog w) A (isTrue ct (compEnvC scope cl C env) (eval ct (compEnvC scope cl C env))) (fun ok s' => if ok = true then
        wpAny (model prog w) A (eval elt (compEnvC scope cl C env)) (CompEnd h₀ L m { s with heap := h, toks := tk } I oI C oC D (lst ys) S (fun y news' => J (i + 1) (ys ++ [y]) news')) E' s'
        else CompEnd h₀ L m { s with heap := h, toks := tk } I oI C oC D (lst ys) S (fun _ news' => J (i + 1) ys news') Value.none s') E' { s with heap := h, toks := tk })
    (fin : ∀ ys news, J n ys news → Fin ys news) : ∀ k i ys news, k + i = n → J i ys news → LCt.CompRestT prog w A h₀ L m env ct elt x scope cl s S P Fin k i ys news
  | 0, i, ys, news, e, j => fin ys news (by rw [← e, Nat.zero_add]; exact j)
  | k + 1, i, ys, news, e, j => by
    refine LCt.CompRestT.succ ?_
    intro v I oI C oC D m₂ h tk E' hP hC hx F N off ne
    refine wpAny_mono (turn i ys news v I oI C oC D m₂ h tk E' (by omega) j hP hC hx F N off ne) (fun ok s' hs => ?_) fun _ _ e => e
    cases ok with
    | true =>
      simp only [if_true] at hs ⊢
      exact wpAny_mono hs (fun y s₂ h₂ => CompEnd.mono h₂ fun y nw r => rest_T J turn fin k (i + 1) _ _ (by omega) r) fun _ _ e => e
    | false =>
      simp only [Bool.false_eq_true, if_false] at hs ⊢
      exact CompEnd.mono hs fun _ nw r => rest_T J turn fin k (i + 1) _ _ (by omega) r
theorem rest_U {elt : Expr} {x : Str} {scope : Scope} {cl : List (Str × Addr)} {S : List (Addr × Obj) → Prop} {P : Nat → Value → Prop} {Fin : List Value → List (Addr × Obj) → Prop} {n : Nat}
    (J : Nat → List Value → List (Addr × Obj) → Prop)
    (turn : ∀ i ys news v I oI C oC D m₂ h tk (E' : Value → Shared → Prop), i < n → J i ys news → P i v → NsObj oC m₂ → m₂ x = some v → Fr h₀ L h m → News h₀ L h ((I, oI) :: (C, oC) :: (D, lst ys) :: news) → Off3 I C D news → ((@Ne Nat I C) ∧ (@Ne Nat I D) ∧ (@Ne Nat C D)) →
      wpAny (model prog w) A (eval elt (compEnvC scope cl C env)) (CompEnd h₀ L m { s with heap := h, toks := tk } I oI C oC D (lst ys) S (fun y news' => J (i + 1) (ys ++ [y]) news')) E' { s with heap := h, toks := tk })
    (fin : ∀ ys news, J n ys news → Fin ys news) : ∀ k i ys news, k + i = n → J i ys news → CompRest prog w A h₀ L m env elt x scope cl s S P Fin k i ys news
  | 0, i, ys, news, e, j => fin ys news (by rw [← e, Nat.zero_add]; exact j)
  | k + 1, i, ys, news, e, j => by
    refine CompRest.succ ?_
    intro v I oI C oC D m₂ h tk E' hP hC hx F N off ne
    exact wpAny_mono (turn i ys news v I oI C oC D m₂ h tk E' (by omega) j hP hC hx F N off ne) (fun y s' hs => CompEnd.mono hs fun y nw r => rest_U J turn fin k (i + 1) _ _ (by omega) r) fun _ _ e => e
theorem range_st' {I : Addr} {a c : Int} {n : Nat} : ∀ i (h h' : Heap) (o : Obj) (nw : List (Addr × Obj)), IsRangeIter h I (a + (i : Nat) * c) ((n : Int) - (i : Nat)) c → h.get? I = some o → h'.get? I = some o → (∀ b o, h₀.get? b = some o → h'.get? b = some o) → News h₀ L h' nw → True → IsRangeIter h' I (a + (i : Nat) * c) ((n : Int) - (i : Nat)) c :=
  fun i h h' o nw st e e' _ _ _ => by
    have st' : h.get? I = some _ := st
    show h'.get? I = some _
    rw [e', ← e]; exact st'
/-- what a comprehension runs over: a range, and what is to be shown of the turns -/
inductive Ranged (prog : Program) (w : World) (A : Around) (h₀ : Heap) (L : Addr) (m : Str → Option Value) (env : Env) (ct elt : Expr) (x : Str) (scope : Scope) (cl : List (Str × Addr)) (Fin : Shared → List Value → List (Addr × Obj) → Prop) (xv : Value) (s₁ : Shared) : Prop
  | mk (r : Addr) (a b c : Int) (t u v : Tok) (n : Nat) (news : List (Addr × Obj)) (e : xv = .ref r) (hh : A.handled = none) (F : Fr h₀ L s₁.heap m) (N : News h₀ L s₁.heap news) (hr : IsRange s₁.heap r a b c t u v) (hsm : Builtin.Range.small a b c = true) (hn : Builtin.Range.rangeSize a b c = ((n : Nat) : Int)) (hsz : n ≤ sizeLine)
      (R : ∀ g, LCt.CompRestT prog w A h₀ L m env ct elt x scope cl { s₁ with heap := g } (fun _ => True) (fun i v => ∃ t, v = .int (a + (i : Int) * c) t) (Fin { s₁ with heap := g }) n 0 [] news)
/-- a list comprehension with one test over a range, any step -/
theorem comp_T {ct elt iter : Expr} {x : Str} {px : Pos} {scope : Scope} {cl : List (Str × Addr)} {pos : Pos} {Q : Value → Shared → Prop} (F₀ : Fr h₀ L s.heap m)
    (hclos : closureFor scope env = pure cl) (hcell : ∀ y ∈ scope.names, y.2 ≠ .cell) (hkind : scope.kind = .function)
    (hnames : ∀ y ∈ scope.names, y.2 = .local → scope.names.lookup y.1 = some .local) (hx : scope.names.lookup x = some .local)
    (h : wpAny (model prog w) A (eval iter env) (fun xv s₁ => Stop (Ranged prog w A h₀ L m env ct elt x scope cl (fun s => FinE h₀ L m s Q) xv s₁)) E s)
    (hs : ∀ x, foldedSetIterable iter env x = pure x := by intro _; rfl) :
    Stop (wpAny (model prog w) A (eval (.ListComp elt [⟨.Name x px, iter, [ct], 0⟩] scope pos) env) Q E s) := by
  refine Stop.go ?_
  rw [eval_ListComp]
  refine wpAny_comprehension_free (use := none) rfl hs hclos hkind hnames (wpAny_mono h (fun xv s₁ h₁ => ?_) fun _ _ e => e)
  obtain ⟨r, a, b, c, t, u, v, n, news, rfl, hh, F, N, hr, hsm, hn, hsz, R⟩ := h₁
  refine wpAny_pyIter_range hr hsm ?_
  refine LCt.block_T (Walks.range hh _ a c n) hsz (fun i h st => ⟨_, st⟩) range_st' hcell hkind hx (by show IsRangeIter _ _ _ _ _; rw [hn]; simpa using Heap.get?_push_size _ rfl) (fun b hb => ?_)
      (F.keeps fun _ _ e => Heap.get?_push_of_some _ e) (N.grown fun _ _ e => Heap.get?_push_of_some _ e) (Nat.ne_of_lt F.ns.lt) (next_is_new F) (fun p hp => Nat.ne_of_lt (Heap.lt_size (N p hp).1)) trivial (R _) ?_
  · rw [List.mem_singleton.mp hb]
    show s₁.heap.objs.size < (s₁.heap.push _).objs.size
    rw [Heap.size_push]; exact Nat.lt_succ_self _
  · intro D C h tk m' ys news' F' N' o1 hn hC₀ hD₀ hCL hDL hCD offC fin
    refine ⟨m', hn, fun h'' hs'' => fin D h'' tk (F'.change hs'' hCL hC₀) (fun p hp => ?_) o1⟩
    refine ⟨hs''.extBut _ _ ?_ (N' p hp).1, (N' p hp).2⟩
    rcases List.mem_cons.mp hp with rfl | hp
    · exact Ne.symm hCD
    · exact offC p hp
theorem comp_TA {ct elt iter : Expr} {x y : Str} {px py : Pos} {scope : Scope} {cl : List (Str × Addr)} {pos spos : Pos} {Q : Flow → Shared → Prop} (F₀ : Fr h₀ L s.heap m) (hLe : env.locals = L)
    (hsw : swapsWith (.ListComp elt [⟨.Name x px, iter, [ct], 0⟩] scope pos) (some (.Name y py)) spos.line env = pure true)
    (hclos : closureFor scope env = pure cl) (hcell : ∀ y ∈ scope.names, y.2 ≠ .cell) (hkind : scope.kind = .function)
    (hnames : ∀ y ∈ scope.names, y.2 = .local → scope.names.lookup y.1 = some .local) (hx : scope.names.lookup x = some .local)
    (hy : env.kindOf y = some .local) (hp : (env.scope.kind == .class || (env.scope.kind == .module && env.locals != env.globals)) = false)
    (h : wpAny (model prog w) A (eval iter env) (fun xv s₁ => Stop (Ranged prog w A h₀ L m env ct elt x scope cl (fun s => FinA h₀ L m s y Q) xv s₁)) E s)
    (hs : ∀ x, foldedSetIterable iter env x = pure x := by intro _; rfl) :
    Stop (wpAny (model prog w) A (exec (.Assign [.Name y py] (.ListComp elt [⟨.Name x px, iter, [ct], 0⟩] scope pos) spos) env) Q E s) := by
  refine Stop.go ?_
  subst hLe
  rw [exec_Assign_Name_used _ _ _ _ hsw]
  refine wpAny_bind (wpAny_standAt (wpAny_bind ?_))
  show wpAny _ A (do let _ ← comprehension (.ListComp elt [⟨.Name x px, iter, [ct], 0⟩] scope pos) scope env _ (newList []) false (eval iter env) (some (assign (.Name y py) env))) _ _ s
  refine wpAny_bind (wpAny_mono (wpAny_comprehension_free (use := some (assign (.Name y py) env)) (Q := fun _ s' => Q .next s') rfl hs hclos hkind hnames
    (wpAny_mono h (fun xv s₁ h₁ => ?_) fun _ _ e => e)) (fun _ s' hq => wpAny_pure (wpAny_pure hq)) fun _ _ e => e)
  obtain ⟨r, a, b, c, t, u, v, n, news, rfl, hh, F, N, hr, hsm, hn, hsz, R⟩ := h₁
  refine wpAny_pyIter_range hr hsm ?_
  refine LCt.block_T (Walks.range hh _ a c n) hsz (fun i h st => ⟨_, st⟩) range_st' hcell hkind hx (by show IsRangeIter _ _ _ _ _; rw [hn]; simpa using Heap.get?_push_size _ rfl) (fun b hb => ?_)
      (F.keeps fun _ _ e => Heap.get?_push_of_some _ e) (N.grown fun _ _ e => Heap.get?_push_of_some _ e) (Nat.ne_of_lt F.ns.lt) (next_is_new F) (fun p hp => Nat.ne_of_lt (Heap.lt_size (N p hp).1)) trivial (R _) ?_
  · rw [List.mem_singleton.mp hb]
    show s₁.heap.objs.size < (s₁.heap.push _).objs.size
    rw [Heap.size_push]; exact Nat.lt_succ_self _
  · intro D C h' tk m' ys news' F' N' o1 hn hC₀ hD₀ hCL hDL hCD offC fin
    show wpAny _ A (assign (.Name y py) env (.ref D)) _ _ _
    refine wpAny_assign_Name (wpAny_storeName_local hy F'.ns (fun h₂ hn₂ hs₂ => ?_) hp)
    have hL₀ : h₀.get? env.locals = none := Heap.get?_none_of_le F'.above
    have F₂ : Fr h₀ env.locals h₂ (fun z => if z = y then some (.ref D) else m z) := ⟨hn₂, fun b o e => hs₂.extBut b o (fun q => by rw [q, hL₀] at e; cases e) (F'.keep b o e), F'.above⟩
    refine ⟨m', hn.sameBut hs₂ hCL, fun h'' hs'' => fin D h'' _ (F₂.change hs'' hCL hC₀) (fun p hp => ?_) o1⟩
    have z : h₂.get? p.1 = some p.2 := hs₂.extBut _ _ (N' p hp).2.1 (N' p hp).1
    refine ⟨hs''.extBut _ _ ?_ z, (N' p hp).2⟩
    rcases List.mem_cons.mp hp with rfl | hp
    · exact Ne.symm hCD
    · exact offC p hp
end
end Mine
open PySem PySem.W PyProof.Rows PySem.Calls
namespace Mine
local macro_rules | `(tactic| walk_at "execs cons For") => `(tactic| refine Mine.stop ?_)
local macro_rules | `(tactic| walk_at "call type:range cons nil") => `(tactic| (refine Mine.range1 (by k_asm) (by k_asm) ?_; intro _ _ _ _ _ _ _ l1; try k_lt l1))
local macro_rules | `(tactic| k_all) => `(tactic| with_reducible assumption)
local macro_rules | `(tactic| k_ne) => `(tactic| first | with_reducible assumption | (refine Ne.symm ?_; with_reducible assumption))
/- part F1 -/
section
set_option linter.unusedVariables false
local macro_rules | `(tactic| walk_at "call type:enumerate cons nil") => `(tactic| (refine Mine.stop ?_))
set_option maxRecDepth 100000 in
set_option maxHeartbeats 8000000 in
theorem parts_call {w : World} {A : Around} {s : Shared} {l : Addr} {vs : List Value} {sc : List Int} (C : Cx w 5 A s.heap)
    (hl : s.heap.IsList l vs.toArray) (hi : IntsAre vs sc) (hlen : sc.length ≤ 63) : GivesInts w A 173 [.ref l] s (fun r => r.length = 6 ∧ ∀ p ∈ r, 0 ≤ p ∧ p < 8) := by
  intro R ret
  obtain ⟨X, ⟨loose, mean, mg, mb, T⟩, hh, dp, un⟩ := C
  revert X; k_fill; intro X
  (refine' enter _ ?k1 ?k2 ?k6 ?k7 ?k8 ?k9 ?kR ?kB ?_ ?c2 ?c3 ?c4 ?c5; (case k1 => assumption); (case k2 => assumption); (case k6 => k_is); (case k7 => k_is); (case k8 => exact room0 (by assumption)); (case k9 => exact BindsTo.of_eq rfl); (case kR => exact rfl); (case kB => exact locs rfl); (case c2 => rfl); (case c3 => rfl); (case c4 => rfl); (case c5 => decide))
  intro h₁ tk (F : Fr s.heap s.heap.objs.size h₁ (ov [(Str.ofString "script", .ref l)] fun _ => none)) N
  k_steps
  refine for_ ?_
  k_steps
  (try dsimp only)
  rename_i c _ _ _ D ws _ F N hI _ _ hcD
  refine enum1 F N ⟨_, (N _ (.head _)).1, rfl, _, rfl⟩ ?_
  intro e it oi h' tk' F N lt hie hoc hod
  (try dsimp only)
  have hDi := ltN (lt _ (.head _))
  have hci := ltN (lt _ (.tail _ (.head _)))
  replace hie := ltN hie
  have ec : e ≠ c := Nat.ne_of_gt (Nat.lt_trans hci hie)
  have ic : it ≠ c := Nat.ne_of_gt hci
  have eD : e ≠ D := Nat.ne_of_gt (Nat.lt_trans hDi hie)
  have iD : it ≠ D := Nat.ne_of_gt hDi
  have hwl : ws.length ≤ 12 := by have := hI.length; simp at this; omega
  refine for_enum ws.length (fun m₀ i m news => ∃ its k ns, Same [Str.ofString "x", Str.ofString "k"] m (ov [] m₀) ∧ news = [(D, listOf ws.toArray 0), (c, listOf its k)] ∧ IntsAre its.toList ns ∧ ns.length = 6 ∧ ∀ p ∈ ns, 0 ≤ p ∧ p < 8) _ hh F N hoc hod (Nat.ne_of_gt hie) ?_ rfl rfl rfl rfl (fun p hp => hp) ?_ ?_ ?_ ?_
  · exact List.forall_mem_cons.mpr ⟨⟨eD.symm, iD.symm⟩, List.forall_mem_cons.mpr ⟨⟨ec.symm, ic.symm⟩, fun _ h => (nomatch h)⟩⟩
  · exact ⟨_, _, [1, 5, 0, 0, 0, 0], .start0, rfl, .cons _ _ (.cons _ _ (.cons _ _ (.cons _ _ (.cons _ _ (.cons _ _ .nil))))), rfl, by decide⟩
  · rintro i m _ ⟨its, k, ns, _, rfl, _⟩
    exact ⟨ws.toArray, .inr ⟨_, .head _, rfl, _, rfl⟩, by simp⟩
  · rintro i v m _ h tk t oI oi its' hin S hv ⟨its, k, ns, hm, rfl, hus, hn6, hnb⟩ off F N
    rw [hm.eq] at F
    refine post fun P9 hP => ?_
    have hits : its' = ws.toArray := src_uniq S F N (fun p hp => .tail _ (.tail _ hp)) (.head _)
    subst hits
    obtain ⟨n, tn, rfl, hn⟩ := hI.at i v (by simpa using hv)
    k_steps
    rename Fr _ _ _ _ => F
    rename News _ _ _ _ => N
    refine hP _ _ ?_
    refine TurnEnd.next F N ?_ ⟨_, _, ns.set ((i : Int).fmod 6).toNat ((ns.getD ((i : Int).fmod 6).toNat 0 + n.fmod 8).fmod 8), Same.skip (Same.skip .mixed (.tail _ (.head _))) (.head _), rfl, ?_, ?_, ?_⟩
    · exact List.forall_mem_cons.mpr ⟨List.forall_mem_cons.mpr ⟨eD.symm, List.forall_mem_cons.mpr ⟨ec.symm, fun _ h => (nomatch h)⟩⟩, List.forall_mem_cons.mpr ⟨List.forall_mem_cons.mpr ⟨iD.symm, List.forall_mem_cons.mpr ⟨ic.symm, fun _ h => (nomatch h)⟩⟩, fun _ h => (nomatch h)⟩⟩
    · exact ints_set hus _ _ _
    · rw [List.length_set, hn6]
    · intro p hp
      rcases List.mem_or_eq_of_mem_set hp with hp | rfl
      · exact hnb p hp
      · rw [Int.fmod_eq_emod_of_nonneg _ (by decide)]; exact ⟨Int.emod_nonneg _ (by decide), Int.emod_lt_of_pos _ (by decide)⟩
  · rintro m _ h tk ⟨its, k, ns, hm, rfl, hus, hn6, hnb⟩ F N
    rw [hm.eq] at F
    k_steps
    exact ret _ _ _ _ _ _ F.keep (N _ (.tail _ (.head _))).2.2 (N _ (.tail _ (.head _))).1 hus ⟨hn6, hnb⟩
end
theorem afreshF1 : True ∧ True := by
  w_top off
  walk1 <;> trivial
/- part F5 -/
section
noncomputable def pl (ns : List Int) : Nat → Int
  | 0 => 0
  | i + 1 => ns.getD (pl ns i).toNat 0
noncomputable def walkL (ns : List Int) (n : Nat) : List Int := (List.range n).map fun j => pl ns (j + 1)
theorem walkL_succ (ns : List Int) (n : Nat) : walkL ns (n + 1) = walkL ns n ++ [pl ns (n + 1)] := by simp [walkL, List.range_succ]
theorem walkL_size (ns : List Int) (n : Nat) : (walkL ns n).length = n := by simp [walkL]
theorem len_fit9 {n : Nat} (h : n ≤ 32) : (n : Int) ≤ 2 ^ 63 := by omega
theorem pl_in {ns : List Int} (hb : ∀ n ∈ ns, 0 ≤ n ∧ n < (ns.length : Int)) (h0 : 0 < ns.length) : ∀ i, 0 ≤ pl ns i ∧ pl ns i < (ns.length : Int)
  | 0 => ⟨Int.le_refl _, by simp only [pl]; omega⟩
  | i + 1 => by
    have ih := pl_in hb h0 i
    have hlt : (pl ns i).toNat < ns.length := by omega
    have : pl ns (i + 1) = ns[(pl ns i).toNat] := by simp [pl, List.getD_eq_getElem?_getD, hlt]
    rw [this]; exact hb _ (List.getElem_mem hlt)
set_option maxRecDepth 100000 in
set_option maxHeartbeats 8000000 in
theorem walk_call {w : World} {A : Around} {s : Shared} {l : Addr} {vs : List Value} {ns : List Int} (C : Cx w 5 A s.heap)
    (hl : s.heap.IsList l vs.toArray) (hi : IntsAre vs ns) (hlen : ns.length ≤ 32) (hb : ∀ n ∈ ns, 0 ≤ n ∧ n < (ns.length : Int)) : GivesInts w A 194 [.ref l] s (fun r => r = walkL ns ns.length) := by
  intro R ret
  obtain ⟨X, ⟨loose, mean, mg, mb, T⟩, hh, dp, un⟩ := C
  revert X; k_fill; intro X
  (refine' enter _ ?k1 ?k2 ?k6 ?k7 ?k8 ?k9 ?kR ?kB ?_ ?c2 ?c3 ?c4 ?c5; (case k1 => assumption); (case k2 => assumption); (case k6 => k_is); (case k7 => k_is); (case k8 => exact room0 (by assumption)); (case k9 => exact BindsTo.of_eq rfl); (case kR => exact rfl); (case kB => exact locs rfl); (case c2 => rfl); (case c3 => rfl); (case c4 => rfl); (case c5 => decide))
  intro h₁ tk (F : Fr s.heap s.heap.objs.size h₁ (ov [(Str.ofString "steps", .ref l)] fun _ => none)) N
  k_steps
  refine for_ ?_
  k_steps
  rename_i _ c _ _ _ _ _ r h tk' t1 t2 F N l1
  refine for_range ns.length (fun m₀ i m news => ∃ tp us k, Same [Str.ofString "k"] m (ov [(Str.ofString "place", .int (pl ns i) tp)] m₀) ∧ news = [(c, listOf us k)] ∧ IntsAre us.toList (walkL ns i)) [(c, listOf #[] 0)] hh F N (.head _) ?_ ?_ rfl rfl rfl ?_ ?_ ?_ ?_
  · exact small09 (Nat.le_trans hlen (by decide))
  · exact rsize09 _
  · intro p hp; simp at hp; simp [hp]
  · exact ⟨_, #[], 0, .start1 rfl, rfl, .nil⟩
  · rintro I i m _ h tk t o lt hin ⟨tp, us, k, hm, rfl, hus⟩ off F N
    rw [hm.eq] at F
    refine post fun P9 hP => ?_
    have hcI := ltN (lt _ (.head _))
    have hpl := pl_in hb (Nat.lt_of_le_of_lt (Nat.zero_le _) hin) i
    have hpl0 := hpl.1
    have hpl1 := hpl.2
    have hpl2 : pl ns i < 2 ^ 63 := Int.lt_of_lt_of_le hpl.2 (len_fit9 hlen)
    have hIc : I ≠ c := Nat.ne_of_gt hcI
    have hlu : us.size = i := by have := hus.length; rw [walkL_size, Array.length_toList] at this; exact this
    k_steps
    rename Fr _ _ _ _ => F
    rename News _ _ _ _ => N
    refine hP _ _ ?_
    refine TurnEnd.next F N (fun q hq p hp => ?_) ⟨_, _, _, (Same.skip .mixed (.head _)).put, rfl, ?_⟩
    · simp at hq hp; subst hq hp; exact off (c, listOf us k) (.head _)
    · rw [Array.toList_push, walkL_succ]; exact IntsAre.append hus (.cons _ _ .nil)
  · rintro m _ h tk ⟨tp, us, k, hm, rfl, hus⟩ F N
    rw [hm.eq] at F
    k_steps
    exact ret _ _ _ _ _ _ F.keep (N _ (.head _)).2.2 (N _ (.head _)).1 hus rfl
end
theorem afreshF5 : True ∧ True := by
  w_top off
  walk1 <;> trivial
/- part F6 -/
section
set_option linter.unusedVariables false
local macro_rules | `(tactic| walk_at "execs cons Assign cons") => `(tactic| refine wpAny_execs_cons ?_)
theorem getm_base {prog : Program} {w : World} {A : Around} {E : Value → Shared → Prop} {s : Shared} {h₀ : Heap} {L D : Addr} {m : Str → Option Value} {its : Array Value} {n : Nat} {name : Str} {id : String} {pl : Sem Bool} {Q : Value × List Value → Shared → Prop} (FF : Fr h₀ L s.heap m) (hl0 : h₀.get? D = some (listOf its n)) (slot : Slot "list" name id) (hty : typeOf (.builtin id) = pure (.type "method_descriptor"))
    (h : Q (.builtin id, [.ref D]) s) : wpAny (model prog w) A (getMethod (.ref D) name pl) Q E s :=
  getMethod_builtin ⟨_, FF.keep _ _ hl0, rfl⟩ PySem.F.plainAttrs_list slot hty (fun a e => by cases e; exact ⟨_, FF.keep _ _ hl0, rfl⟩) h
theorem getm_count {prog : Program} {w : World} {A : Around} {E : Value → Shared → Prop} {s : Shared} {h₀ : Heap} {L D : Addr} {m : Str → Option Value} {its : Array Value} {n : Nat} {pl : Sem Bool} {Q : Value × List Value → Shared → Prop} (FF : Fr h₀ L s.heap m) (hl0 : h₀.get? D = some (listOf its n))
    (h : Q (.builtin "list.count", [.ref D]) s) : wpAny (model prog w) A (getMethod (.ref D) (Str.ofString "count") pl) Q E s :=
  getm_base FF hl0 PySem.F.slot_list_count PySem.F.type_list_count h
local macro_rules | `(tactic| walk_at "getMethod ref") => `(tactic| refine getm_count (by k_asm) (by k_asm) ?_)
noncomputable def crow (ns : List Int) (k : Nat) : Option (Int × Int × Int) := ns[k]?.bind fun v => if v ∈ ns.take k then none else if (ns.count v : Int) = 1 then none else some ((ns.count v : Int), 1, v)
noncomputable def crows (ns : List Int) (i : Nat) : List (Int × Int × Int) := (List.range i).filterMap (crow ns)
noncomputable def drow (ns : List Int) (k : Nat) : Option (Int × Int × Int) := if (k : Int) ∈ ns then none else some (0, 1, (k : Int))
noncomputable def drows (ns : List Int) (i : Nat) : List (Int × Int × Int) := (List.range i).filterMap (drow ns)
theorem crows_succ (ns : List Int) (i : Nat) : crows ns (i + 1) = crows ns i ++ (crow ns i).toList := by
  simp only [crows, List.range_succ, List.filterMap_append]
  cases e : crow ns i <;> simp [e]
theorem drows_succ (ns : List Int) (i : Nat) : drows ns (i + 1) = drows ns i ++ (drow ns i).toList := by
  simp only [drows, List.range_succ, List.filterMap_append]
  cases e : drow ns i <;> simp [e]
theorem crows_len (ns : List Int) (i : Nat) : (crows ns i).length ≤ i := by
  unfold crows
  have := List.length_filterMap_le (crow ns) (List.range i)
  simpa using this
theorem drows_len (ns : List Int) (i : Nat) : (drows ns i).length ≤ i := by
  unfold drows
  have := List.length_filterMap_le (drow ns) (List.range i)
  simpa using this
noncomputable abbrev tupO (xs : Array Value) : Obj := { cls := .type "tuple", data := .seq xs }
inductive TupsAre (rl : List (Addr × Obj)) : List Value → List (Int × Int × Int) → Prop
  | nil : TupsAre rl [] []
  | cons {x : Addr} {a b c : Int} {ta tb tc : Tok} {vs : List Value} {rs : List (Int × Int × Int)} : (x, tupO #[.int a ta, .int b tb, .int c tc]) ∈ rl → TupsAre rl vs rs → TupsAre rl (.ref x :: vs) ((a, b, c) :: rs)
theorem TupsAre.mono {rl rl' : List (Addr × Obj)} {vs : List Value} {rs : List (Int × Int × Int)} (h : TupsAre rl vs rs) (k : ∀ p ∈ rl, p ∈ rl') : TupsAre rl' vs rs := by
  induction h with
  | nil => exact .nil
  | cons hm _ ih => exact .cons (k _ hm) ih
theorem TupsAre.snoc {rl : List (Addr × Obj)} {vs : List Value} {rs : List (Int × Int × Int)} (h : TupsAre rl vs rs) {x : Addr} {a b c : Int} {ta tb tc : Tok} (hm : (x, tupO #[.int a ta, .int b tb, .int c tc]) ∈ rl) : TupsAre rl (vs ++ [.ref x]) (rs ++ [(a, b, c)]) := by
  induction h with
  | nil => exact .cons hm .nil
  | cons hm' _ ih => exact .cons hm' ih
theorem TupsAre.length {rl : List (Addr × Obj)} {vs : List Value} {rs : List (Int × Int × Int)} (h : TupsAre rl vs rs) : vs.length = rs.length := by
  induction h with
  | nil => rfl
  | cons _ _ ih => simp [ih]
noncomputable def GivesTups (w : World) (A : Around) (f : Addr) (args : List Value) (s : Shared) (rs : List (Int × Int × Int)) : Prop :=
  ∀ R : Result → Shared → Prop, (∀ a (us : Array Value) k h' tk rl, Keep s.heap h' → s.heap.get? a = none → h'.get? a = some (listOf us k) → (∀ p ∈ rl, h'.get? p.1 = some p.2 ∧ s.heap.get? p.1 = none) → TupsAre rl us.toList rs → R (.ok (.ret (.ref a))) { s with heap := h', toks := tk }) →
    codeAny (model Challenge.rw_ox0031_01.row.prog w) A (.call (.ref f) ⟨args, []⟩) R s
section
variable {h₀ h : Heap} {L I c D W : Addr} {s : Shared} {o cO cO' tO wO : Obj} {rl : List (Addr × Obj)} {Jn : (Str → Option Value) → List (Addr × Obj) → Prop} {Q : Flow → Shared → Prop} {tk : Nat} {m : Str → Option Value}
theorem TurnEnd.row (F : Fr h₀ L h m) (N : News h₀ L h ((D, tO) :: (W, wO) :: (I, o) :: (c, cO) :: rl)) (off : ∀ p ∈ (c, cO') :: rl, p.1 ≠ I) (hDI : (D : Nat) ≠ I) (j : Jn m ((c, cO) :: (D, tO) :: rl)) : TurnEnd h₀ L s [(I, o)] Jn Q .next { s with heap := h, toks := tk } := by
  refine TurnEnd.next F (fun p hp => N p ?_) (fun q hq p hp => ?_) j
  · simp only [List.cons_append, List.nil_append, List.mem_cons] at hp ⊢
    rcases hp with h | h | h | h <;> simp [h]
  · rw [List.mem_singleton.mp hq]
    simp only [List.mem_cons] at hp
    rcases hp with rfl | rfl | hp
    · exact off (c, cO') (.head _)
    · exact hDI
    · exact off p (.tail _ hp)
theorem TurnEnd.row1 (F : Fr h₀ L h m) (N : News h₀ L h ((D, tO) :: (I, o) :: (c, cO) :: rl)) (off : ∀ p ∈ (c, cO') :: rl, p.1 ≠ I) (hDI : (D : Nat) ≠ I) (j : Jn m ((c, cO) :: (D, tO) :: rl)) : TurnEnd h₀ L s [(I, o)] Jn Q .next { s with heap := h, toks := tk } := by
  refine TurnEnd.next F (fun p hp => N p ?_) (fun q hq p hp => ?_) j
  · simp only [List.cons_append, List.nil_append, List.mem_cons] at hp ⊢
    rcases hp with h | h | h | h <;> simp [h]
  · rw [List.mem_singleton.mp hq]
    simp only [List.mem_cons] at hp
    rcases hp with rfl | rfl | hp
    · exact off (c, cO') (.head _)
    · exact hDI
    · exact off p (.tail _ hp)
end
theorem neN' {a b : Nat} (h : b < a) : a ≠ b := by omega
theorem any_mem {l : List Int} {v : Int} : (l.any fun x => x == v) = true ↔ v ∈ l := by simp
inductive J6 (c : Addr) (nm : Str) (rs : List (Int × Int × Int)) (m₀ m : Str → Option Value) (news : List (Addr × Obj)) : Prop
  | mk (us : Array Value) (k : Nat) (rl : List (Addr × Obj)) (hm : Same [nm] m (ov [] m₀)) (hn : news = (c, listOf us k) :: rl) (hus : TupsAre rl us.toList rs) (oc : ∀ p ∈ rl, p.1 ≠ c)
theorem tups_small {rl : List (Addr × Obj)} {us : Array Value} {rs : List (Int × Int × Int)} {n : Nat} (h : TupsAre rl us.toList rs) (hn : rs.length ≤ n) : us.size ≤ n := by
  have := h.length
  rw [Array.length_toList] at this; omega
theorem any_not {l : List Int} {v : Int} (h : (l.any fun x => x == v) = false) : v ∉ l := fun z => by rw [any_mem.mpr z] at h; cases h
theorem crow_seen {ns : List Int} {i : Nat} {v : Int} (hv : ns[i]? = some v) (h : v ∈ ns.take i) : crow ns i = none := by unfold crow; rw [hv]; simp only [Option.bind_some, if_pos h]
theorem crow_one {ns : List Int} {i : Nat} {v : Int} (hv : ns[i]? = some v) (h : v ∉ ns.take i) (hc : (ns.count v : Int) = 1) : crow ns i = none := by unfold crow; rw [hv]; simp only [Option.bind_some, if_neg h, if_pos hc]
theorem crow_new {ns : List Int} {i : Nat} {v : Int} (hv : ns[i]? = some v) (h : v ∉ ns.take i) (hc : (ns.count v : Int) ≠ 1) : crow ns i = some ((ns.count v : Int), 1, v) := by unfold crow; rw [hv]; simp only [Option.bind_some, if_neg h, if_neg hc]
theorem TupsAre.stay {rl : List (Addr × Obj)} {vs : List Value} {ns : List Int} {i : Nat} (h : TupsAre rl vs (crows ns i)) (e : crow ns i = none) : TupsAre rl vs (crows ns (i + 1)) := by rw [crows_succ, e]; simpa using h
theorem TupsAre.stayD {rl : List (Addr × Obj)} {vs : List Value} {rs : List (Int × Int × Int)} {ns : List Int} {i : Nat} (h : TupsAre rl vs (rs ++ drows ns i)) (e : drow ns i = none) : TupsAre rl vs (rs ++ drows ns (i + 1)) := by rw [drows_succ, e]; simpa using h
theorem TupsAre.add {rl : List (Addr × Obj)} {vs : Array Value} {ns : List Int} {i : Nat} {x : Addr} {a b c : Int} {ta tb tc : Tok} (h : TupsAre rl vs.toList (crows ns i)) (e : crow ns i = some (a, b, c)) :
    TupsAre ((x, tupO #[.int a ta, .int b tb, .int c tc]) :: rl) (vs.push (.ref x)).toList (crows ns (i + 1)) := by
  rw [crows_succ, e, Array.toList_push]
  exact (h.mono fun p hp => .tail _ hp).snoc (.head _)
theorem TupsAre.addD {rl : List (Addr × Obj)} {vs : Array Value} {rs : List (Int × Int × Int)} {ns : List Int} {i : Nat} {x : Addr} {a b c : Int} {ta tb tc : Tok} (h : TupsAre rl vs.toList (rs ++ drows ns i)) (e : drow ns i = some (a, b, c)) :
    TupsAre ((x, tupO #[.int a ta, .int b tb, .int c tc]) :: rl) (vs.push (.ref x)).toList (rs ++ drows ns (i + 1)) := by
  rw [drows_succ, e, Array.toList_push, ← List.append_assoc]
  exact (h.mono fun p hp => .tail _ hp).snoc (.head _)
theorem getD_get9 {ns : List Int} {i : Nat} (h : i < ns.length) : ns[i]? = some (ns.getD i 0) := by rw [List.getD_eq_getElem?_getD, List.getElem?_eq_getElem h]; rfl
theorem rows_len9 (ns : List Int) (i : Nat) (h : i ≤ 32) : (crows ns 32 ++ drows ns i).length ≤ 64 := by
  have := crows_len ns 32
  have := drows_len ns i
  rw [List.length_append]; omega
theorem zero_toNat9 (i : Nat) : ((0 : Int) + (i : Int)).toNat = i := by rw [Int.zero_add]; rfl
set_option maxRecDepth 100000 in
set_option maxHeartbeats 8000000 in
theorem counted_call {w : World} {A : Around} {s : Shared} {l : Addr} {vs : List Value} {kl : Nat} {ns : List Int} (C : Cx w 10 A s.heap)
    (hl0 : s.heap.get? l = some (listOf vs.toArray kl)) (hi : IntsAre vs ns) (hlen : ns.length = 32) : GivesTups w A 201 [.ref l] s (crows ns 32 ++ drows ns 32) := by
  intro R ret
  obtain ⟨X, ⟨loose, mean, mg, mb, T⟩, hh, dp, un⟩ := C
  obtain ⟨hd9, dp9, fr9, gd9, un9⟩ := A
  obtain rfl : hd9 = none := hh
  replace dp : dp9 + 10 < recursionLimit := dp
  replace un : un9 + 10 * 10 < cLine := un
  revert X; k_fill; intro X
  have hl : s.heap.IsList l vs.toArray := ⟨_, hl0, rfl, kl, rfl⟩
  (refine' enter _ ?k1 ?k2 ?k6 ?k7 ?k8 ?k9 ?kR ?kB ?_ ?c2 ?c3 ?c4 ?c5; (case k1 => assumption); (case k2 => assumption); (case k6 => k_is); (case k7 => k_is); (case k8 => ((try dsimp only); exact room0 (by assumption))); (case k9 => exact BindsTo.of_eq rfl); (case kR => exact rfl); (case kB => exact locs rfl); (case c2 => rfl); (case c3 => rfl); (case c4 => rfl); (case c5 => decide))
  intro h₁ tk (F : Fr s.heap s.heap.objs.size h₁ (ov [(Str.ofString "values", .ref l)] fun _ => none)) N
  k_steps
  (try dsimp only)
  refine for_ ?_
  k_steps
  (try dsimp only)
  rename_i c _ _ _ _ _ r h tk' t1 t2 F N l1
  refine for_range 32 (fun m₀ i m news => J6 c (Str.ofString "k") (crows ns i) m₀ m news) [(c, listOf #[] 0)] rfl F N (.head _) ?_ ?_ rfl rfl rfl ?_ ?_ ?_ ?_
  · decide
  · decide
  · intro p hp; simp at hp; simp [hp]
  · exact ⟨#[], 0, [], .start0, rfl, .nil, fun _ h => (nomatch h)⟩
  · rintro I i m _ h tk t o lt hin ⟨us, k, rl, hm, rfl, hus, oc⟩ off F N
    rw [hm.eq] at F
    refine post fun P9 hP => ?_
    have hcI := ltN (lt _ (.head _))
    dsimp only at hcI
    have hlu : us.size ≤ i := tups_small hus (crows_len ns i)
    have e0 := zero_toNat9 i
    have hIc : I ≠ c := Nat.ne_of_gt hcI
    have hv : ns[i]? = some (ns.getD i 0) := getD_get9 (hlen ▸ hin)
    k_steps
    · rename (List.any _ _) = true => ha
      rw [e0, any_mem] at ha
      rename News _ _ _ _ => N
      rename Fr _ _ _ _ => F
      have hrow : crow ns i = none := crow_seen hv ha
      refine hP _ _ ?_
      exact TurnEnd.next F (news_tail N) (off_one (by rfl) off) ⟨us, k, rl, Same.skip .mixed (.head _), rfl, hus.stay hrow, oc⟩
    · rename (List.any _ _) = false => ha
      rename _ ≠ (1 : Int) => hc
      rw [e0] at ha hc
      have ha' : ns.getD i 0 ∉ ns.take i := any_not ha
      rename News _ _ _ _ => N
      rename Fr _ _ _ _ => F
      rw [e0] at N
      have hrow : crow ns i = some ((ns.count (ns.getD i 0) : Int), 1, ns.getD i 0) := crow_new hv ha' hc
      refine hP _ _ ?_
      refine TurnEnd.row F N off ?_ ⟨_, _, _, Same.skip .mixed (.head _), rfl, ?_, ?_⟩
      · refine neN' ?_; omega
      · exact hus.add hrow
      · exact List.forall_mem_cons.mpr ⟨by (refine neN ?_; dsimp only; omega), oc⟩
    · rename (List.any _ _) = false => ha
      rename _ = (1 : Int) => hc
      rw [e0] at ha hc
      have ha' : ns.getD i 0 ∉ ns.take i := any_not ha
      rename News _ _ _ _ => N
      rename Fr _ _ _ _ => F
      have hrow : crow ns i = none := crow_one hv ha' hc
      refine hP _ _ ?_
      exact TurnEnd.next F (news_tail N) (off_one (by rfl) off) ⟨us, k, rl, Same.skip .mixed (.head _), rfl, hus.stay hrow, oc⟩
  · rintro m _ h tk ⟨us, k, rl, hm, rfl, hus, oc⟩ F N
    rw [hm.eq] at F
    k_steps
    (try dsimp only)
    refine for_ ?_
    k_steps
    (try dsimp only)
    rename News _ _ _ _ => N
    rename Fr _ _ _ _ => F
    refine for_range 32 (fun m₀ i m news => J6 c (Str.ofString "place") (crows ns 32 ++ drows ns i) m₀ m news) ((c, listOf us k) :: rl) rfl F N (.head _) ?_ ?_ rfl rfl rfl (fun p hp => .tail _ hp) ?_ ?_ ?_
    · decide
    · decide
    · exact ⟨us, k, rl, .start0, rfl, by simpa [drows] using hus, oc⟩
    · clear hus oc
      rintro I i m _ h tk t o lt hin ⟨us, k, rl, hm, rfl, hus, oc⟩ off F N
      rw [hm.eq] at F
      refine post fun P9 hP => ?_
      have hcI := ltN (lt _ (.head _))
      dsimp only at hcI
      have hlu : us.size ≤ 64 := tups_small hus (rows_len9 ns i (Nat.le_of_lt hin))
      k_steps
      · rename (List.any _ _) = true => ha
        rw [any_mem, Int.zero_add] at ha
        rename News _ _ _ _ => N
        rename Fr _ _ _ _ => F
        have hrow : drow ns i = none := by unfold drow; rw [if_pos ha]
        refine hP _ _ ?_
        exact TurnEnd.next F N (off_one (by rfl) off) ⟨us, k, rl, Same.skip .mixed (.head _), rfl, hus.stayD hrow, oc⟩
      · rename (List.any _ _) = false => ha
        have ha' : (i : Int) ∉ ns := by rw [Int.zero_add] at ha; exact any_not ha
        rename News _ _ _ _ => N
        rename Fr _ _ _ _ => F
        rw [Int.zero_add] at N
        have hrow : drow ns i = some (0, 1, (i : Int)) := by unfold drow; rw [if_neg ha']
        refine hP _ _ ?_
        refine TurnEnd.row1 F N off ?_ ⟨_, _, _, Same.skip .mixed (.head _), rfl, ?_, ?_⟩
        · refine neN' ?_; omega
        · exact hus.addD hrow
        · exact List.forall_mem_cons.mpr ⟨by (refine neN ?_; dsimp only; omega), oc⟩
    · rintro m _ h tk ⟨us, k, rl, hm, rfl, hus, oc⟩ F N
      rw [hm.eq] at F
      k_steps
      refine ret c us k h _ rl F.keep (N _ (.head _)).2.2 (N _ (.head _)).1 (fun p hp => ?_) hus
      have z := N p (.tail _ hp)
      exact ⟨z.1, z.2.2⟩
end
theorem afreshF6 : True ∧ True := by
  w_top off
  walk1 <;> trivial
/- part F8 -/
section
set_option linter.unusedVariables false
local macro_rules | `(tactic| walk_at "call type:enumerate cons nil") => `(tactic| (refine Mine.stop ?_))
local macro_rules | `(tactic| walk_at "call type:range cons nil") => `(tactic| (refine Mine.range2 (by k_asm) (by k_asm) ?_; intro _ _ _ _ _ _ l1; try k_lt l1))
local macro_rules | `(tactic| walk_at "subscriptTail Name Name ref int") => `(tactic| refine get_cell (by k_asm) (by k_mem) (by k_asm) (by k_asm) (by k_asm) ?_)
local macro_rules | `(tactic| walk_at "setItem ref int ref") => `(tactic| (refine set_cell (by k_asm) (by k_asm) (by k_upd) (by k_asm) (by k_asm) (by k_asm) ?_; intro _ _ _))
theorem eq_cell {prog : Program} {w : World} {A : Around} {E : Value → Shared → Prop} {s : Shared} {h₀ : Heap} {L : Addr} {env : Env} {news : List (Addr × Obj)} {Q : Value → Shared → Prop} {x : Addr} {n : Int} {t : Tok} (N : News h₀ L s.heap news) (hm : (x, nulO) ∈ news) (hu : A.units + 10 < cLine) (h : Q (.bool false) s) : wpAny (model prog w) (A.deeper env) (compareOp .Eq (.ref x) (.int n t)) Q E s :=
  eq_obj_int (News.get N hm) (by simp only [Around.deeper_units]; omega) h
local macro_rules | `(tactic| walk_at "compareOp Eq ref int") => `(tactic| refine eq_cell (by k_asm) (by k_mem) (by k_asm) ?_)
local macro_rules | `(tactic| walk_at "compareOp Is int ref") => `(tactic| (refine wpAny_is_other (by rfl) (by simp) ?_))
local macro_rules | `(tactic| walk_at "call ref") => `(tactic| (refine Mine.stop ?_))
local macro_rules | `(tactic| walk_at "call type:object nil nil") => `(tactic| (refine Mine.stop ?_))
local macro_rules | `(tactic| walk_at "call type:object") => `(tactic| (refine Mine.stop ?_))
theorem ne_none9 {o : Option Int} {v : Int} (h : o = none) : o ≠ some v := by rw [h]; exact nofun
theorem ne_some9 {o : Option Int} {a b : Int} (h : o = some a) (n : ¬ a = b) : o ≠ some b := fun e => n (Option.some.inj (h.symm.trans e))
theorem cB_miss {f : Nat → Option Int} {v : Int} {i k : Nat} (h : f (i + k) ≠ some v) : cB f v i (k + 1) = cB f v i k := by rw [cB, if_neg h, Int.add_zero]
theorem cB_hit {f : Nat → Option Int} {v : Int} {i k : Nat} (h : f (i + k) = some v) : cB f v i (k + 1) = cB f v i k + 1 := by rw [cB, if_pos h]
theorem toNat_add9 (i k : Nat) : ((i : Int) + (k : Int)).toNat = i + k := rfl
theorem rowA_seen {ns ms : List Int} {i : Nat} {q : Int} (h : ns[i]? = some q) (hd : q ∈ ns.take i) : rowA ns ms i = none := by unfold rowA; rw [h]; simp [hd]
theorem rowA_same {ns ms : List Int} {i : Nat} {q : Int} (h : ns[i]? = some q) (e : (ns.count q : Int) = (ms.count q : Int)) : rowA ns ms i = none := by unfold rowA; rw [h]; simp [e]
theorem rowA_new {ns ms : List Int} {i : Nat} {q : Int} (h : ns[i]? = some q) (hd : q ∉ ns.take i) (e : ¬ (ns.count q : Int) = (ms.count q : Int)) : rowA ns ms i = some ((ns.count q : Int), (ms.count q : Int), q) := by unfold rowA; rw [h]; simp [hd, e]
theorem rowD_seen {ns ms : List Int} {i : Nat} {q : Int} (h : ms[i]? = some q) (hd : q ∈ ns ++ ms.take i) : rowD ns ms i = none := by unfold rowD; rw [h]; simp only [Option.bind_some, if_pos hd]
theorem rowD_new {ns ms : List Int} {i : Nat} {q : Int} (h : ms[i]? = some q) (hd : q ∉ ns ++ ms.take i) : rowD ns ms i = some (0, (ms.count q : Int), q) := by unfold rowD; rw [h]; simp only [Option.bind_some, if_neg hd]
theorem RowsAre.stayA {rl : List (Addr × Obj)} {vs : List Value} {ns ms : List Int} {i : Nat} (h : RowsAre rl vs (rowsA ns ms i)) (e : rowA ns ms i = none) : RowsAre rl vs (rowsA ns ms (i + 1)) := by rw [rowsA_succ, e]; simpa using h
theorem RowsAre.stayD {rl : List (Addr × Obj)} {vs : List Value} {ns ms : List Int} {i : Nat} (h : RowsAre rl vs (rowsA ns ms ns.length ++ rowsD ns ms i)) (e : rowD ns ms i = none) : RowsAre rl vs (rowsA ns ms ns.length ++ rowsD ns ms (i + 1)) := by rw [rowsD_succ, e]; simpa using h
theorem RowsAre.addA {rl : List (Addr × Obj)} {vs : Array Value} {ns ms : List Int} {i : Nat} {x d : Addr} {a b c : Int} {ta tb tc : Tok} (h : RowsAre rl vs.toList (rowsA ns ms i)) (e : rowA ns ms i = some (a, b, c)) :
    RowsAre ((x, rowO d #[.int a ta, .int b tb, .int c tc]) :: rl) (vs.push (.ref x)).toList (rowsA ns ms (i + 1)) := by
  rw [rowsA_succ, e, Array.toList_push]
  exact (h.mono fun p hp => .tail _ hp).snoc (.head _)
theorem RowsAre.addD {rl : List (Addr × Obj)} {vs : Array Value} {ns ms : List Int} {i : Nat} {x : Addr} {ro : Obj} {a b c : Int} {ta tb tc : Tok} (hro : ∃ d, ro = rowO d #[.int a ta, .int b tb, .int c tc]) (h : RowsAre rl vs.toList (rowsA ns ms ns.length ++ rowsD ns ms i)) (e : rowD ns ms i = some (a, b, c)) :
    RowsAre ((x, ro) :: rl) (vs.push (.ref x)).toList (rowsA ns ms ns.length ++ rowsD ns ms (i + 1)) := by
  obtain ⟨d, rfl⟩ := hro
  rw [rowsD_succ, e, Array.toList_push, ← List.append_assoc]
  exact (h.mono fun p hp => .tail _ hp).snoc (.head _)
/-- the ledger's new entry is put behind others -/
theorem news_put {h₀ h : Heap} {L : Addr} {a : Addr × Obj} (pre : List (Addr × Obj)) {rl : List (Addr × Obj)} (N : News h₀ L h (a :: (pre ++ rl))) : News h₀ L h (pre ++ a :: rl) := fun p hp => N p (by
  rcases List.mem_append.mp hp with hp | hp
  · exact .tail _ (List.mem_append.mpr (.inl hp))
  · rcases List.mem_cons.mp hp with rfl | hp
    · exact .head _
    · exact .tail _ (List.mem_append.mpr (.inr hp)))
theorem off_put {pre' pre rl : List (Addr × Obj)} {x I J : Addr} {ro o o' : Obj} (e : pre'.map (·.1) = pre.map (·.1)) (off : ∀ p ∈ pre ++ rl, p.1 ≠ I ∧ p.1 ≠ J) (hI : I ≠ x) (hJ : J ≠ x) : ∀ q ∈ [(I, o), (J, o')], ∀ p ∈ pre' ++ (x, ro) :: rl, p.1 ≠ q.1 := by
  have h : ∀ p ∈ pre' ++ (x, ro) :: rl, p.1 ≠ I ∧ p.1 ≠ J := fun p hp => by
    rcases List.mem_append.mp hp with hp | hp
    · have : p.1 ∈ pre.map (·.1) := by rw [← e]; exact List.mem_map_of_mem hp
      obtain ⟨q, hq, e'⟩ := List.mem_map.mp this
      rw [← e']; exact off q (List.mem_append.mpr (.inl hq))
    · rcases List.mem_cons.mp hp with rfl | hp
      · exact ⟨hI.symm, hJ.symm⟩
      · exact off p (List.mem_append.mpr (.inr hp))
  intro q hq p hp
  rcases List.mem_cons.mp hq with rfl | hq
  · exact (h p hp).1
  · rw [List.mem_singleton.mp hq]; exact (h p hp).2
theorem rows_small {rl : List (Addr × Obj)} {rows : Array Value} {rs : List (Int × Int × Int)} {n : Nat} (h : RowsAre rl rows.toList rs) (hn : rs.length ≤ n) : rows.size ≤ n := by
  have := h.length
  rw [Array.length_toList] at this; omega
theorem rows_len2 (ns ms : List Int) (i j : Nat) : (rowsA ns ms i ++ rowsD ns ms j).length ≤ i + j := by
  rw [List.length_append]; exact Nat.add_le_add (rowsA_len _ _ _) (rowsD_len _ _ _)
theorem nonneg9 (i k : Nat) : (0 : Int) ≤ (i : Int) + (k : Int) := by omega
theorem cell_lt {i k n : Nat} {S : Array Value} (hs : S.size = n) (h : k < n - i) : (i : Int) + (k : Int) < ((S.size : Nat) : Int) := by omega
theorem cell_fit {i k n : Nat} (hn : n ≤ 64) (h : k < n - i) : (i : Int) + (k : Int) < 2 ^ 63 := by omega
theorem cell_lt1 {k n : Nat} {S : Array Value} (hs : S.size = n) (h : k < n) : (k : Int) < ((S.size : Nat) : Int) := by omega
theorem cell_fit1 {k n : Nat} (hn : n ≤ 64) (h : k < n) : (k : Int) < 2 ^ 63 := by omega
theorem add_lt9 {i k n : Nat} (h : k < n - i) : i + k < n := by omega
theorem Same.via {ig ig' : List Str} {m2 m1 M : Str → Option Value} {n : Str} {v : Value} (h : Same ig' m2 (ov [(n, v)] m1)) (h1 : Same ig m1 M) (sub : ∀ x ∈ ig', x ∈ ig) (hn : n ∈ ig) : Same ig m2 M :=
  fun z hz => (h z fun q => hz (sub _ q)).trans ((Same.ov1 h1 hn) z hz)
local macro_rules | `(tactic| walk_at "eval Name") => `(tactic| (refine nameX_L (by k_asm) (by assumption) ?_ rfl rfl))
local macro_rules | `(tactic| walk_at "loadName") => `(tactic| refine ldn (by assumption) (by assumption) ?_)
inductive J1 (sA tA res nul : Addr) (ns ms : List Int) (m₀ : Str → Option Value) (i : Nat) (m : Str → Option Value) (news : List (Addr × Obj)) : Prop
  | mk (S T : Array Value) (c1 c2 c3 : Nat) (rows : Array Value) (rl : List (Addr × Obj)) (hm : Same [Str.ofString "elem", Str.ofString "i", Str.ofString "cnt_s", Str.ofString "cnt_t", Str.ofString "j", Str.ofString "other_elem", Str.ofString "diff"] m (ov [] m₀)) (hn : news = (sA, listOf S c1) :: (tA, listOf T c2) :: (res, listOf rows c3) :: (nul, nulO) :: rl) (hS : Cells nul S ns.length (er (ns.take i) ns)) (hT : Cells nul T ms.length (er (ns.take i) ms)) (hR : RowsAre rl rows.toList (rowsA ns ms i)) (o1 : ∀ p ∈ rl, p.1 ≠ sA) (o2 : ∀ p ∈ rl, p.1 ≠ tA) (o3 : ∀ p ∈ rl, p.1 ≠ res)
inductive J2 (nm : Str) (nul : Addr) (n : Nat) (f : Nat → Option Int) (q : Int) (i : Nat) (nw : Array Value → List (Addr × Obj)) (igs : List Str) (m₀ : Str → Option Value) (k : Nat) (m : Str → Option Value) (news : List (Addr × Obj)) : Prop
  | mk (S : Array Value) (tc : Tok) (hm : Same igs m (ov [(nm, .int (cB f q i k) tc)] m₀)) (hn : news = nw S) (hS : Cells nul S n (fB f q i k))
theorem J2.to {nm : Str} {nul : Addr} {n : Nat} {f : Nat → Option Int} {q : Int} {i : Nat} {nw : Array Value → List (Addr × Obj)} {igs : List Str} {m₀ : Str → Option Value} {k : Nat} {m : Str → Option Value} {news : List (Addr × Obj)} {c : Int}
    (S : Array Value) (tc : Tok) (hc : cB f q i (k + 1) = c) (hm : Same igs m (ov [(nm, .int c tc)] m₀)) (hn : news = nw S) (hS : Cells nul S n (fB f q i (k + 1))) : J2 nm nul n f q i nw igs m₀ (k + 1) m news := ⟨S, tc, hc ▸ hm, hn, hS⟩
inductive J3 (tA res nul : Addr) (ns ms : List Int) (m₀ : Str → Option Value) (i : Nat) (m : Str → Option Value) (news : List (Addr × Obj)) : Prop
  | mk (T : Array Value) (c2 c3 : Nat) (rows : Array Value) (rl : List (Addr × Obj)) (hm : Same [Str.ofString "elem", Str.ofString "i", Str.ofString "cnt_t", Str.ofString "j", Str.ofString "diff"] m (ov [] m₀)) (hn : news = (tA, listOf T c2) :: (res, listOf rows c3) :: (nul, nulO) :: rl) (hT : Cells nul T ms.length (er (ns ++ ms.take i) ms)) (hR : RowsAre rl rows.toList (rowsA ns ms ns.length ++ rowsD ns ms i)) (o2 : ∀ p ∈ rl, p.1 ≠ tA) (o3 : ∀ p ∈ rl, p.1 ≠ res)
set_option maxRecDepth 100000 in
set_option maxHeartbeats 8000000 in
theorem count_call {w : World} {A : Around} {s : Shared} {l r : Addr} {vs ws : List Value} {ns ms : List Int} (C : Cx w 20 A s.heap)
    (hl : s.heap.IsList l vs.toArray) (hi : IntsAre vs ns) (hlen : ns.length ≤ 64) (hl2 : s.heap.IsList r ws.toArray) (hi2 : IntsAre ws ms) (hlen2 : ms.length ≤ 64) : GivesRows w A 152 [.ref l, .ref r] s (rowsA ns ms ns.length ++ rowsD ns ms ms.length) := by
  intro R ret
  obtain ⟨X, ⟨loose, mean, mg, mb, TT⟩, hh, dp, un⟩ := C
  obtain ⟨hd9, dp9, fr9, gd9, un9⟩ := A
  obtain rfl : hd9 = none := hh
  replace dp : dp9 + 20 < recursionLimit := dp
  replace un : un9 + 10 * 20 < cLine := un
  have dp11 : dp9 + 11 < recursionLimit := room9 dp (by decide)
  have un10 : un9 + 10 < cLine := room9 un (by decide)
  have un110 : un9 + (10 * 10 + 10) < cLine := room9 un (by decide)
  revert X; k_fill; intro X
  (refine' enter _ ?k1 ?k2 ?k6 ?k7 ?k8 ?k9 ?kR ?kB ?_ ?c2 ?c3 ?c4 ?c5; (case k1 => assumption); (case k2 => assumption); (case k6 => k_is); (case k7 => k_is); (case k8 => ((try dsimp only); exact room0 (by assumption))); (case k9 => exact BindsTo.of_eq rfl); (case kR => exact rfl); (case kB => exact locs rfl); (case c2 => rfl); (case c3 => rfl); (case c4 => rfl); (case c5 => decide))
  intro h₁ tk (F : Fr s.heap s.heap.objs.size h₁ (ov [(Str.ofString "expected", .ref r), (Str.ofString "actual", .ref l)] fun _ => none)) N
  k_steps
  (try dsimp only)
  rename Fr _ _ _ _ => F
  rename News _ _ _ _ => N
  refine Stop.go (call_object F N ?_)
  intro nul h' F N lnul
  (try dsimp only)
  k_steps
  (try dsimp only)
  rename_i sA k1 _ _ tA k2 _ hst _ _ _ _ _ _ tk1 _ _ _ _ _ _ _ _ res _ hres _ F N
  have hsn := ltN (lnul _ (.tail _ (.tail _ (.tail _ (.head _)))))
  have htn := ltN (lnul _ (.tail _ (.tail _ (.head _))))
  dsimp only at hsn htn
  clear lnul
  refine for_ ?_
  k_steps
  (try dsimp only)
  refine Stop.go (enum1 F N (its := vs.toArray) ⟨_, (N _ (.tail _ (.tail _ (.tail _ (.tail _ (.tail _ (.head _))))))).1, rfl, _, rfl⟩ ?_)
  intro e it oi h' tk' F N lt hie hoc hod
  (try dsimp only)
  have hri := ltN (lt _ (.head _))
  dsimp only at hri
  replace hie := ltN hie
  have hni : nul < it := Nat.lt_trans hres.1 hri
  clear lt
  have iS : sA < it := Nat.lt_trans hsn hni
  have iT : tA < it := Nat.lt_trans htn hni
  have eS : sA < e := Nat.lt_trans iS hie
  have eT : tA < e := Nat.lt_trans iT hie
  have q1 : e ≠ sA := Nat.ne_of_gt eS
  have q2 : it ≠ sA := Nat.ne_of_gt iS
  have q3 : tA ≠ sA := Nat.ne_of_gt hst
  have q4 : res ≠ sA := Nat.ne_of_gt hres.2.2.2.2
  have q5 : nul ≠ sA := Nat.ne_of_gt hsn
  have p1 : e ≠ tA := Nat.ne_of_gt eT
  have p2 : it ≠ tA := Nat.ne_of_gt iT
  have p4 : res ≠ tA := Nat.ne_of_gt hres.2.2.2.1
  have p5 : nul ≠ tA := Nat.ne_of_gt htn
  have r1 : e ≠ res := Nat.ne_of_gt (Nat.lt_trans hri hie)
  have r2 : it ≠ res := Nat.ne_of_gt hri
  have r5 : nul ≠ res := Nat.ne_of_lt hres.1
  refine for_enum ns.length (fun m₀ i m news => J1 sA tA res nul ns ms m₀ i m news) [(sA, listOf vs.toArray k1), (tA, listOf ws.toArray k2), (res, listOf #[] 0), (nul, nulO)] rfl F N hoc hod (Nat.ne_of_gt hie) ?_ rfl rfl rfl rfl ?_ ?_ ?_ ?_ ?_
  · have off0 : ∀ a : Addr, a < it → a ≠ e ∧ a ≠ it := fun a ha => ⟨Nat.ne_of_lt (Nat.lt_trans ha hie), Nat.ne_of_lt ha⟩
    exact List.forall_mem_cons.mpr ⟨off0 _ (Nat.lt_trans hsn hni), List.forall_mem_cons.mpr ⟨off0 _ (Nat.lt_trans htn hni), List.forall_mem_cons.mpr ⟨off0 _ hri, List.forall_mem_cons.mpr ⟨off0 _ hni, fun _ h => (nomatch h)⟩⟩⟩⟩
  · exact List.forall_mem_cons.mpr ⟨.tail _ (.tail _ (.tail _ (.tail _ (.tail _ (.head _))))), List.forall_mem_cons.mpr ⟨.tail _ (.tail _ (.tail _ (.tail _ (.head _)))), List.forall_mem_cons.mpr ⟨.head _, List.forall_mem_cons.mpr ⟨.tail _ (.head _), fun _ h => (nomatch h)⟩⟩⟩⟩
  · exact ⟨vs.toArray, ws.toArray, k1, k2, 0, #[], [], Same.start0, rfl, (Cells.ints hi).congr fun p hp => er_zero ns ns p, (Cells.ints hi2).congr fun p hp => er_zero ns ms p, RowsAre.nil, fun _ h => (nomatch h), fun _ h => (nomatch h), fun _ h => (nomatch h)⟩
  · rintro i m _ ⟨S, T, c1, c2, c3, rows, rl, _, rfl, hS, _⟩
    exact ⟨S, .inr ⟨_, .head _, rfl, _, rfl⟩, hS.1⟩
  · rintro i v m _ h tk t oI oi its hin Src hv ⟨S, T, c1, c2, c3, rows, rl, hm1, rfl, hS, hT, hR, o1, o2, o3⟩ off F N
    have aS : m (Str.ofString "s") = some (.ref sA) := (hm1 _ (by decide)).trans rfl
    have aT : m (Str.ofString "t") = some (.ref tA) := (hm1 _ (by decide)).trans rfl
    have aM : m (Str.ofString "m") = some _ := (hm1 _ (by decide)).trans rfl
    have aN : m (Str.ofString "NULL") = some (.ref nul) := (hm1 _ (by decide)).trans rfl
    have aR : m (Str.ofString "result") = some (.ref res) := (hm1 _ (by decide)).trans rfl
    refine post fun P9 hP => ?_
    have hits : its = S := src_uniq Src F N (fun p hp => .tail _ (.tail _ hp)) (.head _)
    subst hits
    obtain ⟨v', hv', hc⟩ := hS.2 i hin
    rw [hv] at hv'; cases hv'
    cases hf : er (ns.take i) ns i with
    | none =>
      rw [hf] at hc
      obtain rfl : v = .ref nul := hc
      k_steps
      (try dsimp only)
      obtain ⟨q, hq, hqd⟩ := er_none hin hf
      have hmem : ∀ xs p, er (ns.take (i + 1)) xs p = er (ns.take i) xs p := fun xs p => er_congr (take_mem' hq hqd) p
      have hrow : rowA ns ms i = none := rowA_seen hq hqd
      refine hP _ _ ?_
      refine TurnEnd.cont F N (off_two (by rfl) off) ⟨its, T, c1, c2, c3, rows, rl, ?_, rfl, hS.congr fun p _ => (hmem _ p).symm, hT.congr fun p _ => (hmem _ p).symm, ?_, o1, o2, o3⟩
      · exact Same.skip (Same.skip hm1 (by decide)) (by decide)
      · exact hR.stayA hrow
    | some q =>
      rw [hf] at hc
      obtain ⟨tq, rfl⟩ := hc
      k_steps
      (try dsimp only)
      refine for_ ?_
      k_steps
      (try dsimp only)
      rename Fr _ _ _ _ => F
      rename News _ _ _ _ => N
      refine for_range (ns.length - i) (fun m₀ k m news => J2 (Str.ofString "cnt_s") nul ns.length (er (ns.take i) ns) q i (fun S' => (e, oI) :: (it, oi) :: (sA, listOf S' c1) :: (tA, listOf T c2) :: (res, listOf rows c3) :: (nul, nulO) :: rl) [Str.ofString "j"] m₀ k m news) ((e, oI) :: (it, oi) :: (sA, listOf its c1) :: (tA, listOf T c2) :: (res, listOf rows c3) :: (nul, nulO) :: rl) rfl F N (.head _) ?_ ?_ rfl rfl rfl (fun p hp => .tail _ hp) ?_ ?_ ?_
      · exact small9 (Nat.le_trans (Nat.le_of_lt hin) hlen) hlen
      · exact rsize9 (Nat.le_of_lt hin)
      · exact ⟨its, _, .start1 rfl, rfl, hS.congr fun p _ => (fB_zero _ _ _ _).symm⟩
      · rintro I k m _ h tk t o lt hk ⟨S', tc, hm2, rfl, hS'⟩ off F N
        have bS : m (Str.ofString "s") = some (.ref sA) := (hm2 _ (by decide)).trans aS
        have bE : m (Str.ofString "elem") = some (.int q tq) := (hm2 _ (by decide)).trans rfl
        have bC : m (Str.ofString "cnt_s") = some (.int (cB (er (ns.take i) ns) q i k) tc) := (hm2 _ (by decide)).trans rfl
        have bN : m (Str.ofString "NULL") = some (.ref nul) := (hm2 _ (by decide)).trans aN
        refine post fun P9 hP => ?_
        have hIe := ltN (lt _ (.head _))
        dsimp only at hIe
        have q0 : I ≠ sA := Nat.ne_of_gt (Nat.lt_trans eS hIe)
        have hk0 := nonneg9 i k
        have hk1 := cell_lt hS'.1 hk
        have hk2 := cell_fit hlen hk
        obtain ⟨v, hv, hc⟩ := hS'.2 (i + k) (add_lt9 hk)
        rw [fB_at] at hc
        have hsz := hS'.1
        have hx : S'[((i : Int) + (k : Int)).toNat]? = some v := by
          have e := toNat_add9 i k
          rw [e]; exact hv
        cases hg : er (ns.take i) ns (i + k) with
        | none =>
          rw [hg] at hc
          obtain rfl : v = .ref nul := hc
          k_steps
          have hc2 : cB (er (ns.take i) ns) q i (k + 1) = cB (er (ns.take i) ns) q i k := cB_miss (ne_none9 hg)
          refine hP _ _ ?_
          exact TurnEnd.next F N (off_one (by rfl) off) (J2.to S' tc hc2 (Same.skip hm2 (.head _)) rfl (hS'.congr fun p _ => fB_miss (ne_none9 hg) p))
        | some q2 =>
          rw [hg] at hc
          obtain ⟨t2, rfl⟩ := hc
          k_steps
          · rename q2 = q => hq
            subst hq
            rename Fr _ _ _ _ => F
            rename News _ _ _ _ => N
            have hc2 : cB (er (ns.take i) ns) q2 i (k + 1) = cB (er (ns.take i) ns) q2 i k + 1 := cB_hit hg
            have e := toNat_add9 i k
            rw [e] at N
            refine hP _ _ ?_
            exact TurnEnd.next F N (off_one (by rfl) off) (J2.to _ _ hc2 ((Same.skip hm2 (.head _)).put) rfl (hS'.set.congr fun p _ => fB_hit hg p))
          · rename ¬ q2 = q => hq
            have hc2 : cB (er (ns.take i) ns) q i (k + 1) = cB (er (ns.take i) ns) q i k := cB_miss (ne_some9 hg hq)
            refine hP _ _ ?_
            exact TurnEnd.next F N (off_one (by rfl) off) (J2.to S' tc hc2 (Same.skip hm2 (.head _)) rfl (hS'.congr fun p _ => fB_miss (ne_some9 hg hq) p))
      · rintro m _ h tk ⟨S', tcs, hm3, rfl, hS'⟩ F N
        have cT : m (Str.ofString "t") = some (.ref tA) := (hm3 _ (by decide)).trans aT
        have cE : m (Str.ofString "elem") = some (.int q tq) := (hm3 _ (by decide)).trans rfl
        have cS : m (Str.ofString "cnt_s") = some (.int (cB (er (ns.take i) ns) q i (ns.length - i)) tcs) := (hm3 _ (by decide)).trans rfl
        have cC : m (Str.ofString "cnt_t") = some _ := (hm3 _ (by decide)).trans rfl
        have cN : m (Str.ofString "NULL") = some (.ref nul) := (hm3 _ (by decide)).trans aN
        have cR : m (Str.ofString "result") = some (.ref res) := (hm3 _ (by decide)).trans aR
        k_steps
        refine for_ ?_
        k_steps
        (try dsimp only)
        rename Fr _ _ _ _ => F
        rename News _ _ _ _ => N
        refine Stop.go (enum1 F N (its := T) ⟨_, (N _ (.tail _ (.tail _ (.tail _ (.head _))))).1, rfl, _, rfl⟩ ?_)
        intro e2 it2 oi2 h' tk' F N lt hie2 hoc2 hod2
        (try dsimp only)
        have hei2 := ltN (lt _ (.head _))
        dsimp only at hei2
        have hie2' := ltN hie2
        have z1 : it2 ≠ tA := Nat.ne_of_gt (Nat.lt_trans eT hei2)
        have z2 : e2 ≠ tA := Nat.ne_of_gt (Nat.lt_trans (Nat.lt_trans eT hei2) hie2')
        refine for_enum ms.length (fun m₀ k m news => J2 (Str.ofString "cnt_t") nul ms.length (er (ns.take i) ms) q 0 (fun T' => (e, oI) :: (it, oi) :: (sA, listOf S' c1) :: (tA, listOf T' c2) :: (res, listOf rows c3) :: (nul, nulO) :: rl) [Str.ofString "other_elem", Str.ofString "j"] m₀ k m news) ((e, oI) :: (it, oi) :: (sA, listOf S' c1) :: (tA, listOf T c2) :: (res, listOf rows c3) :: (nul, nulO) :: rl) rfl F N hoc2 hod2 (Nat.ne_of_gt hie2) (fun p hp => ⟨Nat.ne_of_lt (Nat.lt_trans (lt p hp) hie2), Nat.ne_of_lt (lt p hp)⟩) rfl rfl rfl rfl (fun p hp => hp) ?_ ?_ ?_ ?_
        · exact ⟨T, _, .start1 cC, rfl, hT.congr fun p _ => (fB_zero _ _ _ _).symm⟩
        · rintro k m _ ⟨T', tc, _, rfl, hT'⟩
          exact ⟨T', .inr ⟨_, .tail _ (.tail _ (.tail _ (.head _))), rfl, _, rfl⟩, hT'.1⟩
        · rintro k v m _ h tk t oI2 oi2 its2 hk Src hv ⟨T', tc, hm4, rfl, hT'⟩ off2 F N
          have dT : m (Str.ofString "t") = some (.ref tA) := (hm4 _ (by decide)).trans cT
          have dE : m (Str.ofString "elem") = some (.int q tq) := (hm4 _ (by decide)).trans cE
          have dC : m (Str.ofString "cnt_t") = some (.int (cB (er (ns.take i) ms) q 0 k) tc) := (hm4 _ (by decide)).trans rfl
          have dN : m (Str.ofString "NULL") = some (.ref nul) := (hm4 _ (by decide)).trans cN
          refine post fun P9 hP => ?_
          have hits2 : its2 = T' := src_uniq Src F N (fun p hp => .tail _ (.tail _ hp)) (.tail _ (.tail _ (.tail _ (.head _))))
          subst hits2
          obtain ⟨v', hv', hc⟩ := hT'.2 k hk
          rw [hv] at hv'; cases hv'
          rw [fB_at0] at hc
          have hsz := hT'.1
          have hk0 : (0 : Int) ≤ (k : Int) := Int.natCast_nonneg k
          have hk1 := cell_lt1 hT'.1 hk
          have hk2 := cell_fit1 hlen2 hk
          cases hg : er (ns.take i) ms k with
          | none =>
            rw [hg] at hc
            obtain rfl : v = .ref nul := hc
            k_steps
            refine hP _ _ ?_
            exact TurnEnd.next F N (off_two (by rfl) off2) (J2.to its2 tc (cB_miss0 (f := er (ns.take i) ms) (ne_none9 hg)) (Same.skip (Same.skip hm4 (.tail _ (.head _))) (.head _)) rfl (hT'.congr fun p _ => fB_miss0 (ne_none9 hg) p))
          | some q2 =>
            rw [hg] at hc
            obtain ⟨t2, rfl⟩ := hc
            k_steps
            · rename q2 = q => hq
              subst hq
              rename Fr _ _ _ _ => F
              rename News _ _ _ _ => N
              rw [Int.toNat_natCast] at N
              refine hP _ _ ?_
              exact TurnEnd.next F N (off_two (by rfl) off2) (J2.to _ _ (cB_hit0 (f := er (ns.take i) ms) hg) ((Same.skip (Same.skip hm4 (.tail _ (.head _))) (.head _)).put) rfl (hT'.set.congr fun p _ => fB_hit0 hg p))
            · rename ¬ q2 = q => hq
              refine hP _ _ ?_
              exact TurnEnd.next F N (off_two (by rfl) off2) (J2.to its2 tc (cB_miss0 (f := er (ns.take i) ms) (ne_some9 hg hq)) (Same.skip (Same.skip hm4 (.tail _ (.head _))) (.head _)) rfl (hT'.congr fun p _ => fB_miss0 (ne_some9 hg hq) p))
        · rintro m _ h tk ⟨T', tc, hm5, rfl, hT'⟩ F N
          have eE : m (Str.ofString "elem") = some (.int q tq) := (hm5 _ (by decide)).trans cE
          have eS : m (Str.ofString "cnt_s") = some (.int (cB (er (ns.take i) ns) q i (ns.length - i)) tcs) := (hm5 _ (by decide)).trans cS
          have eT : m (Str.ofString "cnt_t") = some (.int (cB (er (ns.take i) ms) q 0 ms.length) tc) := (hm5 _ (by decide)).trans rfl
          have eR : m (Str.ofString "result") = some (.ref res) := (hm5 _ (by decide)).trans cR
          have hq := er_some.mp hf
          have hcs : cB (er (ns.take i) ns) q i (ns.length - i) = (ns.count q : Int) := cB_all hq.2 hq.2
          have hct : cB (er (ns.take i) ms) q 0 ms.length = (ms.count q : Int) := by
            have := cB_all (xs := ms) hq.2 (i := 0) (by simp)
            simpa using this
          rw [hcs] at eS
          rw [hct] at eT
          have hS2 : Cells nul S' ns.length (er (ns.take (i + 1)) ns) := hS'.congr fun p hp => (fB_er hq.2 p hp).trans (er_congr (take_mem hq.1) p)
          have hT2 : Cells nul T' ms.length (er (ns.take (i + 1)) ms) := hT'.congr fun p hp => by
            have := fB_er (done := ns.take i) (xs := ms) (v := q) (i := 0) (by simp) p hp
            rw [Nat.sub_zero] at this
            exact this.trans (er_congr (take_mem hq.1) p)
          have hlr : rows.size ≤ i := rows_small hR (rowsA_len ns ms i)
          k_steps
          · rename ¬ (ns.count q : Int) = (ms.count q : Int) => hne
            (try dsimp only)
            refine Stop.go (row_use (Cx.callee F X TT rfl dp11 un110) F N ?_)
            intro x d h' tk' F N offx
            (try dsimp only)
            have hxs := neN (offx _ (.tail _ (.tail _ (.head _))))
            have hxt := neN (offx _ (.tail _ (.tail _ (.tail _ (.head _)))))
            have hxr := neN (offx _ (.tail _ (.tail _ (.tail _ (.tail _ (.head _))))))
            dsimp only at hxs hxt hxr
            k_steps
            rename Fr _ _ _ _ => F
            rename News _ _ _ _ => N
            have hrow : rowA ns ms i = some ((ns.count q : Int), (ms.count q : Int), q) := rowA_new hq.1 hq.2 hne
            refine hP _ _ ?_
            refine TurnEnd.next (news' := (sA, listOf S' c1) :: (tA, listOf T' c2) :: (res, listOf (rows.push (.ref x)) (c3 + 1)) :: (nul, nulO) :: (x, rowO d #[.int (ns.count q : Int) tcs, .int (ms.count q : Int) tc, .int q tq]) :: rl) F (news_put [(e, oI), (it, oi), (sA, listOf S' c1), (tA, listOf T' c2), (res, listOf (rows.push (.ref x)) (c3 + 1)), (nul, nulO)] N) ?_ ⟨S', T', c1, c2, c3 + 1, rows.push (.ref x), (x, rowO d #[.int (ns.count q : Int) tcs, .int (ms.count q : Int) tc, .int q tq]) :: rl, ?_, rfl, hS2, hT2, ?_, ?_, ?_, ?_⟩
            · exact off_put (pre := [(sA, listOf its c1), (tA, listOf T c2), (res, listOf rows c3), (nul, nulO)]) (pre' := [(sA, listOf S' c1), (tA, listOf T' c2), (res, listOf (rows.push (.ref x)) (c3 + 1)), (nul, nulO)]) rfl off (offx _ (.head _)) (offx _ (.tail _ (.head _)))
            · exact Same.skip (Same.via hm5 (Same.via hm3 (Same.skip (Same.skip (Same.skip (Same.skip hm1 (by decide)) (by decide)) (by decide)) (by decide)) (by decide) (by decide)) (by decide) (by decide)) (by decide)
            · exact hR.addA hrow
            · exact List.forall_mem_cons.mpr ⟨fun e => hxs e.symm, o1⟩
            · exact List.forall_mem_cons.mpr ⟨fun e => hxt e.symm, o2⟩
            · exact List.forall_mem_cons.mpr ⟨fun e => hxr e.symm, o3⟩
          · rename (ns.count q : Int) = (ms.count q : Int) => heq
            have hrow : rowA ns ms i = none := rowA_same hq.1 heq
            refine hP _ _ ?_
            refine TurnEnd.next F N (off_two (by rfl) off) ⟨S', T', c1, c2, c3, rows, rl, ?_, rfl, hS2, hT2, ?_, o1, o2, o3⟩
            · exact Same.via hm5 (Same.via hm3 (Same.skip (Same.skip (Same.skip (Same.skip hm1 (by decide)) (by decide)) (by decide)) (by decide)) (by decide) (by decide)) (by decide) (by decide)
            · exact hR.stayA hrow
  · rintro m _ h tk ⟨S, T, c1, c2, c3, rows, rl, hm6, rfl, hS, hT, hR, o1, o2, o3⟩ F N
    have fT : m (Str.ofString "t") = some (.ref tA) := (hm6 _ (by decide)).trans rfl
    have fM : m (Str.ofString "n") = some _ := (hm6 _ (by decide)).trans rfl
    have fN : m (Str.ofString "NULL") = some (.ref nul) := (hm6 _ (by decide)).trans rfl
    have fR : m (Str.ofString "result") = some (.ref res) := (hm6 _ (by decide)).trans rfl
    rw [List.take_length] at hT
    clear hS
    k_steps
    refine for_ ?_
    k_steps
    (try dsimp only)
    rename Fr _ _ _ _ => F
    rename News _ _ _ _ => N
    refine Stop.go (enum1 F N (its := T) ⟨_, (N _ (.tail _ (.head _))).1, rfl, _, rfl⟩ ?_)
    intro e it oi h' tk' F N lt hie hoc hod
    (try dsimp only)
    have hti := ltN (lt _ (.tail _ (.head _)))
    have hri := ltN (lt _ (.tail _ (.tail _ (.head _))))
    have hni := ltN (lt _ (.tail _ (.tail _ (.tail _ (.head _)))))
    dsimp only at hti hri hni
    have hie' := ltN hie
    have eT : tA < e := Nat.lt_trans hti hie'
    have p1 : e ≠ tA := Nat.ne_of_gt eT
    have p2 : it ≠ tA := Nat.ne_of_gt hti
    have r1 : e ≠ res := Nat.ne_of_gt (Nat.lt_trans hri hie')
    have r2 : it ≠ res := Nat.ne_of_gt hri
    refine for_enum ms.length (fun m₀ i m news => J3 tA res nul ns ms m₀ i m news) ((tA, listOf T c2) :: (res, listOf rows c3) :: (nul, nulO) :: rl) rfl F N hoc hod (Nat.ne_of_gt hie) (fun p hp => ⟨Nat.ne_of_lt (Nat.lt_trans (lt p (.tail _ hp)) hie), Nat.ne_of_lt (lt p (.tail _ hp))⟩) rfl rfl rfl rfl (fun p hp => .tail _ hp) ?_ ?_ ?_ ?_
    · refine ⟨T, c2, c3, rows, rl, Same.start0, rfl, hT.congr fun p _ => er_congr (fun x => by simp) p, ?_, o2, o3⟩
      simpa [rowsD] using hR
    · rintro i m _ ⟨T, c2, c3, rows, rl, _, rfl, hT, _⟩
      exact ⟨T, .inr ⟨_, .head _, rfl, _, rfl⟩, hT.1⟩
    · clear hT hR o1 o2 o3
      rintro i v m _ h tk t oI oi its hin Src hv ⟨T, c2, c3, rows, rl, hm7, rfl, hT, hR, o2, o3⟩ off F N
      have aT : m (Str.ofString "t") = some (.ref tA) := (hm7 _ (by decide)).trans fT
      have aM : m (Str.ofString "n") = some _ := (hm7 _ (by decide)).trans fM
      have aN : m (Str.ofString "NULL") = some (.ref nul) := (hm7 _ (by decide)).trans fN
      have aR : m (Str.ofString "result") = some (.ref res) := (hm7 _ (by decide)).trans fR
      refine post fun P9 hP => ?_
      have hits : its = T := src_uniq Src F N (fun p hp => .tail _ (.tail _ hp)) (.head _)
      subst hits
      obtain ⟨v', hv', hc⟩ := hT.2 i hin
      rw [hv] at hv'; cases hv'
      cases hf : er (ns ++ ms.take i) ms i with
      | none =>
        rw [hf] at hc
        obtain rfl : v = .ref nul := hc
        k_steps
        (try dsimp only)
        obtain ⟨q, hq, hqd⟩ := er_none hin hf
        have hmem : ∀ p, er (ns ++ ms.take (i + 1)) ms p = er (ns ++ ms.take i) ms p := fun p => er_congr (mem_app' hq hqd) p
        have hrow : rowD ns ms i = none := rowD_seen hq hqd
        refine hP _ _ ?_
        refine TurnEnd.cont F N (off_two (by rfl) off) ⟨its, c2, c3, rows, rl, ?_, rfl, hT.congr fun p _ => (hmem p).symm, ?_, o2, o3⟩
        · exact Same.skip (Same.skip hm7 (by decide)) (by decide)
        · exact hR.stayD hrow
      | some q =>
        rw [hf] at hc
        obtain ⟨tq, rfl⟩ := hc
        k_steps
        (try dsimp only)
        refine for_ ?_
        k_steps
        (try dsimp only)
        rename Fr _ _ _ _ => F
        rename News _ _ _ _ => N
        refine for_range (ms.length - i) (fun m₀ k m news => J2 (Str.ofString "cnt_t") nul ms.length (er (ns ++ ms.take i) ms) q i (fun S' => (e, oI) :: (it, oi) :: (tA, listOf S' c2) :: (res, listOf rows c3) :: (nul, nulO) :: rl) [Str.ofString "j"] m₀ k m news) ((e, oI) :: (it, oi) :: (tA, listOf its c2) :: (res, listOf rows c3) :: (nul, nulO) :: rl) rfl F N (.head _) ?_ ?_ rfl rfl rfl (fun p hp => .tail _ hp) ?_ ?_ ?_
        · exact small9 (Nat.le_trans (Nat.le_of_lt hin) hlen2) hlen2
        · exact rsize9 (Nat.le_of_lt hin)
        · exact ⟨its, _, .start1 rfl, rfl, hT.congr fun p _ => (fB_zero _ _ _ _).symm⟩
        · rintro I k m _ h tk t o lt hk ⟨S', tc, hm8, rfl, hS'⟩ off F N
          have bT : m (Str.ofString "t") = some (.ref tA) := (hm8 _ (by decide)).trans aT
          have bE : m (Str.ofString "elem") = some (.int q tq) := (hm8 _ (by decide)).trans rfl
          have bC : m (Str.ofString "cnt_t") = some (.int (cB (er (ns ++ ms.take i) ms) q i k) tc) := (hm8 _ (by decide)).trans rfl
          have bN : m (Str.ofString "NULL") = some (.ref nul) := (hm8 _ (by decide)).trans aN
          refine post fun P9 hP => ?_
          have hIe := ltN (lt _ (.head _))
          dsimp only at hIe
          have p0 : I ≠ tA := Nat.ne_of_gt (Nat.lt_trans eT hIe)
          have hk0 := nonneg9 i k
          have hk1 := cell_lt hS'.1 hk
          have hk2 := cell_fit hlen2 hk
          obtain ⟨v, hv, hc⟩ := hS'.2 (i + k) (add_lt9 hk)
          rw [fB_at] at hc
          have hsz := hS'.1
          have hx : S'[((i : Int) + (k : Int)).toNat]? = some v := by
            have e := toNat_add9 i k
            rw [e]; exact hv
          cases hg : er (ns ++ ms.take i) ms (i + k) with
          | none =>
            rw [hg] at hc
            obtain rfl : v = .ref nul := hc
            k_steps
            have hc2 : cB (er (ns ++ ms.take i) ms) q i (k + 1) = cB (er (ns ++ ms.take i) ms) q i k := cB_miss (ne_none9 hg)
            refine hP _ _ ?_
            exact TurnEnd.next F N (off_one (by rfl) off) (J2.to S' tc hc2 (Same.skip hm8 (.head _)) rfl (hS'.congr fun p _ => fB_miss (ne_none9 hg) p))
          | some q2 =>
            rw [hg] at hc
            obtain ⟨t2, rfl⟩ := hc
            k_steps
            · rename q2 = q => hq
              subst hq
              rename Fr _ _ _ _ => F
              rename News _ _ _ _ => N
              have hc2 : cB (er (ns ++ ms.take i) ms) q2 i (k + 1) = cB (er (ns ++ ms.take i) ms) q2 i k + 1 := cB_hit hg
              have e := toNat_add9 i k
              rw [e] at N
              refine hP _ _ ?_
              exact TurnEnd.next F N (off_one (by rfl) off) (J2.to _ _ hc2 ((Same.skip hm8 (.head _)).put) rfl (hS'.set.congr fun p _ => fB_hit hg p))
            · rename ¬ q2 = q => hq
              have hc2 : cB (er (ns ++ ms.take i) ms) q i (k + 1) = cB (er (ns ++ ms.take i) ms) q i k := cB_miss (ne_some9 hg hq)
              refine hP _ _ ?_
              exact TurnEnd.next F N (off_one (by rfl) off) (J2.to S' tc hc2 (Same.skip hm8 (.head _)) rfl (hS'.congr fun p _ => fB_miss (ne_some9 hg hq) p))
        · rintro m _ h tk ⟨T', tc, hm9, rfl, hT'⟩ F N
          have eE : m (Str.ofString "elem") = some (.int q tq) := (hm9 _ (by decide)).trans rfl
          have eT : m (Str.ofString "cnt_t") = some (.int (cB (er (ns ++ ms.take i) ms) q i (ms.length - i)) tc) := (hm9 _ (by decide)).trans rfl
          have eR : m (Str.ofString "result") = some (.ref res) := (hm9 _ (by decide)).trans aR
          have hq := er_some.mp hf
          have hqt : q ∉ ms.take i := fun z => hq.2 (List.mem_append.mpr (.inr z))
          have hct : cB (er (ns ++ ms.take i) ms) q i (ms.length - i) = (ms.count q : Int) := cB_all hq.2 hqt
          rw [hct] at eT
          have hT2 : Cells nul T' ms.length (er (ns ++ ms.take (i + 1)) ms) := hT'.congr fun p hp => (fB_er hqt p hp).trans (er_congr (mem_app hq.1) p)
          have hlr : rows.size ≤ 128 := rows_small hR (Nat.le_trans (rows_len2 ns ms ns.length i) (Nat.add_le_add hlen (Nat.le_trans (Nat.le_of_lt hin) hlen2)))
          k_steps
          (try dsimp only)
          refine Stop.go (row_use2 (Cx.callee F X TT rfl dp11 un110) F N ?_)
          intro x ro h' tk' hro F N offx
          (try dsimp only)
          have hxt := neN (offx _ (.tail _ (.tail _ (.head _))))
          have hxr := neN (offx _ (.tail _ (.tail _ (.tail _ (.head _)))))
          dsimp only at hxt hxr
          k_steps
          rename Fr _ _ _ _ => F
          rename News _ _ _ _ => N
          have hrow : rowD ns ms i = some (0, (ms.count q : Int), q) := rowD_new hq.1 hq.2
          refine hP _ _ ?_
          refine TurnEnd.next (news' := (tA, listOf T' c2) :: (res, listOf (rows.push (.ref x)) (c3 + 1)) :: (nul, nulO) :: (x, ro) :: rl) F (news_put [(e, oI), (it, oi), (tA, listOf T' c2), (res, listOf (rows.push (.ref x)) (c3 + 1)), (nul, nulO)] N) ?_ ⟨T', c2, c3 + 1, rows.push (.ref x), (x, ro) :: rl, ?_, rfl, hT2, ?_, ?_, ?_⟩
          · exact off_put (pre := [(tA, listOf its c2), (res, listOf rows c3), (nul, nulO)]) (pre' := [(tA, listOf T' c2), (res, listOf (rows.push (.ref x)) (c3 + 1)), (nul, nulO)]) rfl off (offx _ (.head _)) (offx _ (.tail _ (.head _)))
          · exact Same.skip (Same.via hm9 (Same.skip (Same.skip (Same.skip hm7 (by decide)) (by decide)) (by decide)) (by decide) (by decide)) (by decide)
          · exact hR.addD hro hrow
          · exact List.forall_mem_cons.mpr ⟨fun e => hxt e.symm, o2⟩
          · exact List.forall_mem_cons.mpr ⟨fun e => hxr e.symm, o3⟩
    · rintro m _ h tk ⟨T, c2, c3, rows, rl, hm10, rfl, hT, hR, o2, o3⟩ F N
      have gR : m (Str.ofString "result") = some (.ref res) := (hm10 _ (by decide)).trans fR
      k_steps
      refine ret res rows c3 h _ rl F.keep (N _ (.tail _ (.head _))).2.2 (N _ (.tail _ (.head _))).1 (fun p hp => ?_) hR
      have z := N p (.tail _ (.tail _ (.tail _ hp)))
      exact ⟨z.1, z.2.2⟩
end
theorem afreshF8 : True ∧ True := by
  w_top off
  walk1 <;> trivial
/- part F9 -/
section
set_option linter.unusedVariables false
local macro_rules | `(tactic| walk_at "execs cons While") => `(tactic| refine Mine.stop ?_)
local macro_rules | `(tactic| walk_at "call builtin:list.remove") => `(tactic| refine Mine.stop ?_)
local macro_rules | `(tactic| walk_at "truthy ref") => `(tactic| refine Mine.stop ?_)
inductive J9 (mi e a L : Addr) (oL : Obj) (news : List (Addr × Obj)) (ns ms : List Int) (m₀ : Str → Option Value) (n : Nat) (m : Str → Option Value) (nw : List (Addr × Obj)) : Prop
  | mk (es' as' : List Value) (us : Array Value) (ke ka km : Nat) (sl : Array (Option Value)) (hm : Same [Str.ofString "item"] m (ov [] m₀)) (hw : nw = (mi, listOf us km) :: (e, listOf es'.toArray ke) :: (a, listOf as'.toArray ka) :: (news ++ [(L, { oL with slots := sl })])) (hes : IntsAre es' (ns.take n)) (hn : n ≤ ns.length) (hus : IntsAre us.toList (ust ns ms n).1) (has : IntsAre as' (ust ns ms n).2)
theorem ust_small {ns ms : List Int} {n : Nat} (h : n ≤ ns.length) (hl : ns.length ≤ 64) (hl2 : ms.length ≤ 64) : (ust ns ms n).1.length ≤ 64 ∧ (ust ns ms n).2.length ≤ 64 := by
  have a := ust_len (ns := ns) (ms := ms) (ns.length - n) n (by omega)
  exact ⟨Nat.le_trans a.1 (Nat.le_trans (Nat.sub_le _ _) hl), Nat.le_trans a.2 hl2⟩
theorem not_empty9 {l : List Value} {n : Nat} (h : l.length = n + 1) : (!l.toArray.isEmpty) = true := by cases l <;> simp_all
theorem small_ints {us : Array Value} {xs : List Int} {n : Nat} (h : IntsAre us.toList xs) (hn : xs.length ≤ n) : us.size ≤ n := by rw [← Array.length_toList, h.length]; exact hn
theorem small_ints' {us : List Value} {xs : List Int} {n : Nat} (h : IntsAre us xs) (hn : xs.length ≤ n) : us.length ≤ n := by rw [h.length]; exact hn
theorem drop_last9 {ns : List Int} {n : Nat} {v : Int} (hv : ns[n]? = some v) : (ns.take (n + 1)).dropLast = ns.take n := by rw [List.take_add_one, hv]; simp
set_option maxRecDepth 100000 in
set_option maxHeartbeats 8000000 in
theorem unord_call {w : World} {A : Around} {s : Shared} {E : Value → Shared → Prop} {Q : Value → Shared → Prop} {loose : List Str} {mean : ExcName → Option Value} {mg mb : Str → Option Value} {h₀ : Heap} {L : Addr} {m : Str → Option Value} {news : List (Addr × Obj)} {cenv : Env}
    {e a : Addr} {es as : List Value} {k1 k2 : Nat} {ns ms : List Int}
    (X : (hd.heap_39 w.params).In h₀) (T : Top hd.view_39 loose mean mg mb h₀) (hh : A.handled = none) (dp : A.depth + 10 < recursionLimit) (un : A.units + 100 < cLine) (hA : A.frames = some [cenv]) (hcf : cenv.frame = some L) (hck : cenv.scope.kind = .function)
    (F : Fr h₀ L s.heap m) (N : News h₀ L s.heap ((e, listOf es.toArray k1) :: (a, listOf as.toArray k2) :: news)) (hea : e ≠ a) (offe : ∀ p ∈ news, p.1 ≠ e) (offa : ∀ p ∈ news, p.1 ≠ a)
    (hi : IntsAre es ns) (hj : IntsAre as ms) (hlen : ns.length ≤ 64) (hlen2 : ms.length ≤ 64)
    (ret : ∀ t mi us us' k k' h' tk, Fr h₀ L h' m → News h₀ L h' ((t, { cls := .type "tuple", data := .seq #[.ref mi, .ref a] }) :: (mi, listOf us k) :: (a, listOf us' k') :: news) → IntsAre us.toList (ust ns ms 0).1 → IntsAre us'.toList (ust ns ms 0).2 → Q (.ref t) { s with heap := h', toks := tk }) :
    wpAny (model Challenge.rw_ox0031_01.row.prog w) A (call (.ref 71) [.ref e, .ref a]) Q E s := by
  obtain ⟨hd9, dp9, fr9, gd9, un9⟩ := A
  obtain rfl : hd9 = none := hh
  obtain rfl : fr9 = some [cenv] := hA
  replace dp : dp9 + 10 < recursionLimit := dp
  replace un : un9 + 100 < cLine := un
  revert X; k_fill; intro X
  refine wpAny_call ?_
  refine' enterL _ F N X T hcf hck ?k6 ?k7 ?k8 ?k9 ?kR ?kB ?_ ?c2 ?c3 ?c4 ?c5
  case k6 => k_is
  case k7 => k_is
  case k8 => (dsimp only; omega)
  case k9 => exact BindsTo.of_eq rfl
  case kR => exact rfl
  case kB => exact locs rfl
  case c2 => rfl
  case c3 => rfl
  case c4 => rfl
  case c5 => decide
  have hLt : L < s.heap.objs.size := F.ns.lt
  have FL := F
  have NL := N
  clear F N
  intro oL h₁ tk C Fs offL (F : Fr h₀ s.heap.objs.size h₁ (ov [(Str.ofString "actual", .ref a), (Str.ofString "expected", .ref e)] fun _ => none)) N
  have hLe : L ≠ e := fun q => offL (e, _) (.head _) q.symm
  have hLa : L ≠ a := fun q => offL (a, _) (.tail _ (.head _)) q.symm
  rw [List.cons_append, List.cons_append] at N
  (try dsimp only)
  k_steps
  (try dsimp only)
  rename_i mi _ l1 _ F N
  have hlast : ∀ sl, ∀ p ∈ news ++ [(L, { oL with slots := sl })], p ∈ news ∨ p.1 = L := fun sl p hp => by
    rcases List.mem_append.mp hp with hp | hp
    · exact .inl hp
    · rw [List.mem_singleton.mp hp]; exact .inr rfl
  have ofe : ∀ sl, ∀ p ∈ news ++ [(L, { oL with slots := sl })], p.1 ≠ e := fun sl p hp => (hlast sl p hp).elim (offe p) fun q => q ▸ hLe
  have ofa : ∀ sl, ∀ p ∈ news ++ [(L, { oL with slots := sl })], p.1 ≠ a := fun sl p hp => (hlast sl p hp).elim (offa p) fun q => q ▸ hLa
  have hlt9 : ∀ {l : List (Addr × Obj)}, AllLt mi l → ∀ p ∈ l, p.1 ≠ mi := by
    intro l
    induction l with
    | nil => intro _ p hp; cases hp
    | cons q l ih =>
      rintro ⟨h1, h2⟩ p hp
      rcases List.mem_cons.mp hp with rfl | hp
      · exact Nat.ne_of_lt h1
      · exact ih h2 p hp
  have hLmi : L ≠ mi := hlt9 l1.2.2 (L, oL) (List.mem_append.mpr (.inr (.head _)))
  have ofm : ∀ sl, ∀ p ∈ news ++ [(L, { oL with slots := sl })], p.1 ≠ mi := fun sl p hp => (hlast sl p hp).elim (fun hp => hlt9 l1.2.2 p (List.mem_append.mpr (.inl hp))) fun q => q ▸ hLmi
  have n1 : mi ≠ e := Nat.ne_of_gt l1.1
  have n2 : mi ≠ a := Nat.ne_of_gt l1.2.1
  have hem := ltN l1.1
  have ham := ltN l1.2.1
  have hea' := neN hea
  have hla : ms.length ≤ 64 := hlen2
  clear l1
  refine while_ (fun m₀ n m nw => J9 mi e a L oL news ns ms m₀ n m nw) ns.length F N ?_ ?_
  · refine ⟨es, as, #[], k1, k2, 0, oL.slots, Same.start0, rfl, ?_, Nat.le_refl _, ?_, ?_⟩
    · rw [List.take_length]; exact hi
    · rw [ust_top]; exact .nil
    · rw [ust_top]; exact hj
  · rintro n mm _ h tk ⟨es', as', us, ke, ka, km, sl, hm, rfl, hes, hn, hus, has⟩ F N
    rw [hm.eq] at F
    have oe := ofe sl
    have oa := ofa sl
    have om := ofm sl
    cases n with
    | zero =>
      have : es' = [] := by simpa using hes.length
      subst this
      k_steps
      refine Stop.go (truthyN N (.tail _ (.head _)) (by simp) (b := false) rfl fun tk => ?_)
      rw [if_neg (by decide)]
      k_steps
      rename Fr _ _ _ _ => F
      rename News _ _ _ _ => N
      have hL9 := (N (L, { oL with slots := sl }) (.tail _ (.tail _ (.tail _ (.tail _ (List.mem_append.mpr (.inr (.head _)))))))).1
      have F9 : Fr h₀ L _ m := ⟨C.ns _ sl hL9, F.keep, C.above⟩
      refine ret _ mi us as'.toArray km ka _ _ F9 (fun p hp => ?_) hus has
      have z := N p (mem9 hp)
      refine ⟨z.1, fun q => ?_, z.2.2⟩
      simp only [List.mem_cons] at hp
      rcases hp with rfl | rfl | rfl | hp
      · obtain ⟨es9, ep9, hd9⟩ := C.dict
        have z1 := z.1
        rw [q, hL9] at z1
        have z2 := congrArg (fun o => o.map Obj.data) z1
        simp [hd9] at z2
      · exact hLmi q.symm
      · exact hLa q.symm
      · exact offL p (.tail _ (.tail _ hp)) q
    | succ n =>
      have hl1 : es'.length = n + 1 := hes.length.trans (by rw [List.length_take]; exact Nat.min_eq_left hn)
      have hlus : us.size ≤ 64 := small_ints hus (ust_small hn hlen hla).1
      have hlas : as'.length ≤ 64 := small_ints' has (ust_small hn hlen hla).2
      have hl64 : es'.length ≤ 64 := by rw [hl1]; exact Nat.le_trans hn hlen
      have hn' : n < ns.length := hn
      have hn9 : n ≤ ns.length := Nat.le_of_lt hn
      k_steps
      refine Stop.go (truthyN N (.tail _ (.head _)) (by rw [List.size_toArray]; exact Nat.le_trans hl64 (by decide)) (b := true) (not_empty9 hl1) fun tk => ?_)
      rw [if_pos rfl]
      refine post fun P9 hP => ?_
      k_steps
      (try dsimp only)
      rename Fr _ _ _ _ => F
      rename News _ _ _ _ => N
      rename IntsAre es'.dropLast _ => hes2
      have hv := last_take (ns := ns) (n := n) hn'
      have hdl := drop_last9 hv
      rw [hdl] at hes2
      have hst := ust_succ ms hv
      generalize (ns.take (n + 1)).getLastD 0 = v at *
      by_cases hmem : v ∈ (ust ns ms (n + 1)).2
      · rw [ustep, if_pos hmem] at hst
        refine Stop.go (remove_hit F N has hmem hlas (by k_upd) ?_)
        intro h' F N hints
        (try dsimp only)
        k_steps
        refine hP _ _ ?_
        exact WEnd.next (Nat.lt_succ_self n) F N ⟨_, _, us, _, _, km, sl, Same.skip .mixed (.head _), rfl, hes2, hn9, by rw [hst]; exact hus, by rw [hst]; exact hints⟩
      · rw [ustep, if_neg hmem] at hst
        refine Stop.go (remove_miss N (.tail _ (.tail _ (.head _))) rfl has hmem ?_)
        intro h' tk' ex hx
        have Fs' : TI.Frs [cenv] [(L, { oL with slots := sl })] := ⟨Fs.1, Fs.2.1, Fs.2.2.1, trivial⟩
        refine TLg.noted_newA (new := (mi, listOf us km) :: (e, listOf es'.dropLast.toArray (ke + 1)) :: (a, listOf as'.toArray ka) :: news) (frs := [(L, { oL with slots := sl })]) rfl Fs' hx F N ?_ ?_
        · intro p hp hq
          rcases List.mem_cons.mp hq with q | q
          · exact (N p (by rw [← List.cons_append, ← List.cons_append, ← List.cons_append]; exact List.mem_append.mpr (.inl hp))).2.1 q
          · have q := List.mem_singleton.mp q
            simp only [List.mem_cons] at hp
            rcases hp with rfl | rfl | rfl | hp
            · exact hLmi q.symm
            · exact hLe q.symm
            · exact hLa q.symm
            · exact offL p (.tail _ (.tail _ hp)) q
        · intro h2 frs' SU Fs2 H
          obtain ⟨sl2, rfl⟩ := TLg.one_up SU
          refine H.land ?_
          intro h3 H
          refine clause9 H ?_ ?_
          · intro Q' E' hq
            refine name_B H.held.fr X (topRead_of T) ?_ ?_ (by decide) hq
            · k_is
            · boot_by_name
          · intro h4 F N
            rw [List.cons_append, List.cons_append, List.cons_append] at N
            have om := ofm sl2
            k_steps
            rename Fr _ _ _ _ => F
            rename News _ _ _ _ => N
            refine hP _ _ ?_
            exact WEnd.next (Nat.lt_succ_self n) F N ⟨_, as', us.push (.int v _), _, _, _, sl2, Same.skip .mixed (.head _), rfl, hes2, hn9, by rw [hst, Array.toList_push]; exact IntsAre.append hus (.cons _ _ .nil), by rw [hst]; exact has⟩
end
theorem afreshF9 : True ∧ True := by
  w_top off
  walk1 <;> trivial
/- part F7 -/
section
set_option linter.unusedVariables false
local macro_rules | `(tactic| walk_at "eval ListComp") => `(tactic| refine Mine.stop ?_)
local macro_rules | `(tactic| walk_at "exec Assign cons ListComp") => `(tactic| refine Mine.stop ?_)
local macro_rules | `(tactic| walk_at "CompEnd") => `(tactic| refine Mine.stop ?_)
noncomputable def again1 (ns : List Int) (i : Nat) : Option Int := ns[31 - i]?.bind fun v => if v ∈ ns.drop (32 - i) then some v else none
noncomputable def again (ns : List Int) (i : Nat) : List Int := (List.range i).filterMap (again1 ns)
noncomputable def place1 (ns : List Int) (k : Nat) : Option Int := if (k : Int) ∈ ns then none else some (k : Int)
noncomputable def places (ns : List Int) (i : Nat) : List Int := (List.range i).filterMap (place1 ns)
theorem again_succ (ns : List Int) (i : Nat) : again ns (i + 1) = again ns i ++ (again1 ns i).toList := by
  simp only [again, List.range_succ, List.filterMap_append]
  cases e : again1 ns i <;> simp [e]
theorem places_succ (ns : List Int) (i : Nat) : places ns (i + 1) = places ns i ++ (place1 ns i).toList := by
  simp only [places, List.range_succ, List.filterMap_append]
  cases e : place1 ns i <;> simp [e]
noncomputable def GivesPair (w : World) (A : Around) (f : Addr) (args : List Value) (s : Shared) (xs ys : List Int) : Prop :=
  ∀ R : Result → Shared → Prop, (∀ t a b (us us' : Array Value) k k' h' tk, Keep s.heap h' → s.heap.get? t = none → h'.get? t = some { cls := .type "tuple", data := .seq #[.ref a, .ref b] } → h'.get? a = some (listOf us k) → h'.get? b = some (listOf us' k') → IntsAre us.toList xs → IntsAre us'.toList ys → R (.ok (.ret (.ref t))) { s with heap := h', toks := tk }) →
    codeAny (model Challenge.rw_ox0031_01.row.prog w) A (.call (.ref f) ⟨args, []⟩) R s
theorem left_ix {i : Nat} (h : i ≤ 31) : (31 + (i : Int) * -1) = ((31 - i : Nat) : Int) := by rw [Int.ofNat_sub h, Int.mul_neg, Int.mul_one]; rfl
set_option maxRecDepth 100000 in
set_option maxHeartbeats 8000000 in
theorem left_call {w : World} {A : Around} {s : Shared} {l : Addr} {vs : List Value} {kl : Nat} {ns : List Int} (C : Cx w 10 A s.heap)
    (hl0 : s.heap.get? l = some (listOf vs.toArray kl)) (hi : IntsAre vs ns) (hlen : ns.length = 32) : GivesPair w A 206 [.ref l] s (again ns 32) (places ns 32) := by
  intro R ret
  obtain ⟨X, ⟨loose, mean, mg, mb, T⟩, hh, dp, un⟩ := C
  obtain ⟨hd9, dp9, fr9, gd9, un9⟩ := A
  obtain rfl : hd9 = none := hh
  replace dp : dp9 + 10 < recursionLimit := dp
  replace un : un9 + 10 * 10 < cLine := un
  revert X; k_fill; intro X
  have hl : s.heap.IsList l vs.toArray := ⟨_, hl0, rfl, kl, rfl⟩
  refine' enterC ?k1 ?k2 ?k6 ?k7 ?k8 ?k9 ?kB ?kD ?_ ?c2 ?c3 ?c4
  case k1 => assumption
  case k2 => assumption
  case k6 => k_is
  case k7 => k_is
  case k8 => (dsimp only; omega)
  case k9 => exact BindsTo.of_eq rfl
  case kB => exact rfl
  case kD => decide +kernel
  case c2 => rfl
  case c3 => rfl
  case c4 => rfl
  intro h₁ tk cells (F : Fr s.heap s.heap.objs.size h₁ fun _ => none) N Y
  obtain ⟨oc, rfl, d1⟩ := CellsAre.one Y
  replace d1 : oc.data = .cell (some (.ref l)) := d1
  clear Y
  (try dsimp only)
  (try k_fold)
  k_steps
  (try dsimp only)
  refine comp_TA F (by rfl) (by with_unfolding_all rfl) (by with_unfolding_all rfl) (by decide) (by rfl) (by decide) (by rfl) (by rfl) (by rfl) ?_
  k_steps
  rename News _ _ _ _ => N
  rename Fr _ _ _ _ => F
  rename IsRange _ _ _ _ _ _ _ _ => hr
  refine ⟨_, _, _, _, _, _, _, 32, _, rfl, rfl, F, N, hr, by decide, by decide, by rw [sizeLine_eq]; omega, fun g => ?_⟩
  clear F N hr
  refine rest_T (fun i ys nw => IntsAre ys (again ns i) ∧ nw = [(s.heap.objs.size + 1, oc)]) ?_ ?_ 32 0 [] _ rfl ⟨.nil, rfl⟩
  · rintro i ys _ _ I oI C oC D m₂ h tk E' hin ⟨hys, rfl⟩ ⟨t9, rfl⟩ hC hx F N off ne
    have o3 := off
    (try simp only [LCg.Off3, and_true] at off)
    dsimp only
    have hi31 : i ≤ 31 := Nat.le_of_lt_succ hin
    have eq0 := left_ix hi31
    generalize hq : (31 + (i : Int) * -1) = q at hx eq0
    clear hq
    have e0 : (q + 1).toNat = 32 - i := by rw [eq0, Nat.succ_sub hi31]; rfl
    have e1 : q.toNat = 31 - i := by rw [eq0]; rfl
    have hq0 : 0 ≤ q := by rw [eq0]; exact Int.natCast_nonneg _
    have hi32 : 31 - i < 32 := Nat.lt_of_le_of_lt (Nat.sub_le _ _) (by decide)
    have hq1 : q < 32 := by rw [eq0]; exact Int.ofNat_lt.mpr hi32
    have hv : ns[31 - i]? = some (ns.getD (31 - i) 0) := getD_get9 (by rw [hlen]; exact hi32)
    k_steps
    · rename (List.any _ _) = true => ha
      rename News _ _ _ _ => N
      rename Fr _ _ _ _ => F
      rw [e0, e1, any_mem] at ha
      refine Stop.go (LCg.CompEnd.intro F N _ (fun p hp => .tail _ hp) o3 trivial ⟨?_, rfl⟩)
      have hrow : again1 ns i = some (ns.getD (31 - i) 0) := by unfold again1; rw [hv]; simp only [Option.bind_some, if_pos ha]
      rw [again_succ, hrow, e1]
      exact IntsAre.append hys (.cons _ _ .nil)
    · rename (List.any _ _) = false => ha
      rename News _ _ _ _ => N
      rename Fr _ _ _ _ => F
      rw [e0, e1] at ha
      have ha' : ns.getD (31 - i) 0 ∉ ns.drop (32 - i) := any_not ha
      refine Stop.go (LCg.CompEnd.intro F N _ (fun p hp => .tail _ hp) o3 trivial ⟨?_, rfl⟩)
      have hrow : again1 ns i = none := by unfold again1; rw [hv]; simp only [Option.bind_some, if_neg ha']
      rw [again_succ, hrow]; simpa using hys
  · rintro ys _ ⟨hys, rfl⟩ D h tk F N off
    (try dsimp only)
    k_steps
    (try dsimp only)
    refine comp_T F (by with_unfolding_all rfl) (by decide) (by rfl) (by decide) (by rfl) ?_
    k_steps
    rename News _ _ _ _ => N
    rename Fr _ _ _ _ => F
    refine ⟨_, _, _, _, _, _, _, 32, [(D, LCg.lst ys), (s.heap.objs.size + 1, oc)], rfl, rfl, F, news_tail N, (N _ (.head _)).1, by decide, by decide, by rw [sizeLine_eq]; omega, fun g => ?_⟩
    clear F N
    refine rest_T (fun i ps nw => IntsAre ps (places ns i) ∧ nw = [(D, LCg.lst ys), (s.heap.objs.size + 1, oc)]) ?_ ?_ 32 0 [] _ rfl ⟨.nil, rfl⟩
    · rintro i ps _ _ I oI C oC D' m₂ h tk E' hin ⟨hps, rfl⟩ ⟨t9, rfl⟩ hC hx F N off ne
      have o3 := off
      (try simp only [LCg.Off3, and_true] at off)
      dsimp only
      have eq0 : (0 + (i : Int) * 1) = (i : Int) := by rw [Int.mul_one, Int.zero_add]
      rw [eq0] at hx
      k_steps
      · rename (List.any _ _) = true => ha
        rw [any_mem] at ha
        have hrow : place1 ns i = none := by unfold place1; rw [if_pos ha]
        refine Stop.go (LCg.CompEnd.intro F N _ (fun p hp => hp) o3 trivial ⟨?_, rfl⟩)
        rw [places_succ, hrow]; simpa using hps
      · rename (List.any _ _) = false => ha
        have ha' : (i : Int) ∉ ns := any_not ha
        have hrow : place1 ns i = some (i : Int) := by unfold place1; rw [if_neg ha']
        refine Stop.go (LCg.CompEnd.intro F N _ (fun p hp => hp) o3 trivial ⟨?_, rfl⟩)
        rw [places_succ, hrow]
        exact IntsAre.append hps (.cons _ _ .nil)
    · rintro ps _ ⟨hps, rfl⟩ D' h tk F N off
      (try dsimp only)
      k_steps
      rename News _ _ _ _ => N
      rename Fr _ _ _ _ => F
      exact ret _ D D' ys.toArray ps.toArray _ _ _ _ F.keep (N _ (.head _)).2.2 (N _ (.head _)).1 (N _ (.tail _ (.tail _ (.head _)))).1 (N _ (.tail _ (.head _))).1 hys hps
end
theorem afreshF7 : True ∧ True := by
  w_top off
  walk1 <;> trivial
end Mine
/- part E1 -/
open PySem PySem.W PyProof.Rows PySem.Calls
namespace Mine
set_option linter.unusedVariables false
theorem eqvAll_ints : ∀ ns ms : List Int, PyData.eqvAll (ns.map .int) (ms.map .int) = (ns == ms)
  | [], [] => rfl
  | [], _ :: _ => rfl
  | _ :: _, [] => rfl
  | n :: ns, m :: ms => by
    simp only [List.map_cons, PyData.eqvAll, PyData.eqv, eqvAll_ints ns ms]
    rfl
noncomputable def rowP (r : Int × Int × Int) : PyData := .tuple [.int r.1, .int r.2.1, .int r.2.2]
theorem eqv_row (r q : Int × Int × Int) : PyData.eqv (rowP r) (rowP q) = (r == q) := by
  obtain ⟨a, b, c⟩ := r
  obtain ⟨x, y, z⟩ := q
  simp only [rowP, PyData.eqv, PyData.eqvAll, Bool.and_true]
  rfl
theorem eqvAll_rows : ∀ rs qs : List (Int × Int × Int), PyData.eqvAll (rs.map rowP) (qs.map rowP) = (rs == qs)
  | [], [] => rfl
  | [], _ :: _ => rfl
  | _ :: _, [] => rfl
  | r :: rs, q :: qs => by
    simp only [List.map_cons, PyData.eqvAll, eqv_row, eqvAll_rows rs qs]
    rfl
theorem lay_ints : ∀ ns : List Int, PyData.canLayAll0 (ns.map .int) = true
  | [] => rfl
  | n :: ns => by simp only [List.map_cons, PyData.canLayAll0, PyData.canLay0, lay_ints ns, Bool.and_true]
theorem lay_rows : ∀ rs : List (Int × Int × Int), PyData.canLayAll0 (rs.map rowP) = true
  | [] => rfl
  | r :: rs => by simp only [List.map_cons, PyData.canLayAll0, rowP, PyData.canLay0, Bool.and_true]; exact lay_rows rs
theorem depth_ints : ∀ ns : List Int, PyData.depthAll (ns.map .int) ≤ 5
  | [] => by simp [PyData.depthAll]
  | n :: ns => by
    have := depth_ints ns
    simp only [List.map_cons, PyData.depthAll, PyData.depth]; omega
theorem depth_rows : ∀ rs : List (Int × Int × Int), PyData.depthAll (rs.map rowP) ≤ 5
  | [] => by simp [PyData.depthAll]
  | r :: rs => by
    have := depth_rows rs
    simp only [List.map_cons, PyData.depthAll, rowP, PyData.depth]; omega
noncomputable def ipd (ns : List Int) : PyData := .list (ns.map .int)
noncomputable def rpd (rs : List (Int × Int × Int)) : PyData := .list (rs.map rowP)
noncomputable def ppd (xs ys : List Int) : PyData := .tuple [ipd xs, ipd ys]
theorem ipd_lay (ns : List Int) : (ipd ns).canLay0 = true := lay_ints ns
theorem rpd_lay (rs : List (Int × Int × Int)) : (rpd rs).canLay0 = true := lay_rows rs
theorem ppd_lay (xs ys : List Int) : (ppd xs ys).canLay0 = true := by simp only [ppd, PyData.canLay0, PyData.canLayAll0, ipd_lay, Bool.and_true]
theorem ipd_depth (ns : List Int) : (ipd ns).depth ≤ 6 := by simp only [ipd, PyData.depth]; have := depth_ints ns; omega
theorem rpd_depth (rs : List (Int × Int × Int)) : (rpd rs).depth ≤ 6 := by simp only [rpd, PyData.depth]; have := depth_rows rs; omega
theorem ppd_depth (xs ys : List Int) : (ppd xs ys).depth ≤ 7 := by simp only [ppd, PyData.depth, PyData.depthAll]; have := ipd_depth xs; have := ipd_depth ys; omega
theorem ipd_eq (ns ms : List Int) : PyData.eqv (ipd ns) (ipd ms) = (ns == ms) := eqvAll_ints ns ms
theorem rpd_eq (rs qs : List (Int × Int × Int)) : PyData.eqv (rpd rs) (rpd qs) = (rs == qs) := eqvAll_rows rs qs
theorem ppd_eq (xs ys xs' ys' : List Int) : PyData.eqv (ppd xs ys) (ppd xs' ys') = (xs == xs' && ys == ys') := by
  simp only [ppd, PyData.eqv, PyData.eqvAll, ipd_eq, Bool.and_true]
theorem ipd_reads {h : Heap} {a : Addr} {vs : List Value} {k : Nat} {ns : List Int} (ha : h.get? a = some (listOf vs.toArray k)) (hi : IntsAre vs ns) : ∃ as, Reads h (.ref a) (ipd ns) as :=
  ⟨_, .list ha rfl rfl (by simpa using IntsAre.reads h hi)⟩
theorem rows_reads {h : Heap} {tl : List (Addr × Obj)} {qs : List Value} {rs : List (Int × Int × Int)} (hq : TupsAre tl qs rs) (hh : ∀ p ∈ tl, h.get? p.1 = some p.2) : ∃ as, ReadsAll h qs (rs.map rowP) as := by
  induction hq with
  | nil => exact ⟨_, .nil⟩
  | cons hm _ ih =>
    obtain ⟨as, r⟩ := ih
    exact ⟨_, .cons (.tuple (hh _ hm) rfl rfl (.cons (.int _ _) (.cons (.int _ _) (.cons (.int _ _) .nil)))) r⟩
theorem rpd_reads {h : Heap} {a : Addr} {tl : List (Addr × Obj)} {qs : List Value} {k : Nat} {rs : List (Int × Int × Int)} (ha : h.get? a = some (listOf qs.toArray k)) (hq : TupsAre tl qs rs) (hh : ∀ p ∈ tl, h.get? p.1 = some p.2) : ∃ as, Reads h (.ref a) (rpd rs) as :=
  let ⟨_, r⟩ := rows_reads hq hh; ⟨_, .list ha rfl rfl (by simpa using r)⟩
theorem ppd_reads {h : Heap} {t a b : Addr} {vs us : List Value} {k k' : Nat} {xs ys : List Int} (ht : h.get? t = some { cls := .type "tuple", data := .seq #[.ref a, .ref b] }) (ha : h.get? a = some (listOf vs.toArray k)) (hi : IntsAre vs xs)
    (hb : h.get? b = some (listOf us.toArray k')) (hj : IntsAre us ys) : ∃ as, Reads h (.ref t) (ppd xs ys) as :=
  let ⟨_, r⟩ := ipd_reads ha hi
  let ⟨_, q⟩ := ipd_reads hb hj
  ⟨_, .tuple ht rfl rfl (.cons r (.cons q .nil))⟩
theorem eq_data {prog : Program} {w : World} {A : Around} {E : Value → Shared → Prop} {s : Shared} {a b : Value} {da db : PyData} {Q : Value → Shared → Prop} {v : Bool}
    (ra : ∃ as, Reads s.heap a da as) (rb : ∃ bs, Reads s.heap b db bs) (ha : da.canLay0 = true) (hb : db.canLay0 = true) (hd : da.depth ≤ 7) (hu : A.units + 10 < cLine) (e : PyData.eqv da db = v) (h : Q (.bool v) s) :
    wpAny (model prog w) A (compareOp .Eq a b) Q E s :=
  let ⟨_, r⟩ := ra
  let ⟨_, q⟩ := rb
  PySem.SeqAt.compareEq_reads r q ha hb (by have := Nat.min_le_left da.depth db.depth; omega) (e ▸ h)
end Mine
/- part L0 -/
open PySem PySem.W PyProof.Rows PySem.Calls
namespace Mine
set_option linter.unusedVariables false
theorem Cx.law {w : World} {d : Nat} {h₀ h : Heap} {L : Addr} {m : Str → Option Value} {env : Env} {loose : List Str} {mean : ExcName → Option Value} {mg mb : Str → Option Value}
    (F : Fr h₀ L h m) (X : (hd.heap_39 w.params).In h₀) (T : Top hd.view_39 loose mean mg mb h₀) (hd : d ≤ 20) : Cx w d (callerA.deeper env) h := by
  refine ⟨X.keeps F.keep, ⟨_, _, _, _, T.keeps F.keep⟩, rfl, ?_, ?_⟩
  · have h : (callerA.deeper env).depth + 20 < recursionLimit := by show callerA.depth + 1 + 20 < recursionLimit; decide
    omega
  · have h : (callerA.deeper env).units + 200 < cLine := by show callerA.units + 3 + 200 < cLine; decide
    omega
theorem fr_list {h₀ h : Heap} {L l : Addr} {m : Str → Option Value} {its : Array Value} (F : Fr h₀ L h m) (hl : h₀.IsList l its) : h.IsList l its := let ⟨o, e, r⟩ := hl; ⟨o, F.keep _ _ e, r⟩
theorem news_list {h₀ h : Heap} {L l : Addr} {its : Array Value} {k : Nat} {news : List (Addr × Obj)} (N : News h₀ L h news) (hm : (l, listOf its k) ∈ news) : h.IsList l its := ⟨_, (N _ hm).1, rfl, k, rfl⟩
theorem arr (us : Array Value) : ∃ pv : List Value, us = pv.toArray := ⟨us.toList, by simp⟩
noncomputable def upto (n : Nat) : List Int := (List.range n).map fun (i : Nat) => (i : Int)
theorem upto_succ (n : Nat) : upto (n + 1) = upto n ++ [(n : Int)] := by simp [upto, List.range_succ]
theorem upto_length (n : Nat) : (upto n).length = n := by simp [upto]
theorem upto_get {n i : Nat} (h : i < n) : (upto n)[i]? = some (i : Int) := by simp [upto, h]
theorem ints_of_get : ∀ {vs : List Value} {n a : Nat}, vs.length = n → (∀ (j : Nat) v, vs[j]? = some v → ∃ t, v = Value.int ((a + j : Nat) : Int) t) → IntsAre vs ((List.range n).map fun (i : Nat) => ((a + i : Nat) : Int))
  | [], _, _, rfl, _ => .nil
  | v :: vs, _, a, rfl, h => by
    obtain ⟨t, rfl⟩ := h 0 v rfl
    have ih := ints_of_get (vs := vs) (n := vs.length) (a := a + 1) rfl fun j v' hj => by
      obtain ⟨t, e⟩ := h (j + 1) v' hj
      exact ⟨t, by rw [e]; congr 2; omega⟩
    rw [List.length_cons, List.range_succ_eq_map, List.map_cons, List.map_map]
    refine .cons _ _ ?_
    have : ((fun (i : Nat) => ((a + i : Nat) : Int)) ∘ Nat.succ) = fun (i : Nat) => ((a + 1 + i : Nat) : Int) := by
      funext i; simp only [Function.comp]; congr 1; omega
    rw [this]; exact ih
section
variable {prog : Program} {w : World} {A : Around} {E : Value → Shared → Prop} {s : Shared} {h₀ : Heap} {L : Addr} {m : Str → Option Value} {news : List (Addr × Obj)} {Q : Value → Shared → Prop}
theorem list_upto {r : Addr} {t u v : Tok} (n : Nat) (hn : n ≤ 64) (hh : A.handled = none) (F : Fr h₀ L s.heap m) (N : News h₀ L s.heap news) (hm : (r, rgO 0 (n : Int) 1 t u v) ∈ news)
    (h : ∀ D vs k h' tk, Fr h₀ L h' m → News h₀ L h' ((D, listOf (List.toArray vs) k) :: news) → (∀ p ∈ news, p.1 < D) → IntsAre vs (upto n) → Q (.ref D) { s with heap := h', toks := tk }) :
    wpAny (model prog w) A (call (.type "list") [.ref r]) Q E s := by
  have hr : IsRange s.heap r 0 n 1 t u v := (N _ hm).1
  refine call_list_range hh hr (small_one (by omega) (by omega) (by omega) (by omega)) (n := n) (by rw [rangeSize_one]; split <;> omega) (by omega) fun h' tk acc c' hk hS hacc => ?_
  have hnew : s.heap.get? s.heap.objs.size = none := by
    cases e : s.heap.get? s.heap.objs.size with
    | none => rfl
    | some o => exact absurd (Heap.lt_size e) (Nat.lt_irrefl _)
  obtain ⟨N', _⟩ := news_new F N hk hnew hS
  obtain ⟨vs, rfl⟩ := arr acc
  refine h _ vs c' h' tk (F.keeps hk) N' (fun p hp => Heap.lt_size (N p hp).1) ?_
  have := ints_of_get (vs := vs) (n := n) (a := 0) (by have := hacc.1; simpa using this) fun j v hj => by
    obtain ⟨t, e⟩ := hacc.2 j v (by simpa using hj)
    exact ⟨t, by rw [e]; congr 1; omega⟩
  simpa [upto] using this
theorem list32 {r : Addr} {t u v : Tok} (hh : A.handled = none) (F : Fr h₀ L s.heap m) (N : News h₀ L s.heap news) (hm : (r, rgO 0 32 1 t u v) ∈ news)
    (h : ∀ D vs k h' tk, Fr h₀ L h' m → News h₀ L h' ((D, listOf (List.toArray vs) k) :: news) → (∀ p ∈ news, p.1 < D) → IntsAre vs (upto 32) → Q (.ref D) { s with heap := h', toks := tk }) :
    wpAny (model prog w) A (call (.type "list") [.ref r]) Q E s := list_upto 32 (by decide) hh F N hm h
theorem list8 {r : Addr} {t u v : Tok} (hh : A.handled = none) (F : Fr h₀ L s.heap m) (N : News h₀ L s.heap news) (hm : (r, rgO 0 8 1 t u v) ∈ news)
    (h : ∀ D vs k h' tk, Fr h₀ L h' m → News h₀ L h' ((D, listOf (List.toArray vs) k) :: news) → (∀ p ∈ news, p.1 < D) → IntsAre vs (upto 8) → Q (.ref D) { s with heap := h', toks := tk }) :
    wpAny (model prog w) A (call (.type "list") [.ref r]) Q E s := list_upto 8 (by decide) hh F N hm h
end
section
variable {w : World} {A : Around} {E : Value → Shared → Prop} {s : Shared} {f : Addr} {args : List Value} {h₀ : Heap} {L : Addr} {m : Str → Option Value} {news : List (Addr × Obj)} {Q : Value → Shared → Prop}
theorem GivesRows.use {rs : List (Int × Int × Int)} (C : GivesRows w A f args s rs) (F : Fr h₀ L s.heap m) (N : News h₀ L s.heap news)
    (h : ∀ a us k h' tk rl, Fr h₀ L h' m → News h₀ L h' ((a, listOf us k) :: (news ++ rl)) → RowsAre rl us.toList rs → Q (.ref a) { s with heap := h', toks := tk }) : wpAny (model Challenge.rw_ox0031_01.row.prog w) A (call (.ref f) args) Q E s :=
  wpAny_call (C _ fun a us k h' tk rl kp hn ho hrl hR => by
    obtain ⟨N', off⟩ := news_new F N kp hn ho
    refine h a us k h' tk rl (F.keeps kp) (fun p hp => ?_) hR
    rcases List.mem_cons.mp hp with rfl | hp
    · exact N' _ (.head _)
    · rcases List.mem_append.mp hp with hp | hp
      · exact N' p (.tail _ hp)
      · exact (news_new F N kp (hrl p hp).2 (hrl p hp).1).1 p (.head _))
theorem RowsAre.at {rl : List (Addr × Obj)} {vs : List Value} {rs : List (Int × Int × Int)} (h : RowsAre rl vs rs) : ∀ (i : Nat) (v : Value), vs[i]? = some v →
    ∃ x d a b c ta tb tc, v = .ref x ∧ (x, rowO d #[.int a ta, .int b tb, .int c tc]) ∈ rl ∧ rs[i]? = some (a, b, c) := by
  induction h with
  | nil => intro i v e; simp at e
  | cons hm _ ih =>
    intro i v e
    cases i with
    | zero => simp at e; exact ⟨_, _, _, _, _, _, _, _, e.symm, hm, rfl⟩
    | succ i => exact ih i v (by simpa using e)
end
theorem drop2 {h₀ h : Heap} {L : Addr} {a b : Addr × Obj} {news : List (Addr × Obj)} (N : News h₀ L h (a :: b :: news)) : News h₀ L h (a :: news) := fun p hp => N p (by
  rcases List.mem_cons.mp hp with rfl | hp
  · exact .head _
  · exact .tail _ (.tail _ hp))
open LCg in
theorem comp_told {h₀ h h' : Heap} {L I C D y : Addr} {m : Str → Option Value} {s₁ : Shared} {oI oC oD t : Obj} {S : List (Addr × Obj) → Prop} {rest : Value → List (Addr × Obj) → Prop} {tk : Nat} {b1 b2 b3 b4 b5 b6 : Addr × Obj} {tl : List (Addr × Obj)}
    (F : Fr h₀ L h m) (N : News h₀ L h ((I, oI) :: (C, oC) :: (D, oD) :: b1 :: b2 :: b3 :: b4 :: b5 :: b6 :: tl)) (kp : Keep h h') (hn : h.get? y = none) (hy : h'.get? y = some t)
    (o3 : Off3 I C D (b1 :: b2 :: b3 :: b4 :: b5 :: b6 :: tl)) (hS : S (b1 :: b2 :: b3 :: b4 :: b5 :: b6 :: (y, t) :: tl)) (r : rest (.ref y) (b1 :: b2 :: b3 :: b4 :: b5 :: b6 :: (y, t) :: tl)) :
    CompEnd h₀ L m s₁ I oI C oC D oD S rest (.ref y) { s₁ with heap := h', toks := tk } := by
  obtain ⟨N9, off9⟩ := news_new F N kp hn hy
  refine CompEnd.intro (F.keeps kp) N9 _ (fun p hp => ?_) (Off3.of fun p hp => ?_) hS r
  · simp only [List.mem_cons] at hp ⊢
    rcases hp with h | h | h | h | h | h | h | h | h | h | h <;> simp only [h, true_or, or_true]
  · simp only [List.mem_cons] at hp
    have o9 := o3.mem
    have old : ∀ p ∈ b1 :: b2 :: b3 :: b4 :: b5 :: b6 :: tl, p.1 ≠ I ∧ p.1 ≠ C ∧ p.1 ≠ D := o9
    rcases hp with h | h | h | h | h | h | h | h
    · exact old p (by rw [h]; exact .head _)
    · exact old p (by rw [h]; exact .tail _ (.head _))
    · exact old p (by rw [h]; exact .tail _ (.tail _ (.head _)))
    · exact old p (by rw [h]; exact .tail _ (.tail _ (.tail _ (.head _))))
    · exact old p (by rw [h]; exact .tail _ (.tail _ (.tail _ (.tail _ (.head _)))))
    · exact old p (by rw [h]; exact .tail _ (.tail _ (.tail _ (.tail _ (.tail _ (.head _))))))
    · rw [h]
      exact ⟨fun q => off9 (I, oI) (.head _) q.symm, fun q => off9 (C, oC) (.tail _ (.head _)) q.symm, fun q => off9 (D, oD) (.tail _ (.tail _ (.head _))) q.symm⟩
    · exact old p (.tail _ (.tail _ (.tail _ (.tail _ (.tail _ (.tail _ h))))))
theorem take_at {α : Type} {rs : List α} {i : Nat} {r : α} (h : rs[i]? = some r) : rs.take (i + 1) = rs.take i ++ [r] := by rw [List.take_add_one, h]; rfl
structure StopBool : Prop where
noncomputable def shuf (ps : List Int) : Bool := ((ps.getD 1 0).fmod 2 == 1) && ((ps.getD 2 0 + ps.getD 4 0).fmod 2 == 0) && ((ps.getD 3 0 + ps.getD 5 0).fmod 2 == 0)
theorem shuf1 {ps : List Int} (h1 : (ps.getD (Int.toNat 1) 0).fmod 2 = 1) (h2 : (ps.getD (Int.toNat 2) 0 + ps.getD (Int.toNat 4) 0).fmod 2 = 0) : ((ps.getD (Int.toNat 3) 0 + ps.getD (Int.toNat 5) 0).fmod 2 == 0) = shuf ps := by
  have h1' : (ps.getD 1 0).fmod 2 = 1 := h1
  have h2' : (ps.getD 2 0 + ps.getD 4 0).fmod 2 = 0 := h2
  show ((ps.getD 3 0 + ps.getD 5 0).fmod 2 == 0) = _
  unfold shuf; rw [h1', h2']; rfl
theorem shuf2 {ps : List Int} (h1 : (ps.getD (Int.toNat 1) 0).fmod 2 = 1) (h2 : (ps.getD (Int.toNat 2) 0 + ps.getD (Int.toNat 4) 0).fmod 2 ≠ 0) : ((ps.getD (Int.toNat 2) 0 + ps.getD (Int.toNat 4) 0).fmod 2 == 0) = shuf ps := by
  have h1' : (ps.getD 1 0).fmod 2 = 1 := h1
  have h2' : ((ps.getD 2 0 + ps.getD 4 0).fmod 2 == 0) = false := beq_eq_false_iff_ne.mpr h2
  show ((ps.getD 2 0 + ps.getD 4 0).fmod 2 == 0) = _
  unfold shuf; rw [h1', h2']; rfl
theorem shuf3 {ps : List Int} (h1 : (ps.getD (Int.toNat 1) 0).fmod 2 ≠ 1) : ((ps.getD (Int.toNat 1) 0).fmod 2 == 1) = shuf ps := by
  have h1' : ((ps.getD 1 0).fmod 2 == 1) = false := beq_eq_false_iff_ne.mpr h1
  show ((ps.getD 1 0).fmod 2 == 1) = _
  unfold shuf; rw [h1']; rfl
theorem foldl_keeps {α β : Type} (P : α → Prop) (f : α → β → α) (hf : ∀ a b, P a → P (f a b)) : ∀ (l : List β) (a : α), P a → P (l.foldl f a)
  | [], _, h => h
  | b :: l, a, h => foldl_keeps P f hf l (f a b) (hf a b h)
theorem cutF_in (ps : List Int) (x : Int) : 0 ≤ cutF ps x ∧ cutF ps x < 32 :=
  foldl_keeps (fun v => 0 ≤ v ∧ v < 32) _ (fun v p _ => ⟨Int.emod_nonneg _ (by decide), Int.emod_lt_of_pos _ (by decide)⟩) _ _ ⟨by decide, by decide⟩
theorem plainF_in (ps : List Int) (x : Int) {t : Int} (ht : 0 < t) : 0 ≤ (plainF ps x t).1 ∧ (plainF ps x t).1 < t :=
  foldl_keeps (fun v : Int × Int => 0 ≤ v.1 ∧ v.1 < t) _ (fun v p _ => ⟨Int.emod_nonneg _ (by omega), Int.emod_lt_of_pos _ ht⟩) _ _ ⟨Int.le_refl _, ht⟩
noncomputable abbrev vals (ps : List Int) : List Int := (upto 32).map (cutF ps)
noncomputable abbrev plains (ps : List Int) : List Int := (upto 32).map fun x => (plainF ps x 32).1
noncomputable abbrev eights (ps : List Int) : List Int := (upto 8).map fun x => (plainF ps x 8).1
theorem vals_len (ps : List Int) : (vals ps).length = 32 := by rw [List.length_map, upto_length]
theorem plains_len (ps : List Int) : (plains ps).length = 32 := by rw [List.length_map, upto_length]
theorem eights_len (ps : List Int) : (eights ps).length = 8 := by rw [List.length_map, upto_length]
theorem vals_in (ps : List Int) : ∀ n ∈ vals ps, 0 ≤ n ∧ n < ((vals ps).length : Int) := fun n hn => by
  obtain ⟨x, _, rfl⟩ := List.mem_map.mp hn
  rw [vals_len]; exact cutF_in ps x
theorem plains_in (ps : List Int) : ∀ n ∈ plains ps, 0 ≤ n ∧ n < ((plains ps).length : Int) := fun n hn => by
  obtain ⟨x, _, rfl⟩ := List.mem_map.mp hn
  rw [plains_len]; exact plainF_in ps x (by decide)
theorem eights_in (ps : List Int) : ∀ n ∈ eights ps, 0 ≤ n ∧ n < ((eights ps).length : Int) := fun n hn => by
  obtain ⟨x, _, rfl⟩ := List.mem_map.mp hn
  rw [eights_len]; exact plainF_in ps x (by decide)
theorem walkL_len (ns : List Int) (n : Nat) : (walkL ns n).length = n := by simp [walkL]
theorem allLt_ne {D : Addr} {l : List (Addr × Obj)} : AllLt D l → ∀ p ∈ l, p.1 ≠ D := by
  induction l with
  | nil => intro _ p hp; cases hp
  | cons q l ih =>
    rintro ⟨h1, h2⟩ p hp
    rcases List.mem_cons.mp hp with rfl | hp
    · exact Nat.ne_of_lt h1
    · exact ih h2 p hp
theorem swap2 {h₀ h : Heap} {L : Addr} {a b : Addr × Obj} {news : List (Addr × Obj)} (N : News h₀ L h (a :: b :: news)) : News h₀ L h (b :: a :: news) := fun p hp => N p (by
  rcases List.mem_cons.mp hp with rfl | hp
  · exact .tail _ (.head _)
  · rcases List.mem_cons.mp hp with rfl | hp
    · exact .head _
    · exact .tail _ (.tail _ hp))
end Mine
/- part Plain -/
open PySem PySem.W PyProof.Rows PySem.Calls
namespace Mine
noncomputable def poly (ps : List Int) (x : Int) : Int := ps.foldr (fun p v => v * x + p) 0
theorem emod_mul_add (t v x p : Int) : (v % t * x + p) % t = (v * x + p) % t := by
  rw [Int.add_emod, Int.mul_emod, Int.emod_emod, ← Int.mul_emod, ← Int.add_emod]
theorem cutF_poly (ps : List Int) (x : Int) : cutF ps x = poly ps x % 32 := by
  unfold cutF poly
  rw [List.foldl_reverse]
  induction ps with
  | nil => rfl
  | cons p r ih => rw [List.foldr_cons, List.foldr_cons, ih, emod_mul_add]
theorem plainF_fold (x t : Int) : ∀ (ps : List Int) (a : Int × Int), (ps.foldl (fun a p => ((a.1 + p * a.2) % t, a.2 * x % t)) a).1 % t = (a.1 + a.2 * poly ps x) % t
  | [], a => by simp [poly]
  | p :: r, a => by
    rw [List.foldl_cons, plainF_fold x t r]
    have e : poly (p :: r) x = poly r x * x + p := rfl
    rw [e]
    dsimp only
    have e1 : a.1 + a.2 * (poly r x * x + p) = (a.1 + p * a.2) + a.2 * x * poly r x := by grind
    rw [e1, Int.add_emod, Int.mul_emod, Int.emod_emod, Int.emod_emod, ← Int.mul_emod, ← Int.add_emod]
theorem plainF_poly (ps : List Int) (x : Int) {t : Int} (ht : 0 < t) : (plainF ps x t).1 = poly ps x % t := by
  have h := plainF_in ps x ht
  have e : (plainF ps x t).1 % t = _ := plainF_fold x t ps (0, 1)
  rw [Int.emod_eq_of_lt h.1 h.2] at e
  rw [e]; simp
theorem poly_six {ps : List Int} (h6 : ps.length = 6) : poly ps = p6 (ps.getD 0 0) (ps.getD 1 0) (ps.getD 2 0) (ps.getD 3 0) (ps.getD 4 0) (ps.getD 5 0) := by
  funext x
  match ps, h6 with
  | [a, b, c, d, e, f], _ => simp [poly, p6]; grind
/-- the values at the first N places -/
noncomputable abbrev tab (F : Int → Int) (N : Nat) : List Int := (upto N).map fun x => F x % (N : Int)
theorem vals_tab (ps : List Int) : vals ps = tab (poly ps) 32 := List.map_congr_left fun x _ => cutF_poly ps x
theorem plains_tab (ps : List Int) : plains ps = tab (poly ps) 32 := List.map_congr_left fun x _ => plainF_poly ps x (by decide)
theorem eights_tab (ps : List Int) : eights ps = tab (poly ps) 8 := List.map_congr_left fun x _ => plainF_poly ps x (by decide)
theorem tab_map (F : Int → Int) (N : Nat) : tab F N = (List.range N).map fun (j : Nat) => F (j : Int) % (N : Int) := by
  simp only [tab, upto, List.map_map]; rfl
theorem tab_get (F : Int → Int) {N k : Nat} (h : k < N) : (tab F N)[k]? = some (F k % N) := by
  rw [tab_map]; simp [h]
theorem pl_orb {F : Int → Int} {N : Nat} (T : Told F) (hN : 0 < N) : ∀ j, Mine.pl (tab F N) j = orb F j % N
  | 0 => by simp [Mine.pl, orb]
  | j + 1 => by
    have hp : (0 : Int) < N := by omega
    have a := Int.emod_nonneg (orb F j) (Int.ne_of_gt hp)
    have b := Int.emod_lt_of_pos (orb F j) hp
    simp only [Mine.pl, orb]
    rw [pl_orb T hN j, List.getD_eq_getElem?_getD, tab_get F (show (orb F j % N).toNat < N by omega), Option.getD_some, Int.toNat_of_nonneg a]
    exact T N _ _ (Int.emod_emod _ _)
theorem walk_orb {F : Int → Int} {N : Nat} (T : Told F) (hN : 0 < N) : walkL (tab F N) N = (List.range N).map fun j => orb F (j + 1) % (N : Int) := by
  unfold walkL
  exact List.map_congr_left fun j _ => pl_orb T hN _
theorem mem_walk {F : Int → Int} {N : Nat} (T : Told F) (hN : 0 < N) {x : Int} : x ∈ walkL (tab F N) N ↔ ∃ j, j < N ∧ orb F (j + 1) % N = x := by
  rw [walk_orb T hN]; simp
theorem mem_upto {n : Nat} {x : Int} : x ∈ upto n ↔ 0 ≤ x ∧ x < n := mem_tops (n := n)
theorem count_upto {n : Nat} {x : Int} (h : 0 ≤ x ∧ x < n) : (upto n).count x = 1 := by
  have := List.Nodup.count (a := x) (l := upto n) (nodup_tops n)
  rw [this, if_pos (mem_upto.mpr h)]
theorem filterMap_congr9 {α β : Type} {f g : α → Option β} : ∀ {l : List α}, (∀ x ∈ l, f x = g x) → l.filterMap f = l.filterMap g
  | [], _ => rfl
  | x :: l, h => by
    rw [List.filterMap_cons, List.filterMap_cons, h x (.head _), filterMap_congr9 fun y hy => h y (.tail _ hy)]
theorem upto_take {n k : Nat} (h : k ≤ n) : (upto n).take k = upto k := by
  simp only [upto, ← List.map_take, List.take_range, Nat.min_eq_left h]
theorem rows_counted {V : List Int} (hl : V.length = 32) (hb : ∀ v ∈ V, 0 ≤ v ∧ v < 32) : rowsA V (upto 32) 32 ++ rowsD V (upto 32) 32 = crows V 32 ++ drows V 32 := by
  congr 1
  · refine filterMap_congr9 fun k hk => ?_
    have hk := List.mem_range.mp hk
    unfold rowA crow
    rw [List.getElem?_eq_getElem (by omega : k < V.length)]
    have c := count_upto (n := 32) (hb V[k] (List.getElem_mem _))
    simp only [Option.bind_some, c]
    rfl
  · refine filterMap_congr9 fun k hk => ?_
    have hk := List.mem_range.mp hk
    unfold rowD drow
    rw [upto_get hk]
    have c := count_upto (n := 32) (x := k) (by omega)
    have m : (k : Int) ∈ V ++ (upto 32).take k ↔ (k : Int) ∈ V := by
      rw [List.mem_append, upto_take (by omega), mem_upto]
      constructor
      · rintro (h | h)
        · exact h
        · omega
      · exact .inl
    simp only [Option.bind_some, c, m]
    rfl
theorem drows_nil {V : List Int} : drows V 32 = [] ↔ ∀ k : Nat, k < 32 → (k : Int) ∈ V := by
  unfold drows
  rw [List.filterMap_eq_nil_iff]
  simp only [List.mem_range]
  refine forall_congr' fun k => imp_congr_right fun _ => ?_
  unfold drow
  split <;> simp_all
theorem crows_nil {V : List Int} (h : V.Nodup) : crows V 32 = [] := by
  unfold crows
  rw [List.filterMap_eq_nil_iff]
  intro k _
  unfold crow
  cases e : V[k]? with
  | none => rfl
  | some v =>
    simp only [Option.bind_some]
    split
    · rfl
    · have := List.Nodup.count (a := v) h
      rw [if_pos (List.mem_of_getElem? e)] at this
      rw [this]; rfl
theorem shuf_iff (ps : List Int) : shuf ps = true ↔ (ps.getD 1 0) % 2 = 1 ∧ (ps.getD 2 0 + ps.getD 4 0) % 2 = 0 ∧ (ps.getD 3 0 + ps.getD 5 0) % 2 = 0 := by
  unfold shuf
  rw [Int.fmod_eq_emod_of_nonneg _ (by decide), Int.fmod_eq_emod_of_nonneg _ (by decide), Int.fmod_eq_emod_of_nonneg _ (by decide)]
  simp only [Bool.and_eq_true, beq_iff_eq, and_assoc]
theorem rows_vals (ps : List Int) : rowsA (vals ps) (upto 32) 32 ++ rowsD (vals ps) (upto 32) 32 = crows (vals ps) 32 ++ drows (vals ps) 32 :=
  rows_counted (vals_len ps) fun v hv => by have := vals_in ps v hv; rw [vals_len] at this; exact this
theorem plain_told {ps : List Int} (h6 : ps.length = 6) : ((rowsA (vals ps) (upto 32) 32 ++ rowsD (vals ps) (upto 32) 32) == []) = shuf ps := by
  rw [rows_vals, Bool.eq_iff_iff, beq_iff_eq, List.append_eq_nil_iff, drows_nil, shuf_iff, vals_tab]
  have P := poly_six h6
  constructor
  · rintro ⟨_, h⟩
    refine shuf_of_surj (a := ps.getD 0 0) fun r h0 h1 => ?_
    have := h r.toNat (by omega)
    rw [Int.toNat_of_nonneg h0, tab_map] at this
    obtain ⟨j, hj, e⟩ := List.mem_map.mp this
    exact ⟨j, List.mem_range.mp hj, by rw [← P]; exact e⟩
  · rintro ⟨hb, hc, hd⟩
    have inj : ∀ i j : Nat, i < j → j < 32 → poly ps i % ((32 : Nat) : Int) ≠ poly ps j % ((32 : Nat) : Int) := fun i j hij hj e => by
      rw [P] at e
      have := shuf_apart hb hc hd e
      omega
    refine ⟨crows_nil (by rw [tab_map]; exact nodup_map inj), fun k hk => ?_⟩
    obtain ⟨j, hj, e⟩ := surj_of_inj inj (fun j _ => ⟨Int.emod_nonneg _ (by omega), Int.emod_lt_of_pos _ (by omega)⟩) (k : Int) (by omega) (by omega)
    rw [tab_map]
    exact List.mem_map.mpr ⟨j, List.mem_range.mpr hj, e⟩
theorem plain_counted {ps : List Int} (_  : ps.length = 6) : rowsA (vals ps) (upto 32) 32 ++ rowsD (vals ps) (upto 32) 32 = crows (plains ps) 32 ++ drows (plains ps) 32 := by
  rw [rows_vals, vals_tab, plains_tab]
theorem places_filter (W : List Int) : ∀ n, places W n = (upto n).filter fun x => decide (x ∉ W)
  | 0 => rfl
  | n + 1 => by
    rw [places_succ, upto_succ, List.filter_append, places_filter W n]
    congr 1
    unfold place1
    by_cases h : (n : Int) ∈ W <;> simp [h]
theorem left_at {W : List Int} (hl : W.length = 32) (hb : ∀ v ∈ W, 0 ≤ v ∧ v < 32) : ∀ i, i ≤ 32 → ust W (upto 32) (32 - i) = (again W i, (upto 32).filter fun x => decide (x ∉ W.drop (32 - i)))
  | 0, _ => by
    have e := ust_top W (upto 32)
    rw [hl] at e
    have d : W.drop 32 = [] := by rw [← hl]; exact List.drop_length
    rw [Nat.sub_zero, e, d]
    simp [again]
    exact (List.filter_eq_self.mpr fun _ _ => rfl).symm
  | i + 1, h => by
    have hn : 31 - i < W.length := by omega
    have e1 : 32 - (i + 1) = 31 - i := by omega
    have e2 : 31 - i + 1 = 32 - i := by omega
    rw [e1, ust_succ (upto 32) (List.getElem?_eq_getElem hn), e2, left_at hl hb i (by omega), again_succ]
    have hd : W.drop (31 - i) = W[31 - i] :: W.drop (32 - i) := by rw [List.drop_eq_getElem_cons hn, e2]
    have hu : W[31 - i] ∈ upto 32 := mem_upto.mpr (hb _ (List.getElem_mem hn))
    unfold ustep again1
    rw [hd, List.getElem?_eq_getElem hn]
    generalize W[31 - i] = v at *
    generalize W.drop (32 - i) = D at *
    simp only [Option.bind_some, List.mem_filter, hu, true_and, decide_eq_true_eq]
    by_cases hv : v ∈ D
    · simp only [hv, not_true, if_false, if_true, Option.toList_some, Prod.mk.injEq, true_and]
      refine List.filter_congr fun x _ => ?_
      simp only [List.mem_cons]
      by_cases hx : x = v
      · subst hx; simp [hv]
      · simp [hx]
    · simp only [hv, not_false_eq_true, if_true, if_false, Option.toList_none, List.append_nil, Prod.mk.injEq, true_and]
      rw [List.Nodup.erase_eq_filter ((show (upto 32).Nodup from nodup_tops 32).filter _), List.filter_filter]
      refine List.filter_congr fun x _ => ?_
      simp only [List.mem_cons]
      by_cases hx : x = v
      · subst hx; simp
      · simp [hx]
theorem left_all {W : List Int} (hl : W.length = 32) (hb : ∀ v ∈ W, 0 ≤ v ∧ v < 32) : ust W (upto 32) 0 = (again W 32, places W 32) := by
  have := left_at hl hb 32 (Nat.le_refl _)
  rw [places_filter]
  exact this
theorem again_nil {W : List Int} (hl : W.length = 32) (h : W.Nodup) : again W 32 = [] := by
  unfold again
  rw [List.filterMap_eq_nil_iff]
  intro i hi
  have hi := List.mem_range.mp hi
  have hn : 31 - i < W.length := by omega
  unfold again1
  rw [List.getElem?_eq_getElem hn]
  simp only [Option.bind_some]
  rw [if_neg]
  intro hm
  have hd : W.drop (31 - i) = W[31 - i] :: W.drop (32 - i) := by rw [List.drop_eq_getElem_cons hn, show 31 - i + 1 = 32 - i by omega]
  have nd : (W.drop (31 - i)).Nodup := List.Nodup.sublist (List.drop_sublist _ _) h
  rw [hd] at nd
  exact (List.nodup_cons.mp nd).1 hm
theorem places_nil {W : List Int} : places W 32 = [] ↔ ∀ k : Nat, k < 32 → (k : Int) ∈ W := by
  unfold places
  rw [List.filterMap_eq_nil_iff]
  simp only [List.mem_range]
  refine forall_congr' fun k => imp_congr_right fun _ => ?_
  unfold place1
  split <;> simp_all
theorem walk_in {F : Int → Int} (T : Told F) : ∀ v ∈ walkL (tab F 32) 32, 0 ≤ v ∧ v < 32 := fun v hv => by
  obtain ⟨j, _, rfl⟩ := (mem_walk T (by decide)).mp hv
  exact ⟨Int.emod_nonneg _ (by decide), Int.emod_lt_of_pos _ (by decide)⟩
theorem poly_told {ps : List Int} (h6 : ps.length = 6) : Told (poly ps) := by rw [poly_six h6]; exact p6_told
theorem plain_left {ps : List Int} (h6 : ps.length = 6) : ust (walkL (vals ps) 32) (upto 32) 0 = (again (walkL (plains ps) 32) 32, places (walkL (plains ps) 32) 32) := by
  rw [vals_tab, plains_tab]
  exact left_all (walkL_len _ _) (walk_in (poly_told h6))
theorem walk_nodup {F : Int → Int} {N : Nat} (T : Told F) (hN : 0 < N) (h : Round F N) : (tops N).Perm (walkL (tab F N) N) := by
  rw [walk_orb T hN]
  exact perm_of_surj h
theorem upto_sorted (n : Nat) : (upto n).Pairwise (· ≤ ·) := by
  unfold upto
  rw [List.pairwise_map]
  exact List.pairwise_lt_range.imp fun h => by omega
theorem round_left {F : Int → Int} (T : Told F) : (again (walkL (tab F 32) 32) 32 = [] ∧ places (walkL (tab F 32) 32) 32 = []) ↔ Round F 32 := by
  rw [places_nil]
  constructor
  · rintro ⟨_, h⟩ r h0 h1
    have := h r.toNat (by omega)
    rw [Int.toNat_of_nonneg h0] at this
    exact (mem_walk T (N := 32) (by decide)).mp this
  · intro h
    exact ⟨again_nil (walkL_len _ _) ((walk_nodup T (by decide) h).nodup (nodup_tops 32)), fun k hk => (mem_walk T (by decide)).mpr (h k (by omega) (by omega))⟩
theorem round_sort {F : Int → Int} {sn : List Int} {N : Nat} (hN : 0 < N) (T : Told F) (hp : sn.Perm (walkL (tab F N) N)) (hs : sn.Pairwise (· ≤ ·)) : sn = upto N ↔ Round F N := by
  constructor
  · rintro rfl r h0 h1
    exact (mem_walk T hN).mp (hp.mem_iff.mp (mem_upto.mpr ⟨h0, h1⟩))
  · intro h
    have q := upto_sorted N
    have p : sn.Perm (upto N) := hp.trans (walk_nodup T hN h).symm
    exact List.Perm.eq_of_pairwise (le := (· ≤ ·)) (fun a b _ _ h h' => Int.le_antisymm h h') hs q p
theorem round_iff {ps : List Int} (h6 : ps.length = 6) : Round (poly ps) 32 ↔ Round (poly ps) 8 := by
  constructor
  · intro h
    exact Round.less (N := 8) (M := 4) h (poly_told h6) (by decide) (by decide)
  · intro h
    rw [poly_six h6] at h ⊢
    exact round_up h
theorem plain_round {ps sn : List Int} (h6 : ps.length = 6) (hp : sn.Perm (walkL (eights ps) 8)) (hs : sn.Pairwise (· ≤ ·)) :
  ((ust (walkL (vals ps) 32) (upto 32) 0).1 == [] && (ust (walkL (vals ps) 32) (upto 32) 0).2 == []) = (sn == upto 8) := by
  have T := poly_told h6
  have hp8 : sn.Perm (walkL (tab (poly ps) 8) 8) := by rw [← eights_tab]; exact hp
  have key : ((again (walkL (tab (poly ps) 32) 32) 32 = [] ∧ places (walkL (tab (poly ps) 32) 32) 32 = []) ↔ sn = upto 8) :=
    (round_left T).trans ((round_iff h6).trans (round_sort (N := 8) (by decide) T hp8 hs).symm)
  rw [plain_left h6, plains_tab]
  generalize again (walkL (tab (poly ps) 32) 32) 32 = a at key ⊢
  generalize places (walkL (tab (poly ps) 32) 32) 32 = b at key ⊢
  generalize upto 8 = u at key ⊢
  rw [Bool.eq_iff_iff, Bool.and_eq_true, beq_iff_eq, beq_iff_eq, beq_iff_eq]
  exact key
end Mine
/- part Lb -/
open PySem PySem.W PyProof.Rows PySem.Calls
namespace Mine
set_option linter.unusedVariables false
section
variable {w : World} {A : Around} {E : Value → Shared → Prop} {s : Shared} {f : Addr} {args : List Value} {h₀ : Heap} {L : Addr} {m : Str → Option Value} {news : List (Addr × Obj)} {Q : Value → Shared → Prop}
theorem GivesTups.use {rs : List (Int × Int × Int)} (C : GivesTups w A f args s rs) (F : Fr h₀ L s.heap m) (N : News h₀ L s.heap news)
    (h : ∀ a us k h' tk rl, Fr h₀ L h' m → News h₀ L h' ((a, listOf us k) :: news) → (∀ p ∈ rl, h'.get? p.1 = some p.2) → TupsAre rl us.toList rs → Q (.ref a) { s with heap := h', toks := tk }) : wpAny (model Challenge.rw_ox0031_01.row.prog w) A (call (.ref f) args) Q E s :=
  wpAny_call (C _ fun a us k h' tk rl kp hn ho hrl hR => by
    obtain ⟨N', off⟩ := news_new F N kp hn ho
    exact h a us k h' tk rl (F.keeps kp) N' (fun p hp => (hrl p hp).1) hR)
theorem GivesPair.use {xs ys : List Int} (C : GivesPair w A f args s xs ys) (F : Fr h₀ L s.heap m) (N : News h₀ L s.heap news)
    (h : ∀ t a b us us' k k' h' tk, Fr h₀ L h' m → News h₀ L h' ((t, { cls := .type "tuple", data := .seq #[.ref a, .ref b] }) :: news) → h'.get? a = some (listOf us k) → h'.get? b = some (listOf us' k') → IntsAre us.toList xs → IntsAre us'.toList ys → Q (.ref t) { s with heap := h', toks := tk }) : wpAny (model Challenge.rw_ox0031_01.row.prog w) A (call (.ref f) args) Q E s :=
  wpAny_call (C _ fun t a b us us' k k' h' tk kp hn ho ha hb hx hy => by
    obtain ⟨N', off⟩ := news_new F N kp hn ho
    exact h t a b us us' k k' h' tk (F.keeps kp) N' ha hb hx hy)
end
theorem news_at {h₀ h : Heap} {L : Addr} {news : List (Addr × Obj)} (N : News h₀ L h news) (i : Nat) {p : Addr × Obj} (e : news[i]? = some p) : h.get? p.1 = some p.2 := (N p (List.mem_of_getElem? e)).1
theorem news_drop {h₀ h : Heap} {L : Addr} {news tl : List (Addr × Obj)} (N : News h₀ L h news) (i : Nat) (e : news.drop i = tl) : ∀ p ∈ tl, h.get? p.1 = some p.2 := fun p hp => (N p (List.mem_of_mem_drop (by rw [e]; exact hp))).1
theorem units_law {env : Env} : (callerA.deeper env).units + 10 < cLine := by show callerA.units + 3 + 10 < cLine; decide
/-- entries that are not read any more are let go -/
theorem news_trim {h₀ h : Heap} {L : Addr} {a b c d e f x1 x2 x3 x4 x5 : Addr × Obj} {tl : List (Addr × Obj)} (N : News h₀ L h (a :: b :: c :: d :: e :: x1 :: f :: x2 :: x3 :: x4 :: x5 :: tl)) : News h₀ L h (a :: b :: c :: d :: e :: f :: tl) := fun p hp => N p (by
  simp only [List.mem_cons] at hp ⊢
  rcases hp with h | h | h | h | h | h | h <;> simp only [h, true_or, or_true])
end Mine
/- part L1 -/
open PySem PySem.W PyProof.Rows PySem.Calls
namespace Mine
set_option linter.unusedVariables false
local macro_rules | `(tactic| walk_at "call ref") => `(tactic| refine Mine.stop ?_)
local macro_rules | `(tactic| walk_at "exec Assign cons ListComp") => `(tactic| refine Mine.stop ?_)
local macro_rules | `(tactic| walk_at "eval ListComp") => `(tactic| refine Mine.stop ?_)
local macro_rules | `(tactic| walk_at "CompSrc") => `(tactic| refine Mine.stop ?_)
local macro_rules | `(tactic| walk_at "call type:tuple") => `(tactic| refine Mine.stop ?_)
local macro_rules | `(tactic| walk_at "eval BoolOp") => `(tactic| ((rename StopBool => hSB); refine Mine.stop ?_))
local macro_rules | `(tactic| walk_at "call builtin:sorted") => `(tactic| refine Mine.stop ?_)
local macro_rules | `(tactic| walk_at "compareOp Eq ref ref") => `(tactic| refine Mine.stop ?_)
local macro_rules | `(tactic| walk_at "CompEnd") => `(tactic| refine Mine.stop ?_)
local macro_rules | `(tactic| walk_at "call type:range cons nil") => `(tactic| ((rename News _ _ _ _ => N9); (try simp only [List.cons_append, List.nil_append] at N9); refine Mine.range1 (by k_asm) (by k_asm) ?_; intro _ _ _ _ _ _ _ l1; try k_lt l1))
local macro_rules | `(tactic| walk_at "call type:list") => `(tactic| ((first | refine Mine.list32 rfl (by k_asm) (by k_asm) (.head _) ?_ | refine Mine.list8 rfl (by k_asm) (by k_asm) (.head _) ?_); intro _ _ _ _ _ _ _ l1 _; try k_lt l1))
set_option maxRecDepth 100000 in
set_option maxHeartbeats 8000000 in
theorem law_holds : PySem.Challenge.rw_ox0031_01.Holds := by
  refine Mine.hd ?_
  k_go0
  all_goals try k_fold
  rename Shared => s1
  rename Frag.In _ _ => X
  rename Top _ _ _ _ _ _ => T
  rename Fr _ _ _ _ => F
  rename News _ _ _ _ => N
  rename Heap.IsList _ _ _ => hL
  rename IntsAre _ _ => hI
  rename ¬ (_ < _) => h63
  k_steps
  refine Stop.go ((parts_call (Cx.law F X T (by decide)) (fr_list F hL) hI (by omega)).use F N ?_)
  clear F N
  intro pa us k h tk ps F N off hps ⟨hp6, hpb⟩
  obtain ⟨pv, rfl⟩ := arr us
  replace hps : IntsAre pv ps := hps
  generalize bindL _ _ _ = m0 at F
  (try dsimp only)
  k_steps
  (try dsimp only)
  rename_i oc hoc _ rr _ _ _ _ l1 wh wv wk _ _ hw l2 _ F N
  have hwl : wv.length = 32 := by rw [hw.length, upto_length]
  replace N : News _ _ _ [(wh, listOf wv.toArray wk), (pa, listOf pv.toArray k), (s1.heap.objs.size + 1, oc)] := drop2 N
  refine Stop.go (LCg.Assign_ListComp_U F rfl (by with_unfolding_all rfl) (by with_unfolding_all rfl) (by decide) rfl (by decide) rfl rfl rfl ?_)
  k_steps
  refine Stop.go (LCg.CompSrc.ledger rfl F N (.head _) (by rw [sizeLine_eq, List.size_toArray]; omega) fun g => ?_)
  refine rest_U (fun i ys nw => IntsAre ys ((upto i).map (cutF ps)) ∧ nw = _) ?_ ?_ _ 0 [] _ rfl ⟨.nil, rfl⟩
  · clear F N
    rintro i ys _ v I oI C oC D m₂ h tk E' hin ⟨hys, rfl⟩ hv hC hx F N off ne
    rw [List.size_toArray] at hin
    obtain ⟨t9, rfl⟩ : ∃ t, v = .int (i : Int) t := by
      obtain ⟨n, t, rfl, hn⟩ := IntsAre.at hw i v (by simpa using hv)
      rw [upto_get (by omega)] at hn; cases hn; exact ⟨t, rfl⟩
    have o3 := off
    (try simp only [LCg.Off3, and_true] at off)
    dsimp only
    k_steps
    refine Stop.go ((cut_call (Cx.law F X T (by decide)) (news_list N (.tail _ (.tail _ (.tail _ (.tail _ (.head _)))))) hps hp6 hpb ⟨by omega, by omega⟩).use F N ?_)
    intro t' h' tk' F N
    exact LCg.CompEnd.intro F N _ (fun p hp => hp) o3 (.inr ⟨_, .head _, rfl, _, rfl⟩) ⟨by rw [upto_succ, List.map_append]; exact IntsAre.append hys (.cons _ _ .nil), rfl⟩
  · clear F N
    rintro ys _ ⟨hys, rfl⟩ va h tk F N off
    rw [List.size_toArray, hwl] at hys
    (try dsimp only)
    k_steps
    (try dsimp only)
    refine Stop.go (LCg.Assign_ListComp_U F rfl (by with_unfolding_all rfl) (by with_unfolding_all rfl) (by decide) rfl (by decide) rfl rfl rfl ?_)
    k_steps
    refine Stop.go (LCg.CompSrc.ledger rfl F N (.tail _ (.head _)) (by rw [sizeLine_eq, List.size_toArray]; omega) fun g => ?_)
    refine rest_U (fun i zs nw => IntsAre zs ((upto i).map fun x => (plainF ps x 32).1) ∧ nw = _) ?_ ?_ _ 0 [] _ rfl ⟨.nil, rfl⟩
    · clear F N
      rintro i zs _ v I oI C oC D m₂ h tk E' hin ⟨hzs, rfl⟩ hv hC hx F N off ne
      rw [List.size_toArray] at hin
      obtain ⟨t9, rfl⟩ : ∃ t, v = .int (i : Int) t := by
        obtain ⟨n, t, rfl, hn⟩ := IntsAre.at hw i v (by simpa using hv)
        rw [upto_get (by omega)] at hn; cases hn; exact ⟨t, rfl⟩
      have o3 := off
      (try simp only [LCg.Off3, and_true] at off)
      dsimp only
      k_steps
      refine Stop.go ((plain_call (Cx.law F X T (by decide)) (news_list N (.tail _ (.tail _ (.tail _ (.tail _ (.tail _ (.head _))))))) hps hp6 hpb ⟨by omega, by omega⟩ ⟨by omega, by omega⟩).use F N ?_)
      intro t' h' tk' F N
      exact LCg.CompEnd.intro F N _ (fun p hp => hp) o3 (.inr ⟨_, .tail _ (.head _), rfl, _, rfl⟩) ⟨by rw [upto_succ, List.map_append]; exact IntsAre.append hzs (.cons _ _ .nil), rfl⟩
    · clear F N
      rintro zs _ ⟨hzs, rfl⟩ pl h tk F N off'
      rw [List.size_toArray, hwl] at hzs
      (try dsimp only)
      k_steps
      (try dsimp only)
      refine Stop.go (LCg.Assign_ListComp_U F rfl (by with_unfolding_all rfl) (by with_unfolding_all rfl) (by decide) rfl (by decide) rfl rfl rfl ?_)
      k_steps
      have hcl : ((upto 32).map (cutF ps)).length = 32 := by rw [List.length_map, upto_length]
      refine Stop.go ((count_call (Cx.law F X T (by decide)) (news_list N (.tail _ (.head _))) hys (by rw [hcl]; decide) (news_list N (.tail _ (.tail _ (.head _)))) hw (by rw [upto_length]; decide)).use F N ?_)
      clear F N
      intro ra us rk h tk rl F N hrl
      obtain ⟨uv, rfl⟩ := arr us
      replace hrl : RowsAre rl uv _ := hrl
      simp only [List.cons_append, List.nil_append, Nat.add_zero] at N hrl
      rw [hcl, upto_length] at hrl
      generalize hrs : rowsA (List.map (cutF ps) (upto 32)) (upto 32) 32 ++ rowsD (List.map (cutF ps) (upto 32)) (upto 32) 32 = rs at hrl
      have hrsl : rs.length ≤ 64 := by
        rw [← hrs, List.length_append]
        have := rowsA_len (List.map (cutF ps) (upto 32)) (upto 32) 32
        have := rowsD_len (List.map (cutF ps) (upto 32)) (upto 32) 32
        omega
      have huv := hrl.length
      refine LCg.CompSrc.ledger rfl F N (.head _) (by rw [sizeLine_eq, List.size_toArray]; omega) fun g => ?_
      refine rest_U (fun i qs nw => ∃ tl, TupsAre tl qs (rs.take i) ∧ (∀ p ∈ rl, p ∈ tl) ∧ nw = (ra, listOf uv.toArray rk) :: (pl, LCg.lst zs) :: (va, LCg.lst ys) :: (wh, listOf wv.toArray wk) :: (pa, listOf pv.toArray k) :: (s1.heap.objs.size + 1, oc) :: tl) ?_ ?_ _ 0 [] _ rfl ?_
      · clear F N
        rintro i qs _ v I oI C oC D m₂ h tk E' hin ⟨tl, hqs, hsub, rfl⟩ hv hC hx F N off ne
        rw [List.size_toArray] at hin
        obtain ⟨x, d, a, b, c, ta, tb, tc, rfl, hxm, hrow⟩ := hrl.at i v (by simpa using hv)
        have o3 := off
        (try simp only [LCg.Off3, and_true] at off)
        dsimp only
        k_steps
        have ho := (N _ (.tail _ (.tail _ (.tail _ (.tail _ (.tail _ (.tail _ (.tail _ (.tail _ (.tail _ (hsub _ hxm))))))))))).1
        refine Stop.go (tuple_row rfl (X.keeps F.keep) ho rfl fun y h' tk' kp hn hy => ?_)
        refine comp_told F N kp hn hy o3 (.inr ⟨_, .head _, rfl, _, rfl⟩) ⟨_ :: tl, ?_, fun p hp => .tail _ (hsub p hp), rfl⟩
        rw [take_at hrow]
        exact (hqs.mono fun p hp => .tail _ hp).snoc (.head _)
      · clear F N
        rintro qs _ ⟨tl, hqs, hsub, rfl⟩ to h tk F N off2
        rw [List.size_toArray, huv, Nat.add_zero, List.take_length] at hqs
        (try dsimp only)
        have hSB : StopBool := ⟨⟩
        k_steps
        (try dsimp only)
        refine Stop.go (wpAny_mono (Q := fun v s' => Stop (∃ tk9, v = .bool (shuf ps) ∧ s' = { s1 with heap := h, toks := tk9 })) ?_ ?_ (fun _ _ e => e))
        · (rename StopBool => hSB; clear hSB)
          k_steps
          · exact Stop.go ⟨_, congrArg Value.bool (shuf1 (by assumption) (by assumption)), rfl⟩
          · exact Stop.go ⟨_, congrArg Value.bool (shuf2 (by assumption) (by assumption)), rfl⟩
          · exact Stop.go ⟨_, congrArg Value.bool (shuf3 (by assumption)), rfl⟩
        · rintro _ _ ⟨tk9, rfl, rfl⟩
          (rename StopBool => hSB; clear hSB)
          (try dsimp only)
          k_steps
          (try dsimp only)
          rename Fr _ _ _ _ => F
          rename News _ _ _ _ => N
          refine Stop.go ((walk_call (Cx.law F X T (by decide)) (news_list N (.tail _ (.tail _ (.tail _ (.head _))))) hys (by rw [hcl]; decide) (vals_in ps)).use F N ?_)
          clear F N
          intro wa us wk' h tk _ F N off3 hus rfl
          obtain ⟨cv, rfl⟩ := arr us
          replace hus : IntsAre cv (walkL (vals ps) (vals ps).length) := hus
          rw [vals_len] at hus
          (try dsimp only)
          k_steps
          (try dsimp only)
          rename_i lw _ _ F N l3
          refine Stop.go (unord_call X T rfl (by show callerA.depth + 1 + 10 < recursionLimit; decide) (by show callerA.units + 3 + 100 < cLine; decide) (by rfl) rfl rfl F (swap2 N) (Nat.ne_of_lt l3.1) off3 (allLt_ne l3.2) hus hw (by rw [walkL_len]; decide) (by rw [upto_length]; decide) ?_)
          clear F N
          intro le mi ms1 as1 k1 k2 h tk F N hm1 hm2
          obtain ⟨mv, rfl⟩ := arr ms1
          obtain ⟨av, rfl⟩ := arr as1
          replace hm1 : IntsAre mv _ := hm1
          replace hm2 : IntsAre av _ := hm2
          (try dsimp only)
          k_steps
          (try dsimp only)
          rename Fr _ _ _ _ => F
          rename News _ _ _ _ => N
          refine Stop.go (LCg.ListComp_U F (by with_unfolding_all rfl) (by decide) rfl (by decide) rfl ?_)
          k_steps
          rename Fr _ _ _ _ => F
          rename News _ _ _ _ => N
          refine Stop.go (LCg.CompSrc.range (n := 8) rfl F (news_tail N) (N _ (.head _)).1 (by decide) (by decide) (by rw [sizeLine_eq]; omega) fun g => ?_)
          refine rest_U (fun i es nw => IntsAre es ((upto i).map fun x => (plainF ps x 8).1) ∧ nw = _) ?_ ?_ _ 0 [] _ rfl ⟨.nil, rfl⟩
          · clear F N
            rintro i es _ v I oI C oC D m₂ h tk E' hin ⟨hes, rfl⟩ ⟨t9, rfl⟩ hC hx F N off ne
            rw [Int.zero_add] at hx
            have o3 := off
            (try simp only [LCg.Off3, and_true] at off)
            dsimp only
            k_steps
            refine Stop.go ((plain_call (Cx.law F X T (by decide)) (news_list N (.tail _ (.tail _ (.tail _ (.tail _ (.tail _ (.tail _ (.tail _ (.tail _ (.tail _ (.tail _ (.tail _ (.head _))))))))))))) hps hp6 hpb ⟨by omega, by omega⟩ ⟨by omega, by omega⟩).use F N ?_)
            intro t' h' tk' F N
            exact LCg.CompEnd.intro F N _ (fun p hp => hp) o3 trivial ⟨by rw [upto_succ, List.map_append]; exact IntsAre.append hes (.cons _ _ .nil), rfl⟩
          · clear F N
            rintro es _ ⟨hes, rfl⟩ ei h tk F N off4
            replace hes : IntsAre es (eights ps) := hes
            replace N := news_trim N
            clear off4
            (try dsimp only)
            k_steps
            (try dsimp only)
            refine Stop.go ((walk_call (Cx.law F X T (by decide)) (news_list N (.head _)) hes (by rw [eights_len]; decide) (eights_in ps)).use F N ?_)
            clear F N
            intro we us wk2 h tk _ F N off5 hwe rfl
            obtain ⟨wev, rfl⟩ := arr us
            replace hwe : IntsAre wev (walkL (eights ps) (eights ps).length) := hwe
            rw [eights_len] at hwe
            (try dsimp only)
            k_steps
            (try dsimp only)
            rename Fr _ _ _ _ => F
            rename News _ _ _ _ => N
            refine Stop.go (kso_sorted F N (news_list N (.head _)) hwe (by rw [walkL_len]; decide) ?_)
            clear F N
            intro so sv sn sk h F N l6 hsv hsl hsp hss _
            (try dsimp only)
            k_steps
            (try dsimp only)
            rename_i F N hI8 _
            refine Stop.go (eq_data (ipd_reads (N _ (.tail _ (.tail _ (.head _)))).1 hsv) (ipd_reads (N _ (.head _)).1 hI8) (ipd_lay _) (ipd_lay _) (Nat.le_trans (ipd_depth _) (by decide)) (by show callerA.units + 3 + 10 < cLine; decide) (ipd_eq _ _) ?_)
            (try dsimp only)
            k_steps
            (try dsimp only)
            rename Fr _ _ _ _ => F
            rename News _ _ _ _ => N
            have hP1 : (rs == []) = shuf ps := by rw [← hrs]; exact plain_told hp6
            refine Stop.go (eq_data (rpd_reads (news_at N 9 rfl) hqs (news_drop N 11 rfl)) (rpd_reads (tl := []) (qs := []) (N _ (.head _)).1 .nil (fun p hp => nomatch hp)) (rpd_lay _) (rpd_lay _) (Nat.le_trans (rpd_depth _) (by decide)) units_law ((rpd_eq _ _).trans hP1) ?_)
            (try dsimp only)
            k_steps
            (try dsimp only)
            rename Fr _ _ _ _ => F
            rename News _ _ _ _ => N
            refine Stop.go (eq_data (ppd_reads (news_at N 9 rfl) (news_at N 10 rfl) hm1 (news_at N 11 rfl) hm2) (ppd_reads (vs := []) (us := []) (news_at N 0 rfl) (news_at N 2 rfl) .nil (news_at N 1 rfl) .nil) (ppd_lay _ _) (ppd_lay _ _) (ppd_depth _ _) units_law ((ppd_eq _ _ _ _).trans (plain_round hp6 hsp hss)) ?_)
            (try dsimp only)
            k_steps
            (try dsimp only)
            rename Fr _ _ _ _ => F
            rename News _ _ _ _ => N
            refine Stop.go ((counted_call (Cx.law F X T (by decide)) (news_at N 13 rfl) hzs (plains_len ps)).use F N ?_)
            clear F N
            intro ca cu ck h tk cl F N hcl9 hcu
            obtain ⟨cuv, rfl⟩ := arr cu
            replace hcu : TupsAre cl cuv (crows (plains ps) 32 ++ drows (plains ps) 32) := hcu
            have hP2 : (rs == (crows (plains ps) 32 ++ drows (plains ps) 32)) = true := by
              rw [← hrs, ← plain_counted hp6]; exact beq_self_eq_true _
            (try dsimp only)
            k_steps
            (try dsimp only)
            refine Stop.go (eq_data (rpd_reads (news_at N 13 rfl) hqs (news_drop N 15 rfl)) (rpd_reads (news_at N 0 rfl) hcu hcl9) (rpd_lay _) (rpd_lay _) (Nat.le_trans (rpd_depth _) (by decide)) units_law ((rpd_eq _ _).trans hP2) ?_)
            (try dsimp only)
            k_steps
            (try dsimp only)
            refine Stop.go ((walk_call (Cx.law F X T (by decide)) (news_list N (List.mem_of_getElem? (i := 14) rfl)) hzs (by rw [plains_len]; decide) (plains_in ps)).use F N ?_)
            clear F N
            intro wp us wk3 h tk _ F N off7 hwp rfl
            obtain ⟨wpv, rfl⟩ := arr us
            replace hwp : IntsAre wpv (walkL (plains ps) (plains ps).length) := hwp
            rw [plains_len] at hwp
            (try dsimp only)
            k_steps
            (try dsimp only)
            refine Stop.go ((left_call (Cx.law F X T (by decide)) (news_at N 0 rfl) hwp (walkL_len _ _)).use F N ?_)
            clear F N
            intro lt la lb us us' lk lk' h tk F N hla hlb hlx hly
            obtain ⟨lav, rfl⟩ := arr us
            obtain ⟨lbv, rfl⟩ := arr us'
            replace hlx : IntsAre lav _ := hlx
            replace hly : IntsAre lbv _ := hly
            have hP4 : ((ust (walkL (vals ps) 32) (upto 32) 0).1 == again (walkL (plains ps) 32) 32 && (ust (walkL (vals ps) 32) (upto 32) 0).2 == places (walkL (plains ps) 32) 32) = true := by
              rw [plain_left hp6]; simp
            (try dsimp only)
            k_steps
            (try dsimp only)
            refine Stop.go (eq_data (ppd_reads (news_at N 12 rfl) (news_at N 13 rfl) hm1 (news_at N 14 rfl) hm2) (ppd_reads (news_at N 0 rfl) hla hlx hlb hly) (ppd_lay _ _) (ppd_lay _ _) (ppd_depth _ _) units_law ((ppd_eq _ _ _ _).trans hP4) ?_)
            (try dsimp only)
            k_steps
      · refine ⟨rl, .nil, fun p hp => hp, rfl⟩
end Mine
theorem Mine.afreshL1 : True ∧ True := by
  w_top off
  walk1 <;> trivial
theorem PySem.Challenge.cw_ox0031_01_holds : PySem.Challenge.rw_ox0031_01.Holds := by
  exact Mine.law_holds
