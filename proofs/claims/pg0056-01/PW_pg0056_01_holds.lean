import PyProof.Rows.All
import Wide.All
import OpenK.AllK
import Wide.FinOn
import PySem.Challenge.RW_pg0056_01
set_option Elab.async false

section
namespace Mine

/-- number of base-64 digits -/
noncomputable def sz (n : Nat) : Nat := if n < 64 then 1 else sz (n / 64) + 1
termination_by n
decreasing_by omega

theorem sz_lt {n : Nat} (h : n < 64) : sz n = 1 := by rw [sz]; simp [h]
theorem sz_ge {n : Nat} (h : ¬ n < 64) : sz n = sz (n/64) + 1 := by rw [sz]; simp [h]
theorem sz_pos (n : Nat) : 1 ≤ sz n := by rw [sz]; split <;> omega
theorem lt_pow_sz (n : Nat) : n < 64 ^ sz n := by
  induction n using Nat.strongRecOn with
  | ind n ih =>
    by_cases h : n < 64
    · rw [sz_lt h]; omega
    · rw [sz_ge h, Nat.pow_succ]
      have := ih (n/64) (by omega)
      omega
theorem pow_sz_le (n : Nat) (h : 1 < sz n) : 64 ^ (sz n - 1) ≤ n := by
  induction n using Nat.strongRecOn with
  | ind n ih =>
    by_cases h1 : n < 64
    · rw [sz_lt h1] at h; omega
    · rw [sz_ge h1]
      simp only [Nat.add_sub_cancel]
      by_cases h2 : n/64 < 64
      · rw [sz_lt h2]; omega
      · have := ih (n/64) (by omega) (by rw [sz_ge h2]; have := sz_pos (n/64/64); omega)
        have e : sz (n/64) = (sz (n/64) - 1) + 1 := by have := sz_pos (n/64); omega
        rw [e, Nat.pow_succ]; omega
theorem pow_le_iff {n k : Nat} (h1 : 1 ≤ k) : 64 ^ k ≤ n ↔ k < sz n := by
  constructor
  · intro h
    by_cases hk : k < sz n
    · exact hk
    · exfalso
      have a := lt_pow_sz n
      have b : 64 ^ sz n ≤ 64 ^ k := Nat.pow_le_pow_right (by omega) (by omega)
      omega
  · intro h
    have a := pow_sz_le n (by omega)
    have b : 64 ^ k ≤ 64 ^ (sz n - 1) := Nat.pow_le_pow_right (by omega) (by omega)
    omega
theorem sz_le_of_lt {n k : Nat} (h1 : 1 ≤ k) (h : n < 64 ^ k) : sz n ≤ k := by
  by_cases hk : k < sz n
  · have := (pow_le_iff h1).mpr hk; omega
  · omega
theorem div_lt_pow {n : Nat} : n / 64 < 64 ^ (sz n - 1) := by
  have a := lt_pow_sz n
  have e : sz n = (sz n - 1) + 1 := by have := sz_pos n; omega
  rw [e, Nat.pow_succ] at a; omega

/-- the last d octets of a number, its highest first -/
noncomputable def tl (n : Nat) : Nat → List Nat
  | 0 => []
  | d + 1 => (n / 64 ^ d % 64 + if 0 < d then 64 else 0) :: tl n d
noncomputable def oct (n : Nat) : List Nat := tl n (sz n)
noncomputable def octs (ns : List Nat) : List Nat := ns.flatMap oct

theorem tl_succ (n d : Nat) : tl n (d + 1) = (n / 64 ^ d % 64 + if 0 < d then 64 else 0) :: tl n d := rfl
theorem octs_nil : octs [] = [] := rfl
theorem octs_cons (n : Nat) (ns : List Nat) : octs (n :: ns) = oct n ++ octs ns := by simp [octs]
theorem octs_append (a b : List Nat) : octs (a ++ b) = octs a ++ octs b := by simp [octs]
theorem tl_length (n d : Nat) : (tl n d).length = d := by induction d with
  | zero => rfl
  | succ d ih => simp [tl, ih]
theorem tl_lt (n d : Nat) : ∀ c ∈ tl n d, c < 128 := by
  induction d with
  | zero => intro c h; cases h
  | succ d ih =>
    intro c h
    rw [tl] at h
    rcases List.mem_cons.mp h with rfl | h
    · split <;> omega
    · exact ih c h
theorem octs_lt (ns : List Nat) : ∀ c ∈ octs ns, c < 128 := by
  intro c h
  obtain ⟨n, _, h⟩ := List.mem_flatMap.mp h
  exact tl_lt _ _ c h

/-- base-64 digits, c of them -/
noncomputable def dig (n : Nat) : Nat → List Nat
  | 0 => []
  | c + 1 => (n / 64 ^ c % 64) :: dig n c
theorem dig_length (n c : Nat) : (dig n c).length = c := by induction c with
  | zero => rfl
  | succ d ih => simp [dig, ih]
theorem mod_step (m c : Nat) : m % 64 ^ (c + 1) = m / 64 ^ c % 64 * 64 ^ c + m % 64 ^ c := by
  rw [Nat.pow_succ, Nat.mod_mul]
  rw [Nat.add_comm, Nat.mul_comm]
theorem dig_eq_iff (m m' c : Nat) : dig m c = dig m' c ↔ m % 64 ^ c = m' % 64 ^ c := by
  induction c with
  | zero => simp [dig, Nat.mod_one]
  | succ c ih =>
    rw [dig, dig, List.cons.injEq, ih, mod_step m, mod_step m']
    have a : m % 64 ^ c < 64 ^ c := Nat.mod_lt _ (Nat.pow_pos (by omega))
    have b : m' % 64 ^ c < 64 ^ c := Nat.mod_lt _ (Nat.pow_pos (by omega))
    generalize m % 64 ^ c = r at *
    generalize m' % 64 ^ c = r' at *
    generalize m / 64 ^ c % 64 = q at *
    generalize m' / 64 ^ c % 64 = q' at *
    generalize 64 ^ c = p at *
    constructor
    · rintro ⟨rfl, rfl⟩; rfl
    · intro h
      have e1 : (q * p + r) / p = q := by
        rw [Nat.mul_comm, Nat.mul_add_div (by omega), Nat.div_eq_of_lt a, Nat.add_zero]
      have e2 : (q' * p + r') / p = q' := by
        rw [Nat.mul_comm, Nat.mul_add_div (by omega), Nat.div_eq_of_lt b, Nat.add_zero]
      have hq : q = q' := by rw [← e1, ← e2, h]
      subst hq
      exact ⟨rfl, by omega⟩

/-- the first octets: d - e of them -/
theorem tl_split (n e c : Nat) (he : 1 ≤ e) : tl n (e + c) = (dig (n / 64 ^ e) c).map (· + 64) ++ tl n e := by
  induction c with
  | zero => simp [dig]
  | succ c ih =>
    rw [← Nat.add_assoc, tl, ih, dig, if_pos (by omega), List.map_cons, List.cons_append, Nat.pow_add, Nat.div_div_eq_div_mul]
theorem tl_one (n : Nat) : tl n 1 = [n % 64] := by simp [tl]
/-- a number's octets but the last -/
noncomputable def pre (n : Nat) : List Nat := (dig (n / 64) (sz n - 1)).map (· + 64)
theorem oct_pre (n : Nat) : oct n = pre n ++ [n % 64] := by
  have e : sz n = 1 + (sz n - 1) := by have := sz_pos n; omega
  rw [oct, e, tl_split n 1 (sz n - 1) (Nat.le_refl _), tl_one, pre, Nat.pow_one]
theorem pre_ge (n : Nat) : ∀ c ∈ pre n, 64 ≤ c := by
  intro c h
  obtain ⟨d, _, rfl⟩ := List.mem_map.mp h
  omega
theorem pre_length (n : Nat) : (pre n).length = sz n - 1 := by simp [pre, dig_length]

theorem tl_code : ∀ (d e m n : Nat) (x y : List Nat), 1 ≤ d → 1 ≤ e → tl m d ++ x = tl n e ++ y → d = e ∧ tl m d = tl n e ∧ x = y
  | 0, _, _, _, _, _, h, _, _ => by omega
  | _ + 1, 0, _, _, _, _, _, h, _ => by omega
  | 1, 1, m, n, x, y, _, _, h => by
    simp only [tl, Nat.lt_irrefl, if_false, List.cons_append, List.nil_append, List.cons.injEq] at h
    exact ⟨rfl, by simp only [tl, Nat.lt_irrefl, if_false, h.1], h.2⟩
  | 1, e + 2, m, n, x, y, _, _, h => by
    simp only [tl, Nat.lt_irrefl, if_false, List.cons_append, List.nil_append, List.cons.injEq] at h
    have := h.1
    rw [if_pos (by omega)] at this
    omega
  | d + 2, 1, m, n, x, y, _, _, h => by
    simp only [tl, Nat.lt_irrefl, if_false, List.cons_append, List.nil_append, List.cons.injEq] at h
    have := h.1
    rw [if_pos (by omega)] at this
    omega
  | d + 2, e + 2, m, n, x, y, _, _, h => by
    rw [tl_succ m (d + 1), tl_succ n (e + 1), List.cons_append, List.cons_append, List.cons.injEq] at h
    obtain ⟨a, b, c⟩ := tl_code (d + 1) (e + 1) m n x y (by omega) (by omega) h.2
    have ha : d = e := by omega
    subst ha
    refine ⟨rfl, ?_, c⟩
    rw [tl_succ m (d + 1), tl_succ n (d + 1), h.1, b]
theorem tl_eq_mod {m n d : Nat} (h : tl m d = tl n d) : m % 64 ^ d = n % 64 ^ d := by
  rw [← dig_eq_iff]
  induction d with
  | zero => rfl
  | succ d ih =>
    rw [tl, tl, List.cons.injEq] at h
    rw [dig, dig, ih h.2]
    congr 1
    omega
theorem tl_mod_eq {m n d : Nat} (h : m % 64 ^ d = n % 64 ^ d) : tl m d = tl n d := by
  rw [← dig_eq_iff] at h
  induction d with
  | zero => rfl
  | succ d ih =>
    rw [dig, dig, List.cons.injEq] at h
    rw [tl, tl, ih h.2, h.1]

/-! the wanted's language: three 46 are a gap, leftmost first -/
noncomputable def run : List Nat → List Nat → List Nat → Prop
  | [], t, u => t = u
  | c :: p, t, u =>
    match c, p with
    | 46, 46 :: 46 :: q => ∃ t', t' <:+ t ∧ run q t' u
    | c, p => ∃ t', t = c :: t' ∧ run p t' u
termination_by p => p.length

theorem run_gap (q t u : List Nat) : run (46 :: 46 :: 46 :: q) t u ↔ ∃ t', t' <:+ t ∧ run q t' u := by rw [run]
noncomputable def gapAt (c : Nat) (p : List Nat) : Prop := c = 46 ∧ ∃ q, p = 46 :: 46 :: q
theorem run_plain {c : Nat} {p t u : List Nat} (h : ¬ gapAt c p) : run (c :: p) t u ↔ ∃ t', t = c :: t' ∧ run p t' u := by
  rw [run]
  intro q e1 e2
  exact h ⟨e1, q, e2⟩
theorem run_nil (t u : List Nat) : run [] t u ↔ t = u := by rw [run]
theorem gap_cases (c : Nat) (p : List Nat) : (∃ q, c = 46 ∧ p = 46 :: 46 :: q) ∨ ¬ gapAt c p := by
  by_cases h : gapAt c p
  · obtain ⟨a, q, b⟩ := h; exact .inl ⟨q, a, b⟩
  · exact .inr h

theorem run_suffix : ∀ (k : Nat) (p t u : List Nat), p.length ≤ k → run p t u → u <:+ t
  | _, [], t, u, _, h => by rw [run_nil] at h; subst h; exact List.suffix_refl _
  | 0, _ :: _, _, _, hk, _ => by simp at hk
  | k + 1, c :: p, t, u, hk, h => by
    simp only [List.length_cons] at hk
    rcases gap_cases c p with ⟨q, rfl, rfl⟩ | hg
    · rw [run_gap] at h
      obtain ⟨t', a, b⟩ := h
      simp only [List.length_cons] at hk
      exact (run_suffix k q t' u (by omega) b).trans a
    · rw [run_plain hg] at h
      obtain ⟨t', rfl, b⟩ := h
      exact (run_suffix k p t' u (by omega) b).trans (List.suffix_cons _ _)

theorem run_append : ∀ (k : Nat) (p t u v : List Nat), p.length ≤ k → (run p t u ↔ run p (t ++ v) (u ++ v))
  | _, [], t, u, v, _ => by rw [run_nil, run_nil]; simp
  | 0, _ :: _, _, _, _, hk => by simp at hk
  | k + 1, c :: p, t, u, v, hk => by
    simp only [List.length_cons] at hk
    rcases gap_cases c p with ⟨q, rfl, rfl⟩ | hg
    · rw [run_gap, run_gap]
      simp only [List.length_cons] at hk
      constructor
      · rintro ⟨t', a, b⟩
        refine ⟨t' ++ v, ?_, (run_append k q t' u v (by omega)).mp b⟩
        obtain ⟨z, rfl⟩ := a
        exact ⟨z, by simp⟩
      · rintro ⟨t', a, b⟩
        have hs := run_suffix _ q t' (u ++ v) (Nat.le_refl _) b
        obtain ⟨z, rfl⟩ := hs
        rw [← List.append_assoc] at a b
        refine ⟨z ++ u, ?_, (run_append k q (z ++ u) u v (by omega)).mpr b⟩
        obtain ⟨y, hy⟩ := a
        rw [← List.append_assoc] at hy
        exact ⟨y, List.append_cancel_right hy⟩
    · rw [run_plain hg, run_plain hg]
      constructor
      · rintro ⟨t', rfl, b⟩
        exact ⟨t' ++ v, rfl, (run_append k p t' u v (by omega)).mp b⟩
      · rintro ⟨t', a, b⟩
        have hs := run_suffix _ p t' (u ++ v) (Nat.le_refl _) b
        obtain ⟨z, rfl⟩ := hs
        rw [← List.append_assoc] at a b
        refine ⟨z ++ u, ?_, (run_append k p (z ++ u) u v (by omega)).mpr b⟩
        have : t ++ v = (c :: (z ++ u)) ++ v := a
        exact List.append_cancel_right this

theorem run_pre (q t u : List Nat) : ∀ p : List Nat, (∀ c ∈ p, 64 ≤ c) → (run (p ++ q) t u ↔ ∃ t', t = p ++ t' ∧ run q t' u)
  | [], _ => by simp
  | c :: p, h => by
    have hc := h c (by simp)
    have hg : ¬ gapAt c (p ++ q) := fun g => by have := g.1; omega
    rw [List.cons_append, run_plain hg]
    constructor
    · rintro ⟨t', rfl, b⟩
      obtain ⟨t'', rfl, b'⟩ := (run_pre q t' u p (fun c hc => h c (by simp [hc]))).mp b
      exact ⟨t'', rfl, b'⟩
    · rintro ⟨t', rfl, b⟩
      exact ⟨p ++ t', rfl, (run_pre q _ u p (fun c hc => h c (by simp [hc]))).mpr ⟨t', rfl, b⟩⟩

theorem octs_head {W q : List Nat} (h : octs W = 46 :: q) : ∃ W', W = 46 :: W' ∧ q = octs W' := by
  cases W with
  | nil => cases h
  | cons n W =>
    rw [octs_cons, oct_pre] at h
    have hp := pre_ge n
    cases hn : pre n with
    | nil =>
      rw [hn] at h
      simp only [List.nil_append, List.cons_append, List.cons.injEq] at h
      have hl := pre_length n
      rw [hn] at hl
      have h1 : sz n = 1 := by have := sz_pos n; simp at hl; omega
      have h2 := lt_pow_sz n
      rw [h1] at h2
      refine ⟨W, ?_, h.2.symm⟩
      rw [← h.1]; congr 1; omega
    | cons c r =>
      rw [hn] at h hp
      simp only [List.cons_append, List.cons.injEq] at h
      have := hp c (by simp)
      omega
theorem oct_46 : oct 46 = [46] := by rw [oct, sz_lt (by omega)]; rfl
/-- a gap of the numbers is a gap of the octets -/
theorem gap_numbers (c : Nat) (W : List Nat) : gapAt c (octs W) ↔ c = 46 ∧ W.take 2 = [46, 46] := by
  constructor
  · rintro ⟨rfl, q, e⟩
    obtain ⟨W', rfl, e'⟩ := octs_head e
    obtain ⟨W'', rfl, _⟩ := octs_head e'.symm
    exact ⟨rfl, rfl⟩
  · rintro ⟨rfl, h⟩
    match W, h with
    | a :: b :: W, h =>
      simp only [List.take_succ_cons, List.take_zero, List.cons.injEq, and_true] at h
      obtain ⟨rfl, rfl⟩ := h
      exact ⟨rfl, octs W, by rw [octs_cons, octs_cons, oct_46]; rfl⟩
    | [a], h => simp at h
    | [], h => simp at h

theorem run_number {n : Nat} {W t u : List Nat} (h : ¬ (n % 64 = 46 ∧ W.take 2 = [46, 46])) :
    run (octs (n :: W)) t u ↔ ∃ t', t = oct n ++ t' ∧ run (octs W) t' u := by
  rw [octs_cons, oct_pre, List.append_assoc, run_pre _ _ _ _ (pre_ge n)]
  have hg : ¬ gapAt (n % 64) (octs W) := fun g => h ((gap_numbers _ _).mp g)
  constructor
  · rintro ⟨t', rfl, b⟩
    rw [List.singleton_append, run_plain hg] at b
    obtain ⟨t'', rfl, b⟩ := b
    exact ⟨t'', by simp, b⟩
  · rintro ⟨t', rfl, b⟩
    refine ⟨n % 64 :: t', by simp, ?_⟩
    rw [List.singleton_append, run_plain hg]
    exact ⟨t', rfl, b⟩
theorem run_gapNumber {n : Nat} {W t u : List Nat} (h : n % 64 = 46) :
    run (octs (n :: 46 :: 46 :: W)) t u ↔ ∃ t', t = pre n ++ t' ∧ ∃ t'', t'' <:+ t' ∧ run (octs W) t'' u := by
  rw [octs_cons, octs_cons, octs_cons, oct_46, oct_pre, h, List.append_assoc, run_pre _ _ _ _ (pre_ge n)]
  constructor
  · rintro ⟨t', rfl, b⟩
    rw [List.singleton_append, List.singleton_append, List.singleton_append, run_gap] at b
    exact ⟨t', rfl, b⟩
  · rintro ⟨t', rfl, b⟩
    refine ⟨t', rfl, ?_⟩
    rw [List.singleton_append, List.singleton_append, List.singleton_append, run_gap]
    exact b
end Mine
end

section
namespace Mine
noncomputable def szAt (S : List Nat) (i : Nat) : Nat := match S[i]? with
  | some n => sz n
  | none => 0
abbrev Pl := Nat × Nat
noncomputable def Valid (S : List Nat) (p : Pl) : Prop := (p.1 < S.length ∧ 1 ≤ p.2 ∧ p.2 ≤ szAt S p.1) ∨ (p.1 = S.length ∧ p.2 = 0)
noncomputable def suf (S : List Nat) (p : Pl) : List Nat := tl (S.getD p.1 0) p.2 ++ octs (S.drop (p.1 + 1))
noncomputable def Rb (p q : Pl) : Prop := p.1 < q.1 ∨ (p.1 = q.1 ∧ q.2 ≤ p.2)

theorem szAt_lt {S : List Nat} {i : Nat} (h : i < S.length) : szAt S i = sz (S.getD i 0) := by simp [szAt, h]
theorem szAt_ge {S : List Nat} {i : Nat} (h : S.length ≤ i) : szAt S i = 0 := by simp [szAt, h]
theorem octs_drop {S : List Nat} {i : Nat} (h : i < S.length) : octs (S.drop i) = oct (S.getD i 0) ++ octs (S.drop (i + 1)) := by
  rw [List.drop_eq_getElem_cons h, octs_cons]; simp [h]
theorem suf_szAt (S : List Nat) (k : Nat) : suf S (k, szAt S k) = octs (S.drop k) := by
  by_cases h : k < S.length
  · rw [octs_drop h, suf, szAt_lt h]; rfl
  · rw [suf, szAt_ge (by omega), List.drop_eq_nil_of_le (by omega), List.drop_eq_nil_of_le (by omega)]; rfl
theorem valid_szAt {S : List Nat} {k : Nat} (h : k ≤ S.length) : Valid S (k, szAt S k) := by
  by_cases h' : k < S.length
  · exact .inl ⟨h', by rw [szAt_lt h']; exact sz_pos _, Nat.le_refl _⟩
  · exact .inr ⟨by show k = _; omega, szAt_ge (by omega)⟩
theorem octs_drop_suffix {S : List Nat} {i j : Nat} (h : i ≤ j) : octs (S.drop j) <:+ octs (S.drop i) := by
  have e : S.drop j = (S.drop i).drop (j - i) := by rw [List.drop_drop]; congr 1; omega
  have : octs (S.drop i) = octs ((S.drop i).take (j - i)) ++ octs ((S.drop i).drop (j - i)) := by rw [← octs_append, List.take_append_drop]
  rw [this, ← e]
  exact List.suffix_append _ _
theorem tl_suffix (n : Nat) {d e : Nat} (h : d ≤ e) : tl n d <:+ tl n e := by
  induction e with
  | zero => have : d = 0 := by omega
            subst this; exact List.suffix_refl _
  | succ e ih =>
    by_cases h' : d = e + 1
    · subst h'; exact List.suffix_refl _
    · exact (ih (by omega)).trans (List.suffix_cons _ _)
theorem suf_le_octs {S : List Nat} {q : Pl} (hq : Valid S q) {j : Nat} (hj : j ≤ q.1) : suf S q <:+ octs (S.drop j) := by
  refine List.IsSuffix.trans ?_ (octs_drop_suffix hj)
  rcases hq with ⟨h1, h2, h3⟩ | ⟨h1, h2⟩
  · rw [octs_drop h1, suf]
    rw [szAt_lt h1] at h3
    obtain ⟨z, hz⟩ := tl_suffix (S.getD q.1 0) h3
    exact ⟨z, by rw [← List.append_assoc, hz]; rfl⟩
  · rw [suf, h2, h1, List.drop_eq_nil_of_le (by omega)]; exact List.nil_suffix
theorem suf_length (S : List Nat) (p : Pl) : (suf S p).length = p.2 + (octs (S.drop (p.1 + 1))).length := by rw [suf, List.length_append, tl_length]
theorem suffix_of_rb {S : List Nat} {p q : Pl} (hq : Valid S q) (h : Rb p q) : suf S q <:+ suf S p := by
  rcases h with h | ⟨h1, h2⟩
  · exact (suf_le_octs hq (by omega : p.1 + 1 ≤ q.1)).trans (by rw [suf]; exact List.suffix_append _ _)
  · rw [suf, suf, ← h1]
    obtain ⟨z, hz⟩ := tl_suffix (S.getD p.1 0) h2
    exact ⟨z, by rw [← List.append_assoc, hz]⟩
theorem rb_of_suffix {S : List Nat} {p q : Pl} (hp : Valid S p) (hq : Valid S q) (h : suf S q <:+ suf S p) : Rb p q := by
  have hl := h.length_le
  rw [suf_length, suf_length] at hl
  by_cases c : p.1 < q.1
  · exact .inl c
  · by_cases e : p.1 = q.1
    · rw [e] at hl; exact .inr ⟨e, by omega⟩
    · exfalso
      have := (suf_le_octs hp (by omega : q.1 + 1 ≤ p.1)).length_le
      rw [suf_length] at this
      rcases hq with ⟨_, h2, _⟩ | ⟨h2, _⟩
      · omega
      · rcases hp with ⟨h3, _⟩ | ⟨h3, _⟩ <;> omega
theorem suf_inj {S : List Nat} {p q : Pl} (hp : Valid S p) (hq : Valid S q) (h : suf S p = suf S q) : p = q := by
  have a := rb_of_suffix hp hq (h ▸ List.suffix_refl _)
  have b := rb_of_suffix hq hp (h ▸ List.suffix_refl _)
  rcases a with a | ⟨a1, a2⟩ <;> rcases b with b | ⟨b1, b2⟩ <;> first | omega | (exact Prod.ext (by omega) (by omega))
theorem suffix_append_cases {t a b : List Nat} (h : t <:+ a ++ b) : t <:+ b ∨ ∃ a', a' <:+ a ∧ t = a' ++ b := by
  obtain ⟨z, hz⟩ := h
  rcases List.append_eq_append_iff.mp hz with ⟨w, h1, h2⟩ | ⟨w, h1, h2⟩
  · exact .inr ⟨w, ⟨z, h1.symm⟩, h2⟩
  · exact .inl ⟨w, h2.symm⟩
theorem tl_of_suffix {n d : Nat} {a : List Nat} (h : a <:+ tl n d) : ∃ e, e ≤ d ∧ a = tl n e := by
  induction d with
  | zero => exact ⟨0, Nat.le_refl _, by simpa [tl] using h⟩
  | succ d ih =>
    rw [tl_succ, List.suffix_cons_iff] at h
    rcases h with rfl | h
    · exact ⟨d + 1, Nat.le_refl _, rfl⟩
    · obtain ⟨e, he, r⟩ := ih h
      exact ⟨e, by omega, r⟩
theorem suf_surj_aux {S t : List Nat} : ∀ (k j : Nat), S.length - j ≤ k → t <:+ octs (S.drop j) → ∃ q, Valid S q ∧ suf S q = t := by
  intro k
  induction k with
  | zero =>
    intro j hj h
    rw [List.drop_eq_nil_of_le (by omega)] at h
    have ht : t = [] := by simpa [octs_nil] using h
    subst ht
    exact ⟨(S.length, 0), .inr ⟨rfl, rfl⟩, by rw [suf, List.drop_eq_nil_of_le (by simp)]; rfl⟩
  | succ k ih =>
    intro j hj h
    by_cases hlt : j < S.length
    · rw [octs_drop hlt] at h
      rcases suffix_append_cases h with h | ⟨a, h1, h2⟩
      · exact ih (j + 1) (by omega) h
      · obtain ⟨e, he, rfl⟩ := tl_of_suffix h1
        by_cases h0 : e = 0
        · subst h0
          exact ih (j + 1) (by omega) (by rw [h2]; exact List.suffix_refl _)
        · exact ⟨(j, e), .inl ⟨hlt, by show 1 ≤ e; omega, by rw [szAt_lt hlt]; exact he⟩, h2.symm⟩
    · exact ih j (by omega) h
theorem suf_surj {S t : List Nat} {p : Pl} (hp : Valid S p) (h : t <:+ suf S p) : ∃ q, Valid S q ∧ suf S q = t ∧ Rb p q := by
  obtain ⟨q, hq, e⟩ := suf_surj_aux S.length 0 (by omega) (h.trans (suf_le_octs hp (Nat.zero_le _)))
  exact ⟨q, hq, e, rb_of_suffix hp hq (e ▸ h)⟩

noncomputable def keepPlain (S : List Nat) (n : Nat) (p : Pl) : Bool := decide (p.2 = sz n) && decide (S.getD p.1 0 % 64 ^ p.2 = n)
noncomputable def keepGap (S : List Nat) (n : Nat) (p : Pl) : Bool := decide (sz n ≤ p.2) && decide (S.getD p.1 0 % 64 ^ p.2 / 64 ^ (p.2 - sz n + 1) = n / 64)
noncomputable def gapPl (S : List Nat) (p : Pl) : List Pl :=
  ((List.range p.2).map fun j => (p.1, p.2 - j)) ++ (List.range (S.length - (p.1 + 1))).flatMap (fun i => (List.range (szAt S (p.1 + 1 + i))).map fun j => (p.1 + 1 + i, szAt S (p.1 + 1 + i) - j)) ++ [(S.length, 0)]
noncomputable def gapOf (S : List Nat) : List Pl → List Pl
  | [] => []
  | p :: _ => gapPl S p
noncomputable def gapIn (S : List Nat) (n : Nat) (ps : List Pl) : List Pl := if 1 < sz n then (ps.filter (keepGap S n)).map (fun p => (p.1, p.2 - sz n + 1)) else ps
noncomputable def plainIn (S : List Nat) (n : Nat) (ps : List Pl) : List Pl := (ps.filter (keepPlain S n)).map (fun p => (p.1 + 1, szAt S (p.1 + 1)))
noncomputable def reachGo (S : List Nat) : List Nat → List Pl → List Pl
  | [], ps => ps
  | n :: W, ps => if n % 64 = 46 ∧ W.take 2 = [46, 46] then reachGo S (W.drop 2) (gapOf S (gapIn S n ps)) else reachGo S W (plainIn S n ps)
termination_by W => W.length
decreasing_by all_goals (simp only [List.length_drop, List.length_cons]; omega)
theorem reachGo_nil (S : List Nat) : ∀ (k : Nat) (W : List Nat), W.length ≤ k → reachGo S W [] = []
  | _, [], _ => by rw [reachGo]
  | 0, _ :: _, h => by simp at h
  | k + 1, n :: W, h => by
    simp only [List.length_cons] at h
    rw [reachGo]
    have e1 : gapOf S (gapIn S n []) = [] := by unfold gapIn; split <;> rfl
    have e2 : plainIn S n [] = [] := rfl
    rw [e1, e2]
    split
    · exact reachGo_nil S k _ (by rw [List.length_drop]; omega)
    · exact reachGo_nil S k _ (by omega)

theorem plain_iff {S : List Nat} {n : Nat} {p : Pl} {t : List Nat} (hp : Valid S p) : suf S p = oct n ++ t ↔ keepPlain S n p = true ∧ t = octs (S.drop (p.1 + 1)) := by
  simp only [keepPlain, Bool.and_eq_true, decide_eq_true_eq]
  have hs := sz_pos n
  constructor
  · intro h
    have h1 : 1 ≤ p.2 := by
      rcases hp with ⟨_, h2, _⟩ | ⟨h1, h2⟩
      · exact h2
      · rw [suf, h2, h1, List.drop_eq_nil_of_le (by omega)] at h
        have := congrArg List.length h
        simp only [List.length_append, oct, tl_length, octs_nil, List.length_nil] at this
        omega
    obtain ⟨a, b, c⟩ := tl_code _ _ _ _ _ _ h1 hs h
    refine ⟨⟨a, ?_⟩, c.symm⟩
    rw [← a] at b
    rw [tl_eq_mod b, a]
    exact Nat.mod_eq_of_lt (lt_pow_sz n)
  · rintro ⟨⟨a, b⟩, rfl⟩
    rw [suf, oct, a]
    congr 1
    refine tl_mod_eq ?_
    rw [← a, b, a]
    exact (Nat.mod_eq_of_lt (lt_pow_sz n)).symm
theorem plainIn_mem {S : List Nat} {n : Nat} {ps : List Pl} (hv : ∀ p ∈ ps, Valid S p) (t : List Nat) :
    (∃ p ∈ ps, suf S p = oct n ++ t) ↔ ∃ p ∈ plainIn S n ps, suf S p = t := by
  constructor
  · rintro ⟨p, hp, h⟩
    obtain ⟨a, rfl⟩ := (plain_iff (hv p hp)).mp h
    exact ⟨_, List.mem_map.mpr ⟨p, List.mem_filter.mpr ⟨hp, a⟩, rfl⟩, suf_szAt _ _⟩
  · rintro ⟨p, hp, rfl⟩
    obtain ⟨q, hq, rfl⟩ := List.mem_map.mp hp
    obtain ⟨hq, a⟩ := List.mem_filter.mp hq
    exact ⟨q, hq, (plain_iff (hv q hq)).mpr ⟨a, suf_szAt _ _⟩⟩
theorem plainIn_valid {S : List Nat} {n : Nat} {ps : List Pl} (hv : ∀ p ∈ ps, Valid S p) : ∀ p ∈ plainIn S n ps, Valid S p := by
  intro p hp
  obtain ⟨q, hq, rfl⟩ := List.mem_map.mp hp
  obtain ⟨hq, a⟩ := List.mem_filter.mp hq
  simp only [keepPlain, Bool.and_eq_true, decide_eq_true_eq] at a
  rcases hv q hq with ⟨h1, _⟩ | ⟨_, h2⟩
  · exact valid_szAt h1
  · have := sz_pos n; omega
theorem plainIn_sorted {S : List Nat} {n : Nat} {ps : List Pl} (hs : ps.Pairwise Rb) : (plainIn S n ps).Pairwise Rb := by
  refine List.Pairwise.map _ ?_ (hs.filter _)
  rintro a b (h | ⟨h, _⟩)
  · exact .inl (by show a.1 + 1 < b.1 + 1; omega)
  · exact .inr ⟨by show a.1 + 1 = b.1 + 1; omega, by rw [h]; exact Nat.le_refl _⟩

theorem getElem_tl_last (n d : Nat) (x : List Nat) : (tl n (d + 1) ++ x)[d]? = some (n % 64) := by
  induction d with
  | zero => simp [tl]
  | succ d ih => rw [tl_succ, List.cons_append, List.getElem?_cons_succ]; exact ih
theorem gap_iff {S : List Nat} {n : Nat} {p : Pl} {t : List Nat} (hp : Valid S p) (hn : 1 < sz n) :
    suf S p = pre n ++ t ↔ keepGap S n p = true ∧ t = suf S (p.1, p.2 - sz n + 1) := by
  simp only [keepGap, Bool.and_eq_true, decide_eq_true_eq]
  have key : sz n ≤ p.2 → (suf S p = (dig (S.getD p.1 0 / 64 ^ (p.2 - sz n + 1)) (sz n - 1)).map (· + 64) ++ suf S (p.1, p.2 - sz n + 1)) := by
    intro h
    rw [suf, suf, ← List.append_assoc, ← tl_split _ _ _ (by omega)]
    congr 2
    omega
  have cond : sz n ≤ p.2 → ((dig (S.getD p.1 0 / 64 ^ (p.2 - sz n + 1)) (sz n - 1) = dig (n / 64) (sz n - 1)) ↔ S.getD p.1 0 % 64 ^ p.2 / 64 ^ (p.2 - sz n + 1) = n / 64) := by
    intro h
    rw [dig_eq_iff]
    have e : 64 ^ p.2 = 64 ^ (p.2 - sz n + 1) * 64 ^ (sz n - 1) := by rw [← Nat.pow_add]; congr 1; omega
    rw [e, Nat.mod_mul_right_div_self, Nat.mod_eq_of_lt (a := n / 64) div_lt_pow]
  constructor
  · intro h
    have h1 : sz n ≤ p.2 := by
      by_cases hc : sz n ≤ p.2
      · exact hc
      · exfalso
        have hlen := pre_length n
        rcases hp with ⟨_, h2, _⟩ | ⟨h1, h2⟩
        · have e : p.2 = (p.2 - 1) + 1 := by omega
          have a : (suf S p)[p.2 - 1]? = some (S.getD p.1 0 % 64) := by rw [suf, e]; exact getElem_tl_last _ _ _
          rw [h, List.getElem?_append_left (by omega)] at a
          have := pre_ge n _ (List.mem_of_getElem? a)
          omega
        · rw [suf, h2, h1, List.drop_eq_nil_of_le (by omega)] at h
          have := congrArg List.length h
          simp only [List.length_append, hlen, tl_length, octs_nil, List.length_nil] at this
          omega
    have k := key h1
    rw [h] at k
    have hl : (pre n).length = ((dig (S.getD p.1 0 / 64 ^ (p.2 - sz n + 1)) (sz n - 1)).map (· + 64)).length := by rw [pre_length, List.length_map, dig_length]
    obtain ⟨a, b⟩ := List.append_inj k hl
    refine ⟨⟨h1, (cond h1).mp ?_⟩, b⟩
    exact (List.map_inj_right (fun x y (e : x + 64 = y + 64) => by omega)).mp a.symm
  · rintro ⟨⟨h1, h2⟩, rfl⟩
    rw [key h1, (cond h1).mpr h2]; rfl
theorem gapIn_mem {S : List Nat} {n : Nat} {ps : List Pl} (hv : ∀ p ∈ ps, Valid S p) (t : List Nat) :
    (∃ p ∈ ps, suf S p = pre n ++ t) ↔ ∃ p ∈ gapIn S n ps, suf S p = t := by
  unfold gapIn
  split
  · rename_i hn
    constructor
    · rintro ⟨p, hp, h⟩
      obtain ⟨a, rfl⟩ := (gap_iff (hv p hp) hn).mp h
      exact ⟨_, List.mem_map.mpr ⟨p, List.mem_filter.mpr ⟨hp, a⟩, rfl⟩, rfl⟩
    · rintro ⟨p, hp, rfl⟩
      obtain ⟨q, hq, rfl⟩ := List.mem_map.mp hp
      obtain ⟨hq, a⟩ := List.mem_filter.mp hq
      exact ⟨q, hq, (gap_iff (hv q hq) hn).mpr ⟨a, rfl⟩⟩
  · rename_i hn
    have : pre n = [] := by
      have hl := pre_length n
      have := sz_pos n
      exact List.eq_nil_of_length_eq_zero (by omega)
    rw [this]; simp
theorem gapIn_valid {S : List Nat} {n : Nat} {ps : List Pl} (hv : ∀ p ∈ ps, Valid S p) : ∀ p ∈ gapIn S n ps, Valid S p := by
  unfold gapIn
  split
  · intro p hp
    obtain ⟨q, hq, rfl⟩ := List.mem_map.mp hp
    obtain ⟨hq, a⟩ := List.mem_filter.mp hq
    simp only [keepGap, Bool.and_eq_true, decide_eq_true_eq] at a
    rcases hv q hq with ⟨h1, h2, h3⟩ | ⟨_, h2⟩
    · exact .inl ⟨h1, by show 1 ≤ q.2 - sz n + 1; omega, by show q.2 - sz n + 1 ≤ szAt S q.1; have := sz_pos n; omega⟩
    · have := sz_pos n; omega
  · exact hv
theorem gapIn_sorted {S : List Nat} {n : Nat} {ps : List Pl} (hs : ps.Pairwise Rb) : (gapIn S n ps).Pairwise Rb := by
  unfold gapIn
  split
  · refine List.Pairwise.map _ ?_ (hs.filter _)
    rintro a b (h | ⟨h, h'⟩)
    · exact .inl h
    · exact .inr ⟨h, by show b.2 - sz n + 1 ≤ a.2 - sz n + 1; omega⟩
  · exact hs
theorem gapPl_mem {S : List Nat} {p q : Pl} (hp : Valid S p) : q ∈ gapPl S p ↔ Valid S q ∧ Rb p q := by
  obtain ⟨a, b⟩ := p
  obtain ⟨i, d⟩ := q
  simp only [gapPl, List.mem_append, List.mem_map, List.mem_range, List.mem_flatMap, List.mem_singleton, Prod.mk.injEq]
  constructor
  · rintro ((⟨j, hj, rfl, rfl⟩ | ⟨i', hi, j, hj, rfl, rfl⟩) | ⟨rfl, rfl⟩)
    · refine ⟨?_, .inr ⟨rfl, by show b - j ≤ b; omega⟩⟩
      rcases hp with ⟨h1, h2, h3⟩ | ⟨_, h2⟩
      · exact .inl ⟨h1, by show 1 ≤ b - j; omega, by show b - j ≤ szAt S a; simp only at h3; omega⟩
      · simp only at h2; omega
    · exact ⟨.inl ⟨by show a + 1 + i' < _; omega, by show 1 ≤ szAt S (a + 1 + i') - j; omega, by show szAt S (a + 1 + i') - j ≤ szAt S (a + 1 + i'); omega⟩, .inl (by show a < a + 1 + i'; omega)⟩
    · refine ⟨.inr ⟨rfl, rfl⟩, ?_⟩
      rcases hp with ⟨h1, _⟩ | ⟨h1, h2⟩
      · exact .inl h1
      · exact .inr ⟨h1, Nat.zero_le _⟩
  · rintro ⟨hq, h | ⟨h1, h2⟩⟩
    · simp only at h
      rcases hq with ⟨q1, q2, q3⟩ | ⟨q1, q2⟩
      · simp only at q1 q2 q3
        refine .inl (.inr ⟨i - (a + 1), by omega, szAt S i - d, ?_⟩)
        have e : a + 1 + (i - (a + 1)) = i := by omega
        rw [e]
        exact ⟨by omega, rfl, by omega⟩
      · exact .inr ⟨q1, q2⟩
    · simp only at h1 h2
      subst h1
      rcases hq with ⟨q1, q2, q3⟩ | ⟨q1, q2⟩
      · simp only at q1 q2 q3
        exact .inl (.inl ⟨b - d, by omega, rfl, by omega⟩)
      · exact .inr ⟨q1, q2⟩
theorem range_sorted (i d : Nat) : ((List.range d).map fun j => ((i, d - j) : Pl)).Pairwise Rb := by
  refine List.Pairwise.map _ ?_ (List.pairwise_lt_range (n := d))
  intro a b h
  exact .inr ⟨rfl, by show d - b ≤ d - a; omega⟩
theorem gapPl_sorted {S : List Nat} {p : Pl} (hp : Valid S p) : (gapPl S p).Pairwise Rb := by
  rw [gapPl, List.pairwise_append, List.pairwise_append]
  refine ⟨⟨range_sorted _ _, ?_, ?_⟩, List.pairwise_singleton _ _, ?_⟩
  · rw [List.pairwise_flatMap]
    refine ⟨fun i _ => range_sorted _ _, ?_⟩
    refine List.Pairwise.imp ?_ (List.pairwise_lt_range (n := S.length - (p.1 + 1)))
    intro a b h x hx y hy
    obtain ⟨j, _, rfl⟩ := List.mem_map.mp hx
    obtain ⟨k, _, rfl⟩ := List.mem_map.mp hy
    exact .inl (by show p.1 + 1 + a < p.1 + 1 + b; omega)
  · intro x hx y hy
    obtain ⟨j, _, rfl⟩ := List.mem_map.mp hx
    obtain ⟨i, _, hy⟩ := List.mem_flatMap.mp hy
    obtain ⟨k, _, rfl⟩ := List.mem_map.mp hy
    exact .inl (by show p.1 < p.1 + 1 + i; omega)
  · intro x hx y hy
    rw [List.mem_singleton.mp hy]
    have hv : Valid S x := ((gapPl_mem hp).mp (List.mem_append_left _ (List.mem_append.mpr (List.mem_append.mp hx)))).1
    rcases hv with ⟨h1, _⟩ | ⟨h1, _⟩
    · exact .inl h1
    · exact .inr ⟨h1, Nat.zero_le _⟩

theorem reach_spec {S : List Nat} : ∀ (k : Nat) (W : List Nat) (ps : List Pl), W.length ≤ k → (∀ p ∈ ps, Valid S p) → ps.Pairwise Rb →
    ∀ q, q ∈ reachGo S W ps ↔ Valid S q ∧ ∃ p ∈ ps, run (octs W) (suf S p) (suf S q) := by
  intro k
  induction k with
  | zero =>
    intro W ps hk hv _ q
    have : W = [] := List.eq_nil_of_length_eq_zero (by omega)
    subst this
    rw [reachGo]
    constructor
    · intro h; exact ⟨hv q h, q, h, by rw [octs_nil, run_nil]⟩
    · rintro ⟨a, p, hp, h⟩
      rw [octs_nil, run_nil] at h
      rw [← suf_inj (hv p hp) a h]; exact hp
  | succ k ih =>
    intro W ps hk hv hs q
    cases W with
    | nil =>
      rw [reachGo]
      constructor
      · intro h; exact ⟨hv q h, q, h, by rw [octs_nil, run_nil]⟩
      · rintro ⟨a, p, hp, h⟩
        rw [octs_nil, run_nil] at h
        rw [← suf_inj (hv p hp) a h]; exact hp
    | cons n W =>
      simp only [List.length_cons] at hk
      rw [reachGo]
      split
      · rename_i hg
        obtain ⟨W', rfl⟩ : ∃ W', W = 46 :: 46 :: W' := by
          match W, hg.2 with
          | a :: b :: W, h =>
            simp only [List.take_succ_cons, List.take_zero, List.cons.injEq, and_true] at h
            obtain ⟨rfl, rfl⟩ := h
            exact ⟨W, rfl⟩
          | [a], h => simp at h
          | [], h => simp at h
        have hv1 := gapIn_valid (n := n) hv
        have hs1 := gapIn_sorted (S := S) (n := n) hs
        have hm := fun t => gapIn_mem (n := n) hv t
        have hv2 : ∀ p ∈ gapOf S (gapIn S n ps), Valid S p := by
          cases hx : gapIn S n ps with
          | nil => intro p hp; cases hp
          | cons x r => intro p hp; exact ((gapPl_mem (hv1 x (by rw [hx]; simp))).mp hp).1
        have hs2 : (gapOf S (gapIn S n ps)).Pairwise Rb := by
          cases hx : gapIn S n ps with
          | nil => exact .nil
          | cons x r => exact gapPl_sorted (hv1 x (by rw [hx]; simp))
        simp only [List.length_cons] at hk
        rw [show List.drop 2 (46 :: 46 :: W') = W' from rfl, ih W' _ (by omega) hv2 hs2 q]
        refine and_congr_right fun _ => ?_
        constructor
        · rintro ⟨p, hp, h⟩
          cases hx : gapIn S n ps with
          | nil => rw [hx] at hp; cases hp
          | cons x r =>
            rw [hx] at hp
            have hxm : x ∈ gapIn S n ps := by rw [hx]; simp
            obtain ⟨p0, hp0, e0⟩ := (hm _).mpr ⟨x, hxm, rfl⟩
            refine ⟨p0, hp0, (run_gapNumber hg.1).mpr ⟨_, e0, suf S p, ?_, h⟩⟩
            obtain ⟨hvp, hr⟩ := (gapPl_mem (hv1 x hxm)).mp hp
            exact suffix_of_rb hvp hr
        · rintro ⟨p, hp, h⟩
          obtain ⟨t1, e1, t2, h2, h⟩ := (run_gapNumber hg.1).mp h
          obtain ⟨p1, hp1, e⟩ := (hm t1).mp ⟨p, hp, e1⟩
          subst e
          cases hx : gapIn S n ps with
          | nil => rw [hx] at hp1; cases hp1
          | cons x r =>
            have hxm : x ∈ gapIn S n ps := by rw [hx]; simp
            have hsuf : suf S p1 <:+ suf S x := by
              rw [hx] at hp1 hs1
              rcases List.mem_cons.mp hp1 with rfl | hp1'
              · exact List.suffix_refl _
              · exact suffix_of_rb (hv1 p1 (by rw [hx]; exact hp1)) ((List.pairwise_cons.mp hs1).1 p1 hp1')
            obtain ⟨q2, hq2, e2, hr⟩ := suf_surj (hv1 x hxm) (h2.trans hsuf)
            exact ⟨q2, (gapPl_mem (hv1 x hxm)).mpr ⟨hq2, hr⟩, by rw [e2]; exact h⟩
      · rename_i hg
        rw [ih W _ (by omega) (plainIn_valid hv) (plainIn_sorted hs) q]
        refine and_congr_right fun _ => ?_
        constructor
        · rintro ⟨p, hp, h⟩
          obtain ⟨p0, hp0, e0⟩ := (plainIn_mem hv _).mpr ⟨p, hp, rfl⟩
          exact ⟨p0, hp0, (run_number hg).mpr ⟨_, e0, h⟩⟩
        · rintro ⟨p, hp, h⟩
          obtain ⟨t1, e1, h⟩ := (run_number hg).mp h
          obtain ⟨p1, hp1, e⟩ := (plainIn_mem hv t1).mp ⟨p, hp, e1⟩
          subst e
          exact ⟨p1, hp1, h⟩

noncomputable def reached (W S : List Nat) : List Pl := reachGo S W [(0, szAt S 0)]
/-- what the numbers tell is what the octets tell -/
theorem reached_spec (W S : List Nat) {k : Nat} (hk : k ≤ S.length) : (k, szAt S k) ∈ reached W S ↔ run (octs W) (octs (S.take k)) [] := by
  rw [reached, reach_spec W.length W _ (Nat.le_refl _) (by intro p hp; rw [List.mem_singleton.mp hp]; exact valid_szAt (Nat.zero_le _)) (List.pairwise_singleton _ _)]
  have e : octs S = octs (S.take k) ++ octs (S.drop k) := by rw [← octs_append, List.take_append_drop]
  constructor
  · rintro ⟨_, p, hp, h⟩
    rw [List.mem_singleton.mp hp, suf_szAt, suf_szAt, List.drop_zero, e] at h
    rw [run_append _ _ _ _ (octs (S.drop k)) (Nat.le_refl _), List.nil_append]; exact h
  · intro h
    refine ⟨valid_szAt hk, _, List.mem_singleton.mpr rfl, ?_⟩
    rw [suf_szAt, suf_szAt, List.drop_zero, e]
    rw [run_append _ _ _ _ (octs (S.drop k)) (Nat.le_refl _), List.nil_append] at h; exact h
end Mine
end

section
namespace Mine
/-! the pieces between the gaps -/
noncomputable def consHead (c : Nat) : List (List Nat) → List (List Nat)
  | [] => [[c]]
  | w :: ws => (c :: w) :: ws
noncomputable def pieces : List Nat → List (List Nat)
  | [] => [[]]
  | c :: p =>
    match c, p with
    | 46, 46 :: 46 :: q => [] :: pieces q
    | c, p => consHead c (pieces p)
termination_by p => p.length
theorem pieces_nil : pieces [] = [[]] := by rw [pieces]
theorem pieces_gap (q : List Nat) : pieces (46 :: 46 :: 46 :: q) = [] :: pieces q := by rw [pieces]
theorem pieces_plain {c : Nat} {p : List Nat} (h : ¬ gapAt c p) : pieces (c :: p) = consHead c (pieces p) := by
  rw [pieces]
  intro q e1 e2
  exact h ⟨e1, q, e2⟩
theorem consHead_ne (c : Nat) (l : List (List Nat)) : consHead c l ≠ [] := by cases l <;> simp [consHead]
theorem pieces_ne (p : List Nat) : pieces p ≠ [] := by
  cases p with
  | nil => rw [pieces_nil]; simp
  | cons c p =>
    rcases gap_cases c p with ⟨q, rfl, rfl⟩ | hg
    · rw [pieces_gap]; simp
    · rw [pieces_plain hg]; exact consHead_ne _ _

noncomputable def mp : List (List Nat) → List Nat → Prop
  | [], _ => False
  | [w], t => t = w
  | w :: v :: ws, t => ∃ u, t = w ++ u ∧ ∃ u', u' <:+ u ∧ mp (v :: ws) u'
theorem mp_cons {w : List Nat} {ws : List (List Nat)} {t : List Nat} (h : ws ≠ []) : mp (w :: ws) t ↔ ∃ u, t = w ++ u ∧ ∃ u', u' <:+ u ∧ mp ws u' := by
  cases ws with
  | nil => exact absurd rfl h
  | cons v ws => rw [mp]
theorem run_pieces : ∀ (k : Nat) (p t : List Nat), p.length ≤ k → (run p t [] ↔ mp (pieces p) t)
  | _, [], t, _ => by rw [run_nil, pieces_nil, mp]
  | 0, _ :: _, _, h => by simp at h
  | k + 1, c :: p, t, hk => by
    simp only [List.length_cons] at hk
    rcases gap_cases c p with ⟨q, rfl, rfl⟩ | hg
    · simp only [List.length_cons] at hk
      rw [run_gap, pieces_gap, mp_cons (pieces_ne q)]
      constructor
      · rintro ⟨t', a, b⟩
        exact ⟨t, rfl, t', a, (run_pieces k q t' (by omega)).mp b⟩
      · rintro ⟨u, e, t', a, b⟩
        rw [List.nil_append] at e
        subst e
        exact ⟨t', a, (run_pieces k q t' (by omega)).mpr b⟩
    · rw [run_plain hg, pieces_plain hg]
      have ih := fun t' => run_pieces k p t' (by omega)
      cases hp : pieces p with
      | nil => exact absurd hp (pieces_ne p)
      | cons w ws =>
        rw [hp] at ih
        rw [consHead]
        cases ws with
        | nil =>
          rw [mp]
          constructor
          · rintro ⟨t', rfl, b⟩; rw [(ih t').mp b]
          · intro h
            subst h
            exact ⟨w, rfl, (ih w).mpr rfl⟩
        | cons v ws =>
          rw [mp]
          constructor
          · rintro ⟨t', rfl, b⟩
            obtain ⟨u, rfl, r⟩ := (ih t').mp b
            exact ⟨u, rfl, r⟩
          · rintro ⟨u, rfl, r⟩
            exact ⟨w ++ u, rfl, (ih _).mpr ⟨u, rfl, r⟩⟩

/-! the search of _ellipsis_match -/
abbrev occ (t w : List Nat) (i : Nat) : Prop := (t.drop i).take w.length = w
noncomputable def findIn (t w : List Nat) (a b : Nat) : Option Nat := (List.range (b + 1)).find? fun i => decide (a ≤ i ∧ i + w.length ≤ b ∧ occ t w i)
theorem findIn_some {t w : List Nat} {a b i : Nat} : findIn t w a b = some i ↔ (a ≤ i ∧ i + w.length ≤ b ∧ occ t w i) ∧ ∀ j, a ≤ j → j < i → ¬ occ t w j := by
  unfold findIn
  rw [List.find?_range_eq_some]
  simp only [decide_eq_true_eq, Bool.not_eq_true', decide_eq_false_iff_not, List.mem_range]
  constructor
  · rintro ⟨h, _, hn⟩
    exact ⟨h, fun j h1 h2 h3 => hn j h2 ⟨h1, by omega, h3⟩⟩
  · rintro ⟨h, hn⟩
    exact ⟨h, by omega, fun j hj c => hn j c.1 hj c.2.2⟩
theorem findIn_none {t w : List Nat} {a b : Nat} : findIn t w a b = none ↔ ∀ i, a ≤ i → i + w.length ≤ b → ¬ occ t w i := by
  unfold findIn
  rw [List.find?_eq_none]
  simp only [decide_eq_true_eq, List.mem_range]
  constructor
  · intro h i h1 h2 h3
    exact h i (by omega) ⟨h1, h2, h3⟩
  · intro h i _ c
    exact h i c.1 c.2.1 c.2.2
noncomputable def gr (t : List Nat) : List (List Nat) → Nat → Nat → Bool
  | [], _, _ => true
  | w :: ws, a, b => match findIn t w a b with
    | none => false
    | some i => gr t ws (i + w.length) b
noncomputable def ex (t : List Nat) : List (List Nat) → Nat → Nat → Prop
  | [], _, _ => True
  | w :: ws, a, b => ∃ i, a ≤ i ∧ i + w.length ≤ b ∧ occ t w i ∧ ex t ws (i + w.length) b
theorem ex_mono {t : List Nat} : ∀ {ws : List (List Nat)} {a a' b : Nat}, ex t ws a b → a' ≤ a → ex t ws a' b
  | [], _, _, _, _, _ => trivial
  | _ :: _, _, _, _, ⟨i, h1, h2, h3, h4⟩, h => ⟨i, by omega, h2, h3, h4⟩
theorem gr_iff {t : List Nat} : ∀ {ws : List (List Nat)} {a b : Nat}, gr t ws a b = true ↔ ex t ws a b
  | [], _, _ => by simp [gr, ex]
  | w :: ws, a, b => by
    rw [gr, ex]
    cases h : findIn t w a b with
    | none =>
      rw [findIn_none] at h
      simp only [Bool.false_eq_true, false_iff]
      rintro ⟨i, h1, h2, h3, _⟩
      exact h i h1 h2 h3
    | some i =>
      rw [findIn_some] at h
      show gr t ws (i + w.length) b = true ↔ _
      rw [gr_iff]
      constructor
      · intro r; exact ⟨i, h.1.1, h.1.2.1, h.1.2.2, r⟩
      · rintro ⟨j, h1, _, h3, r⟩
        have : i ≤ j := by
          by_cases c : i ≤ j
          · exact c
          · exact absurd h3 (h.2 j h1 (by omega))
        exact ex_mono r (by omega)
theorem occ_nil (t : List Nat) (i : Nat) : occ t [] i := by simp [occ]
theorem ex_snoc_nil {t : List Nat} : ∀ {ws : List (List Nat)} {a b : Nat}, a ≤ b → (ex t (ws ++ [[]]) a b ↔ ex t ws a b)
  | [], a, b, h => by
    simp only [List.nil_append, ex, and_true]
    exact ⟨fun _ => trivial, fun _ => ⟨a, Nat.le_refl _, by simpa using h, occ_nil _ _⟩⟩
  | w :: ws, a, b, h => by
    rw [List.cons_append, ex, ex]
    constructor
    · rintro ⟨i, h1, h2, h3, h4⟩; exact ⟨i, h1, h2, h3, (ex_snoc_nil h2).mp h4⟩
    · rintro ⟨i, h1, h2, h3, h4⟩; exact ⟨i, h1, h2, h3, (ex_snoc_nil h2).mpr h4⟩
theorem ex_cons_nil {t : List Nat} {ws : List (List Nat)} {a b : Nat} (h : a ≤ b) : ex t ([] :: ws) a b ↔ ex t ws a b := by
  rw [ex]
  constructor
  · rintro ⟨i, h1, _, _, h4⟩; exact ex_mono h4 (by simpa using h1)
  · intro h4; exact ⟨a, Nat.le_refl _, by simpa using h, occ_nil _ _, by simpa using h4⟩

theorem drop_of_suffix {t u : List Nat} (h : u <:+ t) : ∃ a, a ≤ t.length ∧ u = t.drop a := by
  obtain ⟨z, rfl⟩ := h
  exact ⟨z.length, by simp, by simp⟩
theorem drop_suffix_iff {t : List Nat} {a a' : Nat} (h : a ≤ a') : t.drop a' <:+ t.drop a := by
  have e : t.drop a' = (t.drop a).drop (a' - a) := by rw [List.drop_drop]; congr 1; omega
  rw [e]; exact List.drop_suffix _ _
theorem occ_append {t w : List Nat} {a : Nat} : (∃ u, t.drop a = w ++ u) ↔ occ t w a := by
  unfold occ
  constructor
  · rintro ⟨u, h⟩; rw [h]; simp
  · intro h; exact ⟨(t.drop a).drop w.length, by conv => lhs; rw [← List.take_append_drop w.length (t.drop a), h]⟩
theorem mp_end {t wl : List Nat} : ∀ {ms : List (List Nat)} {a : Nat},
    (∃ a', a ≤ a' ∧ a' ≤ t.length ∧ mp (ms ++ [wl]) (t.drop a')) ↔ wl.length ≤ t.length ∧ occ t wl (t.length - wl.length) ∧ a ≤ t.length - wl.length ∧ ex t ms a (t.length - wl.length)
  | [], a => by
    simp only [List.nil_append, mp, ex, and_true]
    constructor
    · rintro ⟨a', h1, h2, h3⟩
      have hl := congrArg List.length h3
      rw [List.length_drop] at hl
      have e : t.length - wl.length = a' := by omega
      refine ⟨by omega, ?_, by omega⟩
      rw [e, occ, h3, List.take_length]
    · rintro ⟨h1, h2, h3⟩
      refine ⟨_, h3, by omega, ?_⟩
      unfold occ at h2
      rwa [List.take_of_length_le (by rw [List.length_drop]; omega)] at h2
  | m :: ms, a => by
    have hne : ms ++ [wl] ≠ [] := by simp
    have ih := fun b => mp_end (t := t) (wl := wl) (ms := ms) (a := b)
    rw [ex]
    constructor
    · rintro ⟨a', h1, h2, h3⟩
      rw [List.cons_append, mp_cons hne] at h3
      obtain ⟨u, e, u', hu, h4⟩ := h3
      have ho : occ t m a' := occ_append.mp ⟨u, e⟩
      have hl := congrArg List.length e
      rw [List.length_drop, List.length_append] at hl
      have eu : u = t.drop (a' + m.length) := by
        have := congrArg (List.drop m.length) e
        rw [List.drop_drop] at this
        rw [this]; simp
      obtain ⟨c, hc, rfl⟩ := drop_of_suffix hu
      rw [eu, List.drop_drop] at h4
      rw [eu, List.length_drop] at hc
      obtain ⟨i1, i2, i3, i4⟩ := (ih (a' + m.length)).mp ⟨a' + m.length + c, by omega, by omega, h4⟩
      exact ⟨i1, i2, by omega, a', h1, i3, ho, i4⟩
    · rintro ⟨h1, h2, h3, i, i1, i2, i3, i4⟩
      obtain ⟨a'', b1, b2, b3⟩ := (ih (i + m.length)).mpr ⟨h1, h2, i2, i4⟩
      refine ⟨i, i1, by omega, ?_⟩
      rw [List.cons_append, mp_cons hne]
      obtain ⟨u, hu⟩ := occ_append.mpr i3
      have eu : u = t.drop (i + m.length) := by
        have := congrArg (List.drop m.length) hu
        rw [List.drop_drop] at this
        rw [this]; simp
      exact ⟨u, hu, t.drop a'', by rw [eu]; exact drop_suffix_iff b1, b3⟩
theorem mp_whole {t w0 wl : List Nat} {ms : List (List Nat)} :
    mp (w0 :: (ms ++ [wl])) t ↔ (w0.length ≤ t.length ∧ occ t w0 0) ∧ (wl.length ≤ t.length ∧ occ t wl (t.length - wl.length)) ∧ w0.length ≤ t.length - wl.length ∧ ex t ms w0.length (t.length - wl.length) := by
  have hne : ms ++ [wl] ≠ [] := by simp
  rw [mp_cons hne]
  constructor
  · rintro ⟨u, e, u', hu, h⟩
    have ho : occ t w0 0 := occ_append.mp ⟨u, by simpa using e⟩
    have hl := congrArg List.length e
    rw [List.length_append] at hl
    have eu : u = t.drop w0.length := by rw [e]; simp
    obtain ⟨c, hc, rfl⟩ := drop_of_suffix hu
    rw [eu, List.drop_drop] at h
    rw [eu, List.length_drop] at hc
    obtain ⟨i1, i2, i3, i4⟩ := mp_end.mp ⟨w0.length + c, Nat.le_add_right _ _, by omega, h⟩
    exact ⟨⟨by omega, ho⟩, ⟨i1, i2⟩, i3, i4⟩
  · rintro ⟨⟨h1, h2⟩, ⟨h3, h4⟩, h5, h6⟩
    obtain ⟨a, b1, b2, b3⟩ := mp_end.mpr ⟨h3, h4, h5, h6⟩
    obtain ⟨u, hu⟩ := occ_append.mpr h2
    rw [List.drop_zero] at hu
    exact ⟨u, hu, t.drop a, by rw [show u = t.drop w0.length by rw [hu]; simp]; exact drop_suffix_iff b1, b3⟩

/-- what _ellipsis_match does behind its split -/
noncomputable def ellC (t : List Nat) (ws : List (List Nat)) (a : Nat) : Bool :=
  if (ws.getLastD []) ≠ [] then
    (if (ws.getLastD []).length ≤ t.length ∧ occ t (ws.getLastD []) (t.length - (ws.getLastD []).length) then
      (if t.length - (ws.getLastD []).length < a then false else gr t ws.dropLast a (t.length - (ws.getLastD []).length)) else false)
  else (if t.length < a then false else gr t ws a t.length)
noncomputable def ellB (t : List Nat) : List (List Nat) → Bool
  | [] => true
  | w0 :: r => if w0 ≠ [] then (if w0.length ≤ t.length ∧ occ t w0 0 then ellC t r w0.length else false) else ellC t (w0 :: r) 0
theorem ellC_iff {t wl : List Nat} {ms : List (List Nat)} {a : Nat} : ellC t (ms ++ [wl]) a = true ↔ (wl.length ≤ t.length ∧ occ t wl (t.length - wl.length)) ∧ a ≤ t.length - wl.length ∧ ex t ms a (t.length - wl.length) := by
  unfold ellC
  have e : (ms ++ [wl]).getLastD [] = wl := by simp
  rw [e, List.dropLast_concat]
  by_cases h : wl = []
  · subst h
    rw [if_neg (by simp)]
    simp only [occ, List.length_nil, Nat.zero_le, Nat.sub_zero, List.take_zero, and_self, true_and]
    by_cases ha : t.length < a
    · rw [if_pos ha]; simp; omega
    · rw [if_neg ha, gr_iff, ex_snoc_nil (by omega)]
      exact ⟨fun x => ⟨by omega, x⟩, fun x => x.2⟩
  · rw [if_pos h]
    by_cases hb : wl.length ≤ t.length ∧ occ t wl (t.length - wl.length)
    · rw [if_pos hb]
      by_cases ha : t.length - wl.length < a
      · rw [if_pos ha]; simp; omega
      · rw [if_neg ha, gr_iff]
        exact ⟨fun x => ⟨hb, by omega, x⟩, fun x => x.2.2⟩
    · rw [if_neg hb]; simp only [Bool.false_eq_true, false_iff]; exact fun x => hb x.1
theorem ellB_iff {t w0 wl : List Nat} {ms : List (List Nat)} : ellB t (w0 :: (ms ++ [wl])) = true ↔ mp (w0 :: (ms ++ [wl])) t := by
  rw [mp_whole]
  rw [ellB]
  by_cases h : w0 = []
  · subst h
    rw [if_neg (by simp), ← List.cons_append, ellC_iff]
    simp only [occ, List.length_nil, Nat.zero_le, List.take_zero, and_self, true_and]
    rw [ex_cons_nil (Nat.zero_le _)]
  · rw [if_pos h]
    by_cases hb : w0.length ≤ t.length ∧ occ t w0 0
    · rw [if_pos hb, ellC_iff]; exact ⟨fun x => ⟨hb, x⟩, fun x => x.2⟩
    · rw [if_neg hb]; simp only [Bool.false_eq_true, false_iff]; exact fun x => hb x.1

noncomputable def has3 (p : List Nat) : Prop := ∃ i, (p.drop i).take 3 = [46, 46, 46]
theorem gapAt_of {c : Nat} {p : List Nat} (h : (c :: p).take 3 = [46, 46, 46]) : gapAt c p := by
  match p, h with
  | a :: b :: q, h =>
    simp only [List.take_succ_cons, List.take_zero, List.cons.injEq, and_true] at h
    obtain ⟨rfl, rfl, rfl⟩ := h
    exact ⟨rfl, q, rfl⟩
  | [a], h => simp at h
  | [], h => simp at h
theorem pieces_free : ∀ {p : List Nat}, ¬ has3 p → pieces p = [p]
  | [], _ => pieces_nil
  | c :: p, h => by
    have hg : ¬ gapAt c p := by
      rintro ⟨rfl, q, rfl⟩
      exact h ⟨0, rfl⟩
    rw [pieces_plain hg, pieces_free (p := p) (fun ⟨i, hi⟩ => h ⟨i + 1, by simpa using hi⟩)]
    rfl
theorem pieces_has : ∀ {p : List Nat}, has3 p → 2 ≤ (pieces p).length
  | [], ⟨i, h⟩ => by simp at h
  | c :: p, ⟨i, h⟩ => by
    rcases gap_cases c p with ⟨q, rfl, rfl⟩ | hg
    · rw [pieces_gap]
      have := pieces_ne q
      cases hq : pieces q with
      | nil => exact absurd hq this
      | cons a b => simp
    · cases i with
      | zero => exact absurd (gapAt_of h) hg
      | succ i =>
        have ih := pieces_has (p := p) ⟨i, by simpa using h⟩
        rw [pieces_plain hg]
        cases hq : pieces p with
        | nil => rw [hq] at ih; simp at ih
        | cons a b => rw [hq] at ih; simpa [consHead] using ih
theorem ends_of {ws : List (List Nat)} (h : 2 ≤ ws.length) : ∃ w0 ms wl, ws = w0 :: (ms ++ [wl]) := by
  cases ws with
  | nil => simp at h
  | cons w0 r =>
    have hr : r ≠ [] := by intro e; subst e; simp at h
    exact ⟨w0, r.dropLast, r.getLast hr, by rw [List.dropLast_concat_getLast]⟩
theorem ell_has {p t : List Nat} (h : has3 p) : ellB t (pieces p) = true ↔ run p t [] := by
  rw [run_pieces p.length p t (Nat.le_refl _)]
  obtain ⟨w0, ms, wl, e⟩ := ends_of (pieces_has h)
  rw [e, ellB_iff]
theorem ell_free {p t : List Nat} (h : ¬ has3 p) : p = t ↔ run p t [] := by
  rw [run_pieces p.length p t (Nat.le_refl _), pieces_free h, mp]
  exact eq_comm
end Mine
end

section
open PySem PySem.Builtin PySem.Builtin.Str
namespace Mine
abbrev cs (x : PySem.Str) : List Nat := x.cps.toList
abbrev dots : PySem.Str := PySem.Str.ofString "..."
theorem dots_cs : cs dots = [46, 46, 46] := by decide +kernel
theorem dots_len : dots.length = 3 := by decide +kernel
theorem len_cs (x : PySem.Str) : x.length = (cs x).length := by simp [PySem.Str.length]
theorem subAt_occ (x y : PySem.Str) (i : Nat) : subAt x y i = true ↔ occ (cs x) (cs y) i := by
  rw [StrLaws.subAt_eq, beq_iff_eq, len_cs]
theorem has_iff (x : PySem.Str) : (!(occurrences x dots 0 x.length 1).isEmpty) = true ↔ has3 (cs x) := by
  rw [StrLaws.found_iff]
  constructor
  · rintro ⟨i, _, h⟩
    have := (subAt_occ _ _ _).mp h
    unfold occ at this
    rw [dots_cs] at this
    exact ⟨i, this⟩
  · rintro ⟨i, h⟩
    have hl := congrArg List.length h
    simp only [List.length_take, List.length_drop, List.length_cons, List.length_nil] at hl
    refine ⟨i, by rw [dots_len, len_cs]; omega, (subAt_occ _ _ _).mpr ?_⟩
    unfold occ; rw [dots_cs]; exact h
theorem starts_iff (x y : PySem.Str) : Txt.startswith x y = true ↔ (cs y).length ≤ (cs x).length ∧ occ (cs x) (cs y) 0 := by
  unfold Txt.startswith
  rw [Bool.and_eq_true, decide_eq_true_eq, subAt_occ, len_cs, len_cs, Nat.zero_add]
theorem ends_iff (x y : PySem.Str) : Txt.endswith x y = true ↔ (cs y).length ≤ (cs x).length ∧ occ (cs x) (cs y) ((cs x).length - (cs y).length) := by
  unfold Txt.endswith
  rw [Bool.and_eq_true, decide_eq_true_eq, subAt_occ, len_cs, len_cs, Nat.zero_add]
theorem find_iff (x y : PySem.Str) (lo hi : Nat) :
    (occurrences x y lo hi 1 = [] ∧ findIn (cs x) (cs y) lo hi = none) ∨ ∃ i r, occurrences x y lo hi 1 = i :: r ∧ findIn (cs x) (cs y) lo hi = some i := by
  rw [StrLaws.occ_eq]
  rcases StrLaws.occ_first x y hi 1 (Nat.le_refl 1) (List.range' lo (hi + 1 - lo)) lo (fun i hi => by have := List.mem_range'_1.mp hi; omega) with ⟨h0, hn⟩ | ⟨pre, a, post, e, h0, ha, hn⟩
  · refine .inl ⟨by rw [h0], findIn_none.mpr fun i h1 h2 h3 => ?_⟩
    rw [← len_cs] at h2
    exact hn i (by rw [List.mem_range'_1]; omega) ⟨h2, (subAt_occ _ _ _).mpr h3⟩
  · have hs := StrLaws.range'_split_from e
    refine .inr ⟨a, ((forIn (List.range' lo (hi + 1 - lo)) ((#[] : Array Nat), lo) (StrLaws.occBody x y hi 1)).run.fst.toList).tail, ?_, findIn_some.mpr ⟨⟨hs.1, by rw [← len_cs]; exact ha.1, (subAt_occ _ _ _).mp ha.2⟩, fun j h1 h2 h3 => ?_⟩⟩
    · generalize (forIn (List.range' lo (hi + 1 - lo)) ((#[] : Array Nat), lo) (StrLaws.occBody x y hi 1)).run.fst = arr at h0
      have h1 : arr.toList[0]? = some a := by simpa using h0
      cases hL : arr.toList with
      | nil => rw [hL] at h1; cases h1
      | cons b t => rw [hL] at h1; simp at h1; rw [h1]; rfl
    · have ha1 := ha.1
      exact hn j (hs.2 j h1 h2) ⟨by omega, (subAt_occ _ _ _).mpr h3⟩

/-! the split -/
noncomputable def cuts : List Nat → Nat → List Nat
  | [], _ => []
  | c :: p, k =>
    match c, p with
    | 46, 46 :: 46 :: q => k :: cuts q (k + 3)
    | _, p => cuts p (k + 1)
termination_by p => p.length
theorem cuts_nil (k : Nat) : cuts [] k = [] := by rw [cuts]
theorem cuts_gap (q : List Nat) (k : Nat) : cuts (46 :: 46 :: 46 :: q) k = k :: cuts q (k + 3) := by rw [cuts]
theorem cuts_plain {c : Nat} {p : List Nat} {k : Nat} (h : ¬ gapAt c p) : cuts (c :: p) k = cuts p (k + 1) := by
  rw [cuts]
  intro q e1 e2
  exact h ⟨e1, q, e2⟩
theorem occ3_iff {p : List Nat} {i : Nat} : occ p [46, 46, 46] i ↔ ∃ q, p.drop i = 46 :: 46 :: 46 :: q := by
  constructor
  · intro h
    unfold occ at h
    cases hd : p.drop i with
    | nil => rw [hd] at h; simp at h
    | cons c r =>
      rw [hd] at h
      obtain ⟨rfl, q, rfl⟩ := gapAt_of h
      exact ⟨q, rfl⟩
  · rintro ⟨q, h⟩
    unfold occ; rw [h]; rfl
theorem drop_succ_of {p : List Nat} {i : Nat} {c : Nat} {r : List Nat} (h : p.drop i = c :: r) : p.drop (i + 1) = r := by
  have : p.drop (i + 1) = (p.drop i).drop 1 := by rw [List.drop_drop]
  rw [this, h]; rfl
theorem occ_cuts (x : PySem.Str) (lim : Nat) (hlim : x.length + 1 ≤ lim) : ∀ (k i free : Nat) (found : Array Nat), x.length + 1 - i = k → found.size ≤ i → free ≤ i + 3 →
    (forIn (m := Id) (List.range' i k) (found, free) (StrLaws.occBody x dots x.length lim)).run.fst.toList = found.toList ++ cuts ((cs x).drop (max i free)) (max i free) := by
  intro k
  induction k with
  | zero =>
    intro i free found hk _ _
    have hi : x.length + 1 ≤ i := by omega
    rw [List.drop_eq_nil_of_le (by rw [← len_cs]; omega), cuts_nil]
    simp
  | succ k ih =>
    intro i free found hk hf hfree
    rw [List.range'_succ, List.forIn_cons]
    unfold StrLaws.occBody
    by_cases hc : ((found.size < lim ∧ free ≤ i) ∧ i + dots.length ≤ x.length) ∧ subAt x dots i = true
    · rw [if_pos hc]
      have ho := (subAt_occ _ _ _).mp hc.2
      rw [dots_cs] at ho
      obtain ⟨q, hq⟩ := occ3_iff.mp ho
      have e := ih (i + 1) (i + dots.length) (found.push i) (by omega) (by simp; omega) (by rw [dots_len]; omega)
      have hm : max i free = i := by omega
      have hm2 : max (i + 1) (i + dots.length) = i + 3 := by rw [dots_len]; omega
      have hq3 : (cs x).drop (i + 3) = q := drop_succ_of (drop_succ_of (drop_succ_of hq))
      rw [hm2, hq3] at e
      rw [hm, hq, cuts_gap]
      show (forIn (m := Id) (List.range' (i + 1) k) (found.push i, i + dots.length) (StrLaws.occBody x dots x.length lim)).run.fst.toList = _
      rw [e]; simp
    · rw [if_neg hc]
      have e := ih (i + 1) free found (by omega) (by omega) (by omega)
      show (forIn (m := Id) (List.range' (i + 1) k) (found, free) (StrLaws.occBody x dots x.length lim)).run.fst.toList = _
      rw [e]
      congr 1
      by_cases hle : free ≤ i
      · have hm : max i free = i := by omega
        have hm2 : max (i + 1) free = i + 1 := by omega
        rw [hm, hm2]
        cases hd : (cs x).drop i with
        | nil =>
          have hl : (cs x).length ≤ i := List.drop_eq_nil_iff.mp hd
          rw [List.drop_eq_nil_of_le (by omega), cuts_nil, cuts_nil]
        | cons c r =>
          have hg : ¬ gapAt c r := by
            rintro ⟨rfl, q, rfl⟩
            apply hc
            have hl := congrArg List.length hd
            simp only [List.length_drop, List.length_cons] at hl
            refine ⟨⟨⟨by omega, hle⟩, by rw [dots_len, len_cs]; omega⟩, (subAt_occ _ _ _).mpr ?_⟩
            rw [dots_cs]; exact occ3_iff.mpr ⟨q, hd⟩
          rw [cuts_plain hg, drop_succ_of hd]
      · have hm : max i free = max (i + 1) free := by omega
        rw [hm]
theorem occurrences_cuts (x : PySem.Str) : occurrences x dots 0 x.length (x.length + 1) = cuts (cs x) 0 := by
  rw [StrLaws.occ_eq]
  have := occ_cuts x (x.length + 1) (Nat.le_refl _) (x.length + 1) 0 0 #[] (by omega) (by simp) (by omega)
  simpa using this
noncomputable def parts (p : List Nat) (a : Nat) (cu : List Nat) (n : Nat) : List (List Nat) := ((a :: cu.map (· + 3)).zip (cu ++ [n])).map fun q => (p.drop q.1).take (q.2 - q.1)
noncomputable def prep (w : List Nat) : List (List Nat) → List (List Nat)
  | [] => [w]
  | v :: vs => (w ++ v) :: vs
theorem prep_cons (w : List Nat) (c : Nat) (l : List (List Nat)) (h : l ≠ []) : prep (w ++ [c]) l = prep w (consHead c l) := by
  cases l with
  | nil => exact absurd rfl h
  | cons v vs => simp [prep, consHead]
theorem parts_pieces (p : List Nat) : ∀ (k a b : Nat), p.length - b ≤ k → a ≤ b → b ≤ p.length →
    parts p a (cuts (p.drop b) b) p.length = prep ((p.drop a).take (b - a)) (pieces (p.drop b)) := by
  intro k
  induction k with
  | zero =>
    intro a b hk hab hb
    have : b = p.length := by omega
    subst this
    rw [List.drop_eq_nil_of_le (Nat.le_refl _), cuts_nil, pieces_nil]
    simp [parts, prep]
  | succ k ih =>
    intro a b hk hab hb
    cases hd : p.drop b with
    | nil =>
      have hl := congrArg List.length hd
      simp only [List.length_drop, List.length_nil] at hl
      have : b = p.length := by omega
      subst this
      rw [cuts_nil, pieces_nil]
      simp [parts, prep]
    | cons c r =>
      have hl := congrArg List.length hd
      simp only [List.length_drop, List.length_cons] at hl
      rcases gap_cases c r with ⟨q, rfl, rfl⟩ | hg
      · simp only [List.length_cons] at hl
        have hq : p.drop (b + 3) = q := drop_succ_of (drop_succ_of (drop_succ_of hd))
        have e := ih (b + 3) (b + 3) (by omega) (Nat.le_refl _) (by omega)
        rw [hq] at e
        rw [cuts_gap, pieces_gap]
        have h1 : parts p a (b :: cuts q (b + 3)) p.length = (p.drop a).take (b - a) :: parts p (b + 3) (cuts q (b + 3)) p.length := rfl
        rw [h1, e]
        have hne := pieces_ne q
        cases hp : pieces q with
        | nil => exact absurd hp hne
        | cons v vs => simp [prep]
      · have hq : p.drop (b + 1) = r := drop_succ_of hd
        have e := ih a (b + 1) (by omega) (by omega) (by omega)
        rw [hq] at e
        rw [cuts_plain hg, pieces_plain hg, e, ← prep_cons _ _ _ (pieces_ne r)]
        congr 1
        have e2 : b + 1 - a = (b - a) + 1 := by omega
        rw [e2, List.take_add_one]
        congr 1
        rw [List.getElem?_drop, show a + (b - a) = b by omega]
        have : (p.drop b)[0]? = some c := by rw [hd]; rfl
        rw [List.getElem?_drop, Nat.add_zero] at this
        rw [this]; rfl
theorem split_pieces (x : PySem.Str) (h : has3 (cs x)) : (Txt.split x dots).map cs = pieces (cs x) := by
  unfold Txt.split
  have ho : occurrences x dots 0 x.length (x.length + 1) = cuts (cs x) 0 := occurrences_cuts x
  obtain ⟨i, hi⟩ := h
  have hocc : subAt x dots i = true := (subAt_occ _ _ _).mpr (by unfold occ; rw [dots_cs]; exact hi)
  have hl := congrArg List.length hi
  simp only [List.length_take, List.length_drop, List.length_cons, List.length_nil] at hl
  have hne : ¬ (decide (x.length < dots.length) || decide (Builtin.Str.strKind x < Builtin.Str.strKind dots)) = true := by
    intro hc
    rcases Bool.or_eq_true_iff.mp hc with hc | hc
    · have := of_decide_eq_true hc; rw [dots_len, len_cs] at this; omega
    · have h1 := of_decide_eq_true hc
      have h2 : Builtin.Str.strKind dots = 1 := by decide +kernel
      have h3 : 1 ≤ Builtin.Str.strKind x := by unfold Builtin.Str.strKind; split <;> (try split) <;> omega
      omega
  rw [if_neg hne, ho]
  have hnil : ¬ (cuts (cs x) 0).isEmpty = true := by
    intro hc
    rw [List.isEmpty_iff] at hc
    rw [← ho] at hc
    have h1 := (StrLaws.found_iff x dots).mpr ⟨i, by rw [dots_len, len_cs]; omega, hocc⟩
    have h2 := parts_pieces (cs x) (cs x).length 0 0 (by omega) (Nat.le_refl _) (Nat.zero_le _)
    rw [List.drop_zero, ← ho, hc] at h2
    have h3 := pieces_has ⟨i, hi⟩
    have h4 := congrArg List.length h2
    cases hp : pieces (cs x) with
    | nil => rw [hp] at h3; simp at h3
    | cons v vs =>
      rw [hp] at h3 h4
      simp only [prep, parts, List.map_nil, List.nil_append, List.zip_cons_cons, List.zip_nil_right, List.map_cons, List.length_cons, List.length_nil] at h4 h3
      omega
  rw [if_neg hnil]
  have := parts_pieces (cs x) (cs x).length 0 0 (by omega) (Nat.le_refl _) (Nat.zero_le _)
  rw [List.drop_zero] at this
  have hprep : prep (((cs x).drop 0).take (0 - 0)) (pieces (cs x)) = pieces (cs x) := by
    have := pieces_ne (cs x)
    cases hp : pieces (cs x) with
    | nil => exact absurd hp this
    | cons v vs => simp [prep]
  rw [List.drop_zero] at hprep
  rw [hprep] at this
  rw [← this]
  unfold partsBetween parts
  rw [dots_len, len_cs, List.map_map]
  refine List.map_congr_left fun q _ => ?_
  show cs (strSub x q.1 q.2) = _
  exact StrLaws.strSub_toList x q.1 q.2
end Mine
end

section
open PySem PySem.W PyProof.Rows
namespace Mine
set_option maxRecDepth 100000 in
set_option maxHeartbeats 8000000 in
open_top hd for PySem.Challenge.rw_pg0056_01
end Mine
end

section
open PySem PySem.W PyProof.Rows
namespace Mine
noncomputable def retv : Flow → Value
  | .ret v => v
  | _ => .none
abbrev Grown (h h' : Heap) : Prop := ∀ b o, h.get? b = some o → h'.get? b = some o
theorem call_k {prog : Program} {w : World} {A : Around} {E Q : Value → Shared → Prop} {s : Shared} {K : Frag}
    {name qual : Str} {params : Arguments} {body : List Stmt} {scope : Scope} {dV kV doc pm cdv ct oc : Value} {an od : Option Addr} {osl : Array (Option Value)} {f : Addr} {args : List Value} {binds : List (Str × Value)}
    (X : K.In s.heap) (hlim : s.heap.NoLimit)
    (ho : K.lookup f = some ⟨oc, od, .func (fnOf name qual params body scope dV kV doc pm an cdv ct), osl⟩) (hcd : codeIn K cdv qual = true) (hroom : A.depth < recursionLimit)
    (hbind : BindsTo s (fnOf name qual params body scope dV kV doc pm an cdv ct) ⟨args, []⟩ binds) (hloc : ∀ y ∈ binds, scope.names.lookup y.1 = some .local)
    (h : ∀ h₁, Fr s.heap s.heap.objs.size h₁ (fun y => binds.reverse.lookup y) →
      wpAny (model prog w) (A.deeper (envOf qual scope s.heap.objs.size f cdv)) (execs body (envOf qual scope s.heap.objs.size f cdv))
        (fun fl s' => Q (retv fl) s')
        (fun e s' => wpAny (model prog w) (A.deeper (envOf qual scope s.heap.objs.size f cdv)) (leaving (envOf qual scope s.heap.objs.size f cdv) e) (fun _ s'' => E e s'') (fun e' s'' => E e' s'') s')
        { s with heap := h₁, toks := s.toks + binds.length })
    (hco : scope.isCoroutine = false) (hgen : scope.isGenerator = false) (hk : scope.kind = .function)
    (hcell : ∀ x ∈ scope.names, x.2 ≠ .cell) : wpAny (model prog w) A (call (.ref f) args) Q E s := by
  refine wpAny_call ?_
  refine codeAny_call_def (fd := fnOf name qual params body scope dV kV doc pm an cdv ct) (body := body) (binds := binds) hroom (X _ _ ho) rfl hlim (codeRec_of X hcd) rfl hbind hcell hloc (fun h₁ hns hk₁ => ?_) hco hgen hk
  exact wpAny_mono (h h₁ ⟨hns, hk₁, Nat.le_refl _⟩) (fun fl s' hl => by cases fl <;> exact hl) fun _ _ y => y
theorem fr_eq {h₀ h : Heap} {L : Addr} {m m' : Str → Option Value} (F : Fr h₀ L h m) (e : ∀ y, m y = m' y) : Fr h₀ L h m' := (funext e : m = m') ▸ F
theorem pow_cast {n k : Nat} : (64 : Int) ^ ((k : Int)).toNat ≤ (n : Int) ↔ 64 ^ k ≤ n := by
  rw [Int.toNat_natCast, ← Int.ofNat_le]; simp
/-- a loop's measure has fallen and its invariant holds -/
noncomputable def Less (I : Nat → Shared → Prop) (n : Nat) (s : Shared) : Prop := ∃ m, m < n ∧ I m s
theorem while_k {prog : Program} {w : World} {A : Around} {E : Value → Shared → Prop} {Q : Flow → Shared → Prop} {s : Shared} {env : Env} {test : PySem.Expr} {body : List Stmt} {pos : Pos} (I : Nat → Shared → Prop)
    (turn : ∀ n s, I n s →
      wpAny (model prog w) A (isTrue test env (eval test env)) (fun b s₂ =>
        if b then wpAny (model prog w) A (execs body env) (fun f s₃ => match f with
            | .next | .cont => Less I n s₃
            | .brk => Q .next s₃
            | .ret v => Q (.ret v) s₃) (fun _ _ => False) s₂
        else Q .next s₂)
        (fun _ _ => False) s)
    (n : Nat) (h : I n s) : wpAny (model prog w) A (exec (.While test body [] pos) env) Q E s := by
  refine wpAny_While (codeAny_whileLoop I (fun n s hI => wpAny_mono (turn n s hI) (fun b s₂ h₂ => ?_) fun _ _ x => x.elim) n h)
  cases b with
  | false => exact wpAny_execs_nil h₂
  | true =>
    refine wpAny_mono h₂ (fun f s₃ h₃ => ?_) fun _ _ x => x.elim
    cases f <;> exact h₃
theorem call_k0 {prog : Program} {w : World} {A : Around} {E Q : Value → Shared → Prop} {s : Shared} {K : Frag}
    {name qual : Str} {params : Arguments} {body : List Stmt} {scope : Scope} {dV kV doc pm cdv ct oc : Value} {an od : Option Addr} {osl : Array (Option Value)} {f : Addr} {args : List Value} {binds : List (Str × Value)}
    (X : K.In s.heap) (hlim : s.heap.NoLimit)
    (ho : K.lookup f = some ⟨oc, od, .func (fnOf name qual params body scope dV kV doc pm an cdv ct), osl⟩) (hcd : codeIn K cdv qual = true) (hroom : A.depth < recursionLimit)
    (hbind : BindsTo s (fnOf name qual params body scope dV kV doc pm an cdv ct) ⟨args, []⟩ binds) (hloc : ∀ y ∈ binds, scope.names.lookup y.1 = some .local)
    (h : ∀ h₁, Fr s.heap s.heap.objs.size h₁ (fun y => binds.reverse.lookup y) →
      wpAny (model prog w) (A.deeper (envOf qual scope s.heap.objs.size f cdv)) (execs body (envOf qual scope s.heap.objs.size f cdv))
        (fun fl s' => Q (retv fl) s') (fun _ _ => False)
        { s with heap := h₁, toks := s.toks + binds.length })
    (hco : scope.isCoroutine = false) (hgen : scope.isGenerator = false) (hk : scope.kind = .function)
    (hcell : ∀ x ∈ scope.names, x.2 ≠ .cell) : wpAny (model prog w) A (call (.ref f) args) Q E s :=
  call_k X hlim ho hcd hroom hbind hloc (fun h₁ F => wpAny_mono (h h₁ F) (fun _ _ x => x) fun _ _ x => x.elim) hco hgen hk hcell
end Mine
end

section
open PySem PySem.W PyProof.Rows
set_option maxRecDepth 100000
namespace Mine
noncomputable def SzInv (s : Shared) (n : Nat) (t : Tok) (j : Nat) (s' : Shared) : Prop :=
  ∃ h tk k tk', s' = { s with heap := h, toks := tk } ∧ Fr s.heap s.heap.objs.size h (fun y => if y = Str.ofString "size" then some (.int ((k : Nat) : Int) tk') else List.lookup y [(Str.ofString "number", Value.int (↑n) t)].reverse) ∧ 1 ≤ k ∧ k ≤ sz n ∧ j = sz n - k
set_option maxHeartbeats 4000000 in
theorem size_call : ∀ {w : World} {A : Around} {s : Shared} {p : Program} {loose : List Str} {mean : ExcName → Option Value} {mg mb : Str → Option Value} {n : Nat} {t : Tok} {Q E : Value → Shared → Prop},
    (hd.heap_39 w.params).In s.heap → Top p loose mean mg mb s.heap → A.depth < 900 → n < 2 ^ 40 →
    (∀ h' tk t', Grown s.heap h' → Q (.int (sz n : Nat) t') { s with heap := h', toks := tk }) →
    wpAny (model PySem.Challenge.rw_pg0056_01.row.prog w) A (call (.ref 35) [.int n t]) Q E s := by
  k_fill
  intro w A s p loose mean mg mb n t Q E X T hroom hn hQ
  refine' call_k0 (binds := [(Str.ofString "number", .int n t)]) X T.nolimit ?ho ?hcd ?hr ?hb ?hl ?_ ?c1 ?c2 ?c3 ?c4
  case ho => k_is
  case hcd => k_is
  case hr => simp only [recursionLimit]; omega
  case hb => exact BindsTo.of_eq rfl
  case hl => exact locs rfl
  case c1 => rfl
  case c2 => rfl
  case c3 => rfl
  case c4 => decide
  intro h₁ F
  have N : News s.heap s.heap.objs.size h₁ [] := News.nil
  repeat' (first | (fail_if_success (with_reducible show wpAny _ _ (exec (Stmt.While _ _ _ _) _) _ _ _)); walk1 | fail "x")
  refine while_k (SzInv s n t) ?_ (sz n - 1) ⟨_, _, 1, _, rfl, by assumption, Nat.le_refl _, sz_pos n, rfl⟩
  rintro j _ ⟨h, tk, k, tk', rfl, F, hk1, hk2, rfl⟩
  have N : News s.heap s.heap.objs.size h [] := News.nil
  have hsz : sz n ≤ 7 := sz_le_of_lt (by omega) (by omega)
  have hpow := pow_le_iff (n := n) hk1
  repeat' (walk1; (try dsimp only))
  · rename (64 : Int) ^ _ ≤ _ => a
    have hlt := hpow.mp (pow_cast.mp a)
    refine' ⟨sz n - (k + 1), by omega, _, _, k + 1, _, rfl, fr_eq (by assumption) _, by omega, by omega, rfl⟩
    rotate_left
    · intro y
      by_cases hy : y = Str.ofString "size"
      · rw [if_pos hy, if_pos hy]; rfl
      · rw [if_neg hy, if_neg hy, if_neg hy]
  · rename ¬ (64 : Int) ^ _ ≤ _ => a
    have hge : ¬ k < sz n := fun hlt => a (pow_cast.mpr (hpow.mpr hlt))
    have hks : k = sz n := by omega
    subst hks
    exact hQ _ _ _ F.keep
end Mine
end

section
open PySem PySem.W PyProof.Rows
namespace Mine
/-- a frame and a ledger behind a step that changes no object of the heap -/
theorem fr_grown {h₀ h h' : Heap} {L : Addr} {m : Str → Option Value} (F : Fr h₀ L h m) (g : Grown h h') : Fr h₀ L h' m :=
  ⟨F.ns.at' fun o e => g _ o e, fun b o e => g b o (F.keep b o e), F.above⟩
theorem news_grown {h₀ h h' : Heap} {L : Addr} {news : List (Addr × Obj)} (N : News h₀ L h news) (g : Grown h h') : News h₀ L h' news :=
  fun p hp => ⟨g _ _ (N p hp).1, (N p hp).2⟩
theorem grown_lt {h h' : Heap} (g : Grown h h') {a : Addr} {o : Obj} (e : h.get? a = some o) : a < h'.objs.size := Heap.lt_size (g _ _ e)
/-- an object made behind the frame's heap goes onto the ledger -/
theorem news_new {h₀ h h' : Heap} {L r : Addr} {o : Obj} {m : Str → Option Value} {news : List (Addr × Obj)} (F : Fr h₀ L h m) (N : News h₀ L h' news) (hr : h.objs.size ≤ r) (e : h'.get? r = some o) : News h₀ L h' ((r, o) :: news) := by
  intro p hp
  rcases List.mem_cons.mp hp with rfl | hp
  · refine ⟨e, ?_, ?_⟩
    · exact Nat.ne_of_gt (Nat.lt_of_lt_of_le F.ns.lt hr)
    · cases hq : h₀.get? r with
      | none => rfl
      | some o' => exact absurd (Nat.lt_of_lt_of_le (Heap.lt_size (F.keep _ _ hq)) hr) (Nat.lt_irrefl _)
  · exact N p hp
theorem news_sub {h₀ h : Heap} {L : Addr} {news news' : List (Addr × Obj)} (N : News h₀ L h news) (s : ∀ p ∈ news', p ∈ news) : News h₀ L h news' := fun p hp => N p (s p hp)

/-- behind a turn: the invariant at the next place, the iterator as the turn found it -/
noncomputable def LoopEnd (h₀ : Heap) (L I : Addr) (oI : Obj) (J : (Str → Option Value) → List (Addr × Obj) → Prop) (s s₃ : Shared) : Prop :=
  ∃ h tk m nx, s₃ = { s with heap := h, toks := tk } ∧ Fr h₀ L h m ∧ News h₀ L h (nx ++ [(I, oI)]) ∧ (∀ p ∈ nx, p.1 ≠ I) ∧ J m nx
noncomputable def TurnEnd (h₀ : Heap) (L I : Addr) (oI : Obj) (J : (Str → Option Value) → List (Addr × Obj) → Prop) (s : Shared) (Q : Flow → Shared → Prop) (f : Flow) (s₃ : Shared) : Prop :=
  match f with
  | .ret v => Q (.ret v) s₃
  | .brk => Q .next s₃
  | _ => LoopEnd h₀ L I oI J s s₃
noncomputable def ForAt (prog : Program) (w : World) (A : Around) (env : Env) (target : PySem.Expr) (body : List Stmt) (Q : Flow → Shared → Prop) (x : Value) (s₁ : Shared) : Prop :=
  wpAny (model prog w) A (pyIter x) (fun it s₂ => codeAny (model prog w) A (.forLoop target it body [] env) (fun r s' => match r with
    | .ok f => Q f s'
    | .error _ => False) s₂) (fun _ _ => False) s₁
theorem for_k {prog : Program} {w : World} {A : Around} {E : Value → Shared → Prop} {Q : Flow → Shared → Prop} {s : Shared} {env : Env} {target iter : PySem.Expr} {body : List Stmt} {pos : Pos}
    (h : wpAny (model prog w) A (eval iter env) (fun x s₁ => ForAt prog w A env target body Q x s₁) E s)
    (hs : ∀ x, foldedSetIterable iter env x = pure x := by intro _; rfl) : wpAny (model prog w) A (exec (.For target iter body [] pos) env) Q E s :=
  wpAny_For (wpAny_mono h (fun _ _ h₁ => wpAny_mono h₁ (fun it s₂ h₂ => codeAny_mono h₂ (fun r s' h₃ => by
    cases r with
    | ok f => exact h₃
    | error e => exact h₃.elim)) fun _ _ x => x.elim) fun _ _ x => x) hs

section
variable {prog : Program} {w : World} {A : Around} {Q : Flow → Shared → Prop} {s : Shared} {env : Env} {target : PySem.Expr} {body : List Stmt} {h₀ : Heap}
theorem for_walk {I : Addr} {fp : List Addr} {n : Nat} {P : Nat → Value → Prop} {St : Nat → Heap → Prop} {m₀ : Str → Option Value} {news : List (Addr × Obj)} (J : Nat → (Str → Option Value) → List (Addr × Obj) → Prop)
    (W : Walks prog w A I fp [I] n P St) (obj : ∀ i h, St i h → ∃ o, h.get? I = some o)
    (st_of : ∀ i h h' m nx, St i h → (∀ o, h.get? I = some o → h'.get? I = some o) → J i m nx → Fr h₀ env.locals h' m → News h₀ env.locals h' nx → St i h')
    (hI : h₀.get? I = none) (hIL : env.locals ≠ I) (hnI : ∀ p ∈ news, p.1 ≠ I) (hst : St 0 s.heap) (F : Fr h₀ env.locals s.heap m₀) (N : News h₀ env.locals s.heap news) (hj : J 0 m₀ news)
    (hgo : ∀ i (s' : Shared) v (Q' : Unit → Shared → Prop) (E' : Value → Shared → Prop), St i s'.heap → Q' () s' → wpAny (model prog w) A (letOwnedTupleGo target (.ref I) v) Q' E' s')
    (turn : ∀ i v m nx h tk oI, i < n → P i v → J i m nx → (∀ p ∈ nx, p.1 ≠ I) → Fr h₀ env.locals h m → News h₀ env.locals h (nx ++ [(I, oI)]) →
      wpAny (model prog w) A (assign target env v) (fun _ s₂ => wpAny (model prog w) A (execs body env) (TurnEnd h₀ env.locals I oI (J (i + 1)) s Q) (fun _ _ => False) s₂) (fun _ _ => False) { s with heap := h, toks := tk })
    (done : ∀ m nx h tk, J n m nx → Fr h₀ env.locals h m → News h₀ env.locals h nx → Q .next { s with heap := h, toks := tk }) :
    codeAny (model prog w) A (.forLoop target (.ref I) body [] env) (fun r s' => match r with
      | .ok f => Q f s'
      | .error _ => False) s := by
  refine codeAny_forLoop_any (fun k s' => ∃ h tk m nx i, s' = { s with heap := h, toks := tk } ∧ St i h ∧ Fr h₀ env.locals h m ∧ News h₀ env.locals h nx ∧ (∀ p ∈ nx, p.1 ≠ I) ∧ J i m nx ∧ i ≤ n ∧ k = n + 1 - i) ?_ (n + 1)
    ⟨s.heap, s.toks, m₀, news, 0, rfl, hst, F, N, hnI, hj, Nat.zero_le _, rfl⟩
  rintro k _ ⟨h, tk, m, nx, i, rfl, hst', F', N', hnx, hJ, hi, rfl⟩
  have next : ∀ h₁ : Heap, (∀ b o, b ∉ [I] → h.get? b = some o → h₁.get? b = some o) → Fr h₀ env.locals h₁ m ∧ News h₀ env.locals h₁ nx := fun h₁ hk₁ =>
    ⟨⟨F'.ns.at' fun o e => hk₁ _ o (fun q => hIL (List.mem_singleton.mp q)) e, fun b o e => hk₁ b o (fun q => by rw [List.mem_singleton.mp q, hI] at e; cases e) (F'.keep b o e), F'.above⟩,
     fun p hp => ⟨hk₁ _ _ (fun q => hnx p hp (List.mem_singleton.mp q)) (N' p hp).1, (N' p hp).2⟩⟩
  by_cases hlt : i < n
  · refine W.item i _ _ _ hlt hst' fun v h₁ tk₁ hP hst₁ hk₁ => ?_
    obtain ⟨F₁, N₁⟩ := next h₁ hk₁
    obtain ⟨oI, hoI⟩ := obj _ _ hst₁
    refine hgo (i + 1) _ v _ _ hst₁ ?_
    have N₂ : News h₀ env.locals h₁ (nx ++ [(I, oI)]) := fun p hp => (List.mem_append.mp hp).elim (N₁ p) fun q => by
      rw [List.mem_singleton.mp q]; exact ⟨hoI, Ne.symm hIL, hI⟩
    refine wpAny_mono (turn i v m nx h₁ tk₁ oI hlt hP hJ hnx F₁ N₂) (fun _ s₂ h₂ => wpAny_mono h₂ (fun f s₃ h₃ => ?_) fun _ _ x => x.elim) fun _ _ x => x.elim
    have fin : LoopEnd h₀ env.locals I oI (J (i + 1)) s s₃ → ∃ m_1, m_1 < n + 1 - i ∧ ∃ h tk m nx i, s₃ = { s with heap := h, toks := tk } ∧ St i h ∧ Fr h₀ env.locals h m ∧ News h₀ env.locals h nx ∧ (∀ p ∈ nx, p.1 ≠ I) ∧ J i m nx ∧ i ≤ n ∧ m_1 = n + 1 - i := by
      rintro ⟨h', tk', m', nx', e, F₃, N₃, hn₃, hJ₃⟩
      have N₄ : News h₀ env.locals h' nx' := fun p hp => N₃ p (List.mem_append_left _ hp)
      have hI' : h'.get? I = some oI := (N₃ (I, oI) (List.mem_append_right _ (List.mem_singleton.mpr rfl))).1
      exact ⟨n + 1 - (i + 1), by omega, h', tk', m', nx', i + 1, e, st_of _ _ _ _ _ hst₁ (fun o e => by rw [hoI] at e; rw [← e]; exact hI') hJ₃ F₃ N₄, F₃, N₄, hn₃, hJ₃, hlt, rfl⟩
    cases f with
    | ret v => exact h₃
    | brk => exact h₃
    | cont => exact fin h₃
    | next => exact fin h₃
  · have hin : i = n := by omega
    subst hin
    refine W.done _ _ _ hst' fun h₁ tk₁ hk₁ => wpAny_execs_nil ?_
    obtain ⟨F₁, N₁⟩ := next h₁ hk₁
    exact done _ _ _ _ hJ F₁ N₁
/-- over a list that stays as it is -/
theorem for_list {l : Addr} {vs : List Value} {m₀ : Str → Option Value} {news : List (Addr × Obj)} (J : Nat → (Str → Option Value) → List (Addr × Obj) → Prop)
    (hh : A.handled = none) (F : Fr h₀ env.locals s.heap m₀) (N : News h₀ env.locals s.heap news) (hj : J 0 m₀ news)
    (stay : ∀ i m nx h, J i m nx → Fr h₀ env.locals h m → News h₀ env.locals h nx → h.IsList l vs.toArray)
    (turn : ∀ i v m nx h tk oI, vs[i]? = some v → J i m nx → (∀ p ∈ nx, p.1 ≠ s.heap.objs.size) → Fr h₀ env.locals h m → News h₀ env.locals h (nx ++ [(s.heap.objs.size, oI)]) →
      wpAny (model prog w) A (assign target env v) (fun _ s₂ => wpAny (model prog w) A (execs body env) (TurnEnd h₀ env.locals s.heap.objs.size oI (J (i + 1)) s Q) (fun _ _ => False) s₂) (fun _ _ => False) { s with heap := h, toks := tk })
    (done : ∀ m nx h tk, J vs.length m nx → Fr h₀ env.locals h m → News h₀ env.locals h nx → Q .next { s with heap := h, toks := tk }) :
    ForAt prog w A env target body Q (.ref l) s := by
  have hls := stay 0 _ _ _ hj F N
  obtain ⟨ol, hol, _⟩ := id hls
  have hne : l ≠ s.heap.objs.size := Nat.ne_of_lt (Heap.lt_size hol)
  refine wpAny_pyIter_list hls ?_
  have W := Walks.list (prog := prog) (w := w) hh s.heap.objs.size l hne vs.toArray
  have hlen : vs.toArray.size = vs.length := by simp
  rw [hlen] at W
  refine for_walk (h₀ := h₀) (m₀ := m₀) (news := news) J W (fun i h st => ?_) (fun i h h' m nx st e hJ F' N' => ⟨st.1.at fun o => e o, stay i m nx h' hJ F' N'⟩) (next_is_new F) (Nat.ne_of_lt F.ns.lt) (fun p hp => Nat.ne_of_lt (Heap.lt_size (N p hp).1))
    ⟨⟨_, Heap.get?_push_size _ rfl, rfl, rfl⟩, hls.at fun o e => Heap.get?_push_of_some _ e⟩ (F.push _) (fun p hp => ⟨Heap.get?_push_of_some _ (N p hp).1, (N p hp).2⟩) hj (fun i s' v Q' E' st hQ' => letGo_listiter st.1 hQ') ?_ ?_
  · obtain ⟨⟨o, ho, _⟩, _⟩ := st; exact ⟨o, ho⟩
  · intro i v m nx h tk oI hi hP hJ hnx F' N'
    have hP' : vs[i]? = some v := by simpa using hP
    refine wpAny_mono (turn i v m nx h tk oI hP' hJ hnx F' N') (fun _ s₂ h₂ => wpAny_mono h₂ (fun f s₃ h₃ => ?_) fun _ _ x => x) fun _ _ x => x
    cases f <;> exact h₃
  · intro m nx h tk hJ F' N'; exact done m nx h tk hJ F' N'
/-- over a range -/
theorem for_range {r : Addr} {a b c : Int} {t u v : Tok} {n : Nat} {m₀ : Str → Option Value} {news : List (Addr × Obj)} (J : Nat → (Str → Option Value) → List (Addr × Obj) → Prop)
    (hh : A.handled = none) (hr : IsRange s.heap r a b c t u v) (hsmall : Builtin.Range.small a b c = true) (hsz : Builtin.Range.rangeSize a b c = (n : Int)) (F : Fr h₀ env.locals s.heap m₀) (N : News h₀ env.locals s.heap news) (hj : J 0 m₀ news)
    (turn : ∀ (i : Nat) m nx h tk oI t', i < n → J i m nx → (∀ p ∈ nx, p.1 ≠ s.heap.objs.size) → Fr h₀ env.locals h m → News h₀ env.locals h (nx ++ [(s.heap.objs.size, oI)]) →
      wpAny (model prog w) A (assign target env (.int (a + i * c) t')) (fun _ s₂ => wpAny (model prog w) A (execs body env) (TurnEnd h₀ env.locals s.heap.objs.size oI (J (i + 1)) s Q) (fun _ _ => False) s₂) (fun _ _ => False) { s with heap := h, toks := tk })
    (done : ∀ m nx h tk, J n m nx → Fr h₀ env.locals h m → News h₀ env.locals h nx → Q .next { s with heap := h, toks := tk })
    (hgo : ∀ v, letOwnedTupleGo target (.ref s.heap.objs.size) v = pure ()) :
    ForAt prog w A env target body Q (.ref r) s := by
  refine wpAny_pyIter_range hr hsmall ?_
  have W := Walks.range (prog := prog) (w := w) hh s.heap.objs.size a c n
  refine for_walk (h₀ := h₀) (m₀ := m₀) (news := news) J W (fun i h st => ⟨_, st⟩) (fun i h h' m nx st e hJ F' N' => e _ st) (next_is_new F) (Nat.ne_of_lt F.ns.lt) (fun p hp => Nat.ne_of_lt (Heap.lt_size (N p hp).1))
    (by show IsRangeIter _ _ _ _ _; rw [hsz]; simpa using Heap.get?_push_size _ rfl) (F.push _) (fun p hp => ⟨Heap.get?_push_of_some _ (N p hp).1, (N p hp).2⟩) hj (fun i s' v Q' E' st hQ' => wpAny_of_eq (hgo v) hQ') ?_ ?_
  · rintro i _ m nx h tk oI hi ⟨t', rfl⟩ hJ hnx F' N'
    refine wpAny_mono (turn i m nx h tk oI t' hi hJ hnx F' N') (fun _ s₂ h₂ => wpAny_mono h₂ (fun f s₃ h₃ => ?_) fun _ _ x => x) fun _ _ x => x
    cases f <;> exact h₃
  · intro m nx h tk hJ F' N'; exact done m nx h tk hJ F' N'
end
end Mine
end

section
open PySem PySem.W PyProof.Rows
namespace Mine
theorem pow64 (k : Nat) : (64 : Int) ^ ((k : Int)).toNat = ((64 ^ k : Nat) : Int) := by rw [Int.toNat_natCast]; simp
theorem log64 (k : Nat) (hk : k ≤ 1000) : (((64 ^ k : Nat) : Int)).natAbs.log2 < 9000 := by
  rw [Int.natAbs_natCast]
  have hp : 64 ^ k ≠ 0 := Nat.ne_of_gt (Nat.pow_pos (by omega))
  rw [Nat.log2_lt hp]
  have e : (64 : Nat) ^ k = 2 ^ (6 * k) := by rw [Nat.pow_mul]
  rw [e]
  exact Nat.pow_lt_pow_right (by decide) (by omega)
theorem pow64_ne (k : Nat) : ((64 ^ k : Nat) : Int) ≠ 0 := by
  have hp : 64 ^ k ≠ 0 := Nat.ne_of_gt (Nat.pow_pos (by omega))
  omega
theorem fdiv_nat (a b : Nat) : Int.fdiv (a : Int) (b : Int) = ((a / b : Nat) : Int) := by rw [Int.ofNat_fdiv]
theorem fmod_nat (a b : Nat) : Int.fmod (a : Int) (b : Int) = ((a % b : Nat) : Int) := by rw [Int.fmod_eq_emod_of_nonneg _ (by omega)]; rfl
section
variable {prog : Program} {w : World} {A : Around} {E Q : Value → Shared → Prop} {s : Shared} {n k : Nat} {t u : Tok}
theorem fdiv_pow (hk : k ≤ 1000) (h : Q (.int ((n / 64 ^ k : Nat) : Int) s.toks) { s with toks := s.toks + 1 }) : wpAny (model prog w) A (binaryOp .FloorDiv (.int (n : Int) t) (.int ((64 : Int) ^ ((k : Int)).toNat) u)) Q E s := by
  rw [pow64]
  exact floordiv_int (pow64_ne k) (by rw [fdiv_nat]; exact h) (Or.inl (PyProof.noPylong_of_log2 (log64 k hk)))
theorem fmod_pow (h : Q (.int ((n % 64 ^ k : Nat) : Int) s.toks) { s with toks := s.toks + 1 }) : wpAny (model prog w) A (binaryOp .Mod (.int (n : Int) t) (.int ((64 : Int) ^ ((k : Int)).toNat) u)) Q E s := by
  rw [pow64]
  exact mod_int' (pow64_ne k) (by rw [fmod_nat]; exact h)
theorem fmod_64 (h : Q (.int ((n % 64 : Nat) : Int) s.toks) { s with toks := s.toks + 1 }) : wpAny (model prog w) A (binaryOp .Mod (.int (n : Int) t) (.int 64 u)) Q E s :=
  mod_int' (by decide) (by rw [show Int.fmod (n : Int) 64 = ((n % 64 : Nat) : Int) from fmod_nat n 64]; exact h)
theorem fdiv_64 (h : Q (.int ((n / 64 : Nat) : Int) s.toks) { s with toks := s.toks + 1 }) : wpAny (model prog w) A (binaryOp .FloorDiv (.int (n : Int) t) (.int 64 u)) Q E s :=
  floordiv_int (by decide) (by rw [show Int.fdiv (n : Int) 64 = ((n / 64 : Nat) : Int) from fdiv_nat n 64]; exact h) (Or.inl (PyProof.noPylong_of_log2 (by decide +kernel)))
end
end Mine
end

section
open PySem PySem.W PyProof.Rows
namespace Mine
abbrev lst (ys : List Value) : Obj := W.listOf ys.toArray ys.length
theorem lst_snoc (ys : List Value) (y : Value) : W.listOf (ys.toArray.push y) (ys.length + 1) = lst (ys ++ [y]) := by
  show W.listOf _ _ = W.listOf (ys ++ [y]).toArray (ys ++ [y]).length
  rw [List.length_append, List.length_singleton, List.push_toArray]
noncomputable def tests (ifs : List PySem.Expr) (env : Env) : Sem Bool := forIn ifs true fun c r => if r = true then do let ok ← isTrue c env (eval c env); pure (ForInStep.yield ok) else pure (ForInStep.yield r)
section
variable {prog : Program} {w : World} {A : Around} {E : Value → Shared → Prop} {s : Shared}
theorem tests_nil {env : Env} {Q : Bool → Shared → Prop} (h : Q true s) : wpAny (model prog w) A (tests [] env) Q E s := wpAny_tests_nil h
theorem tests_one {env : Env} {c : PySem.Expr} {Q : Bool → Shared → Prop} (h : wpAny (model prog w) A (isTrue c env (eval c env)) Q E s) : wpAny (model prog w) A (tests [c] env) Q E s := wpAny_tests_one h

theorem compLoop_k {elt target iter : PySem.Expr} {ifs : List PySem.Expr} {scope : Scope} {pos : Pos} {it acc : Value} {env : Env} {R : Result → Shared → Prop} (I : Nat → Shared → Prop)
    (turn : ∀ n s, I n s → wpAny (model prog w) A (pyNext it) (fun r s₁ => match r with
      | none => R (.ok .next) s₁
      | some v => wpAny (model prog w) A (letOwnedTupleGo target it v) (fun _ s₀ => wpAny (model prog w) A (assign target env v) (fun _ s₂ =>
          wpAny (model prog w) A (tests ifs env) (fun ok s₃ =>
            if ok = true then wpAny (model prog w) A (eval elt env) (fun x s₄ =>
              wpAny (model prog w) A (call (.builtin "list.append") [acc, x]) (fun _ s₅ => ∃ m, m < n ∧ I m s₅) (fun _ _ => False) s₄) (fun _ _ => False) s₃
            else ∃ m, m < n ∧ I m s₃) (fun _ _ => False) s₂) (fun _ _ => False) s₀) (fun _ _ => False) s₁) (fun _ _ => False) s)
    (n : Nat) (h : I n s) :
    codeAny (model prog w) A (.compLoop (.ListComp elt [⟨target, iter, ifs, 0⟩] scope pos) 0 it acc env) R s := by
  refine codeAny_loop rfl I (fun n s hI => ?_) n h
  show wpAny _ A ((compTurn (.ListComp elt [⟨target, iter, ifs, 0⟩] scope pos) 0 it acc env).onRaise (fun x => do noteFrame x env; theTreesLotGoes x)) _ _ s
  refine wpAny_noted ?_
  rw [compTurn_list]
  have no : ∀ {P : Value → Shared → Prop} (e : Value) (s' : Shared), False → P e s' := fun _ _ x => x.elim
  refine wpAny_bind (wpAny_standAt (wpAny_bind (wpAny_mono (turn n s hI) (fun r s₁ h₁ => ?_) no)))
  cases r with
  | none => exact wpAny_pure h₁
  | some v =>
    refine wpAny_bind (wpAny_mono h₁ (fun _ s₀ h₀ => ?_) no)
    refine wpAny_bind (wpAny_mono h₀ (fun _ s₂ h₂ => wpAny_bind (wpAny_mono h₂ (fun ok s₃ h₃ => ?_) no)) no)
    cases ok with
    | false => exact wpAny_pure ⟨rfl, h₃⟩
    | true =>
      exact wpAny_bind (wpAny_bind (wpAny_mono h₃ (fun x s₄ h₄ => wpAny_bind (wpAny_mono h₄ (fun _ s₅ h₅ => wpAny_pure (wpAny_pure ⟨rfl, h₅⟩)) no)) no))
end

noncomputable def EltEnd (h₁ : Heap) (C I D : Addr) (oI : Obj) (ys : List Value) (s : Shared) (R : List Value → List (Addr × Obj) → Prop) (y : Value) (s₄ : Shared) : Prop :=
  ∃ h tk m tl, s₄ = { s with heap := h, toks := tk } ∧ Fr h₁ C h m ∧ News h₁ C h ((I, oI) :: (D, lst ys) :: tl) ∧ (∀ p ∈ tl, p.1 ≠ I ∧ p.1 ≠ D) ∧ R (ys ++ [y]) tl
noncomputable def SkipEnd (h₁ : Heap) (C I D : Addr) (oI : Obj) (ys : List Value) (s : Shared) (R : List Value → List (Addr × Obj) → Prop) (s₄ : Shared) : Prop :=
  ∃ h tk m tl, s₄ = { s with heap := h, toks := tk } ∧ Fr h₁ C h m ∧ News h₁ C h ((I, oI) :: (D, lst ys) :: tl) ∧ (∀ p ∈ tl, p.1 ≠ I ∧ p.1 ≠ D) ∧ R ys tl
/-- what a test's answer leads to -/
noncomputable def Tested (prog : Program) (w : World) (A : Around) (cenv : Env) (elt : PySem.Expr) (h₁ : Heap) (C I D : Addr) (oI : Obj) (ys : List Value) (s : Shared) (R : List Value → List (Addr × Obj) → Prop) (ok : Bool) (s₃ : Shared) : Prop :=
  if ok = true then wpAny (model prog w) A (eval elt cenv) (EltEnd h₁ C I D oI ys s R) (fun _ _ => False) s₃ else SkipEnd h₁ C I D oI ys s R s₃

section
variable {prog : Program} {w : World} {A : Around} {s : Shared} {cenv : Env} {target elt iter : PySem.Expr} {ifs : List PySem.Expr} {scope : Scope} {pos : Pos} {h₁ : Heap}
theorem comp_walk {C I D : Addr} {fp : List Addr} {n : Nat} {P : Nat → Value → Prop} {St : Nat → Heap → Prop} {RR : Result → Shared → Prop} {m₀ : Str → Option Value} (hC : cenv.locals = C)
    (W : Walks prog w A I fp [I] n P St) (obj : ∀ i h, St i h → ∃ o, h.get? I = some o)
    (st_of : ∀ i h h', St i h → (∀ o, h.get? I = some o → h'.get? I = some o) → Grown h₁ h' → St i h')
    (hI : h₁.get? I = none) (hIC : C ≠ I) (hID : I ≠ D) (hst : St 0 s.heap) (F : Fr h₁ C s.heap m₀) (N : News h₁ C s.heap [(D, lst [])])
    (hgo : ∀ i (s' : Shared) v (Q' : Unit → Shared → Prop) (E' : Value → Shared → Prop), St i s'.heap → Q' () s' → wpAny (model prog w) A (letOwnedTupleGo target (.ref I) v) Q' E' s')
    (R : Nat → List Value → List (Addr × Obj) → Prop) (h0 : R 0 [] []) (hsz : ∀ i ys tl, R i ys tl → ys.length ≤ sizeLine)
    (turn : ∀ i v ys tl m h tk oI, i < n → P i v → R i ys tl → (∀ p ∈ tl, p.1 ≠ I ∧ p.1 ≠ D) → Fr h₁ C h m → News h₁ C h ((I, oI) :: (D, lst ys) :: tl) →
      wpAny (model prog w) A (assign target cenv v) (fun _ s₂ => wpAny (model prog w) A (tests ifs cenv) (Tested prog w A cenv elt h₁ C I D oI ys s (R (i + 1))) (fun _ _ => False) s₂) (fun _ _ => False) { s with heap := h, toks := tk })
    (done : ∀ m ys tl h tk, R n ys tl → (∀ p ∈ tl, p.1 ≠ D) → Fr h₁ C h m → News h₁ C h ((D, lst ys) :: tl) → RR (.ok .next) { s with heap := h, toks := tk }) :
    codeAny (model prog w) A (.compLoop (.ListComp elt [⟨target, iter, ifs, 0⟩] scope pos) 0 (.ref I) (.ref D) cenv) RR s := by
  refine compLoop_k (fun k s' => ∃ h tk m ys tl i, s' = { s with heap := h, toks := tk } ∧ St i h ∧ Fr h₁ C h m ∧ News h₁ C h ((D, lst ys) :: tl) ∧ (∀ p ∈ tl, p.1 ≠ I ∧ p.1 ≠ D) ∧ R i ys tl ∧ i ≤ n ∧ k = n + 1 - i) ?_ (n + 1)
    ⟨s.heap, s.toks, m₀, [], [], 0, rfl, hst, F, N, (fun _ hp => nomatch hp), h0, Nat.zero_le _, rfl⟩
  rintro k _ ⟨h, tk, m, ys, tl, i, rfl, hst', F', N', hoff, hR, hi, rfl⟩
  have next : ∀ h' : Heap, (∀ b o, b ∉ [I] → h.get? b = some o → h'.get? b = some o) → Fr h₁ C h' m ∧ News h₁ C h' ((D, lst ys) :: tl) := fun h' hk =>
    ⟨⟨F'.ns.at' fun o e => hk _ o (fun q => hIC (List.mem_singleton.mp q)) e, fun b o e => hk b o (fun q => by rw [List.mem_singleton.mp q, hI] at e; cases e) (F'.keep b o e), F'.above⟩,
     fun p hp => ⟨hk _ _ (fun q => by
        rcases List.mem_cons.mp hp with rfl | hp
        · exact hID (List.mem_singleton.mp q).symm
        · exact (hoff p hp).1 (List.mem_singleton.mp q)) (N' p hp).1, (N' p hp).2⟩⟩
  by_cases hlt : i < n
  · refine W.item i _ _ _ hlt hst' fun v h₂ tk₂ hP hst₂ hk₂ => ?_
    obtain ⟨F₂, N₂⟩ := next h₂ hk₂
    obtain ⟨oI, hoI⟩ := obj _ _ hst₂
    refine hgo (i + 1) _ v _ _ hst₂ ?_
    have N₃ : News h₁ C h₂ ((I, oI) :: (D, lst ys) :: tl) := fun p hp => by
      rcases List.mem_cons.mp hp with rfl | hp
      · exact ⟨hoI, Ne.symm hIC, hI⟩
      · exact N₂ p hp
    refine wpAny_mono (turn i v ys tl m h₂ tk₂ oI hlt hP hR hoff F₂ N₃) (fun _ s₂ e₂ => wpAny_mono e₂ (fun ok s₃ e₃ => ?_) fun _ _ x => x) fun _ _ x => x
    have stays : ∀ h' : Heap, h'.get? I = some oI → Grown h₁ h' → St (i + 1) h' := fun h' e g => st_of _ _ _ hst₂ (fun o q => by rw [hoI] at q; rw [← q]; exact e) g
    cases ok with
    | false =>
      simp only [Bool.false_eq_true, if_false]
      have e₃' : SkipEnd h₁ C I D oI ys s (R (i + 1)) s₃ := by simpa [Tested] using e₃
      obtain ⟨h₄, tk₄, m₄, tl₄, rfl, F₄, N₄, off₄, R₄⟩ := e₃'
      exact ⟨n + 1 - (i + 1), by omega, h₄, tk₄, m₄, ys, tl₄, i + 1, rfl, stays h₄ (N₄ _ (List.mem_cons_self ..)).1 F₄.keep, F₄, fun p hp => N₄ p (List.mem_cons_of_mem _ hp), off₄, R₄, hlt, rfl⟩
    | true =>
      simp only [if_true]
      have e₃' : wpAny (model prog w) A (eval elt cenv) (EltEnd h₁ C I D oI ys s (R (i + 1))) (fun _ _ => False) s₃ := by simpa [Tested] using e₃
      refine wpAny_mono e₃' (fun y s₄ e₄ => ?_) fun _ _ x => x
      obtain ⟨h₄, tk₄, m₄, tl₄, rfl, F₄, N₄, off₄, R₄⟩ := e₄
      refine append_K F₄ N₄ (Upd.tail hID (Upd.head fun p hp => (off₄ p hp).2)) (fun h₅ F₅ N₅ => ?_) (by have := hsz _ _ _ hR; simpa using this)
      rw [lst_snoc] at N₅
      exact ⟨n + 1 - (i + 1), by omega, h₅, tk₄, m₄, ys ++ [y], tl₄, i + 1, rfl, stays h₅ (N₅ _ (List.mem_cons_self ..)).1 F₅.keep, F₅, fun p hp => N₅ p (List.mem_cons_of_mem _ hp), off₄, R₄, hlt, rfl⟩
  · have hin : i = n := by omega
    subst hin
    refine W.done _ _ _ hst' fun h₂ tk₂ hk₂ => ?_
    obtain ⟨F₂, N₂⟩ := next h₂ hk₂
    exact done m ys tl h₂ tk₂ hR (fun p hp => (hoff p hp).2) F₂ N₂
end

/-- a comprehension, its source evaluated -/
noncomputable def CompAt (prog : Program) (w : World) (A : Around) (env : Env) (target elt iter : PySem.Expr) (ifs : List PySem.Expr) (scope : Scope) (pos : Pos) (cl : List (Str × Addr)) (E : Value → Shared → Prop) (use : Option (Value → Sem Unit)) (Q : Value → Shared → Prop) (xv : Value) (s₁ : Shared) : Prop :=
  wpAny (model prog w) A (pyIter xv) (fun it s₂ => wpAny (model prog w) A (newList []) (fun acc s₃ =>
    wpAny (model prog w) A (newFunctionEnv scope env.globals cl [] env.qual none .none (some env)) (fun cenv s₄ =>
      codeAny (model prog w) A (.compStart (.ListComp elt [⟨target, iter, ifs, 0⟩] scope pos) 0 it acc { cenv with scope := relabel scope env }) (compPost (model prog w) A E use Q acc cenv.locals) s₄) E s₃) E s₂) E s₁
section
variable {prog : Program} {w : World} {A : Around} {E : Value → Shared → Prop} {s : Shared} {env : Env} {target elt iter : PySem.Expr} {ifs : List PySem.Expr} {scope : Scope} {pos : Pos} {cl : List (Str × Addr)}
theorem comp_eval {Q : Value → Shared → Prop} (hclos : closureFor scope env = pure cl) (hkind : scope.kind = .function) (hnames : ∀ x ∈ scope.names, x.2 = .local → scope.names.lookup x.1 = some .local)
    (hs : ∀ x, foldedSetIterable iter env x = pure x)
    (h : wpAny (model prog w) A (eval iter env) (CompAt prog w A env target elt iter ifs scope pos cl E none Q) E s) :
    wpAny (model prog w) A (eval (.ListComp elt [⟨target, iter, ifs, 0⟩] scope pos) env) Q E s := by
  rw [eval_ListComp]
  exact wpAny_comprehension_free (use := none) rfl hs hclos hkind hnames h
theorem comp_assign {y : Str} {py spos : Pos} {Q : Flow → Shared → Prop}
    (hsw : swapsWith (.ListComp elt [⟨target, iter, ifs, 0⟩] scope pos) (some (.Name y py)) spos.line env = pure true)
    (hclos : closureFor scope env = pure cl) (hkind : scope.kind = .function) (hnames : ∀ x ∈ scope.names, x.2 = .local → scope.names.lookup x.1 = some .local)
    (hs : ∀ x, foldedSetIterable iter env x = pure x)
    (h : wpAny (model prog w) A (eval iter env) (CompAt prog w A env target elt iter ifs scope pos cl E (some (assign (.Name y py) env)) (fun _ s' => Q .next s')) E s) :
    wpAny (model prog w) A (exec (.Assign [.Name y py] (.ListComp elt [⟨target, iter, ifs, 0⟩] scope pos) spos) env) Q E s := by
  rw [exec_Assign_Name_used _ _ _ _ hsw]
  refine wpAny_bind (wpAny_standAt (wpAny_bind ?_))
  show wpAny _ A (do let _ ← comprehension (.ListComp elt [⟨target, iter, ifs, 0⟩] scope pos) scope env _ (newList []) false (eval iter env) (some (assign (.Name y py) env))) _ _ s
  exact wpAny_bind (wpAny_mono (wpAny_comprehension_free (use := some (assign (.Name y py) env)) (Q := fun _ s' => Q .next s') rfl hs hclos hkind hnames h) (fun _ s' hq => wpAny_pure (wpAny_pure hq)) fun _ _ e => e)

/-- the frame and the list of a comprehension are laid; then its loop -/
theorem comp_lay {use : Option (Value → Sem Unit)} {Q : Value → Shared → Prop} {I : Addr} {s₁ : Shared} (hcell : ∀ y ∈ scope.names, y.2 ≠ .cell) (hkind : scope.kind = .function)
    (self : ∀ (s' : Shared) (Q' : Value → Shared → Prop) (E' : Value → Shared → Prop), Grown s₁.heap s'.heap → Q' (.ref I) s' → wpAny (model prog w) A (pyIter (.ref I)) Q' E' s')
    (h : ∀ C D h, s₁.heap.objs.size ≤ C → s₁.heap.objs.size ≤ D → C ≠ D → Grown s₁.heap h → h.Ns C (fun _ => none) → h.get? D = some (lst []) →
      codeAny (model prog w) A (.compLoop (.ListComp elt [⟨target, iter, ifs, 0⟩] scope pos) 0 (.ref I) (.ref D) (compEnvC scope cl C env)) (compPost (model prog w) A E use Q (.ref D) C) { s₁ with heap := h }) :
    wpAny (model prog w) A (newList []) (fun acc s₃ =>
      wpAny (model prog w) A (newFunctionEnv scope env.globals cl [] env.qual none .none (some env)) (fun cenv s₄ =>
        codeAny (model prog w) A (.compStart (.ListComp elt [⟨target, iter, ifs, 0⟩] scope pos) 0 (.ref I) acc { cenv with scope := relabel scope env }) (compPost (model prog w) A E use Q acc cenv.locals) s₄) E s₃) E s₁ := by
  refine wpAny_newObj_type (wpAny_newFunctionEnv hcell (by intro y hy; simp at hy) (fun h₁ hns₁ hsb₁ => ?_) hkind)
  dsimp only at hns₁ hsb₁ ⊢
  generalize hH2 : s₁.heap.push { cls := .type "list", dict := none, data := .seq ([] : List Value).toArray } = H2 at hns₁ hsb₁ ⊢
  have hC : H2.objs.size = s₁.heap.objs.size + 1 := by rw [← hH2, Heap.size_push]
  have hDC : s₁.heap.objs.size ≠ H2.objs.size := by rw [hC]; exact Nat.ne_of_lt (Nat.lt_succ_self _)
  have hCle : s₁.heap.objs.size ≤ H2.objs.size := by rw [hC]; exact Nat.le_succ _
  have old : Grown s₁.heap h₁ := fun b o e => hsb₁.extBut b o (by rw [hC]; exact Nat.ne_of_lt (Nat.lt_succ_of_lt (Heap.lt_size e))) (Heap.get?_push_of_some _ (hH2 ▸ Heap.get?_push_of_some _ e))
  have hacc : h₁.get? s₁.heap.objs.size = some (lst []) := hsb₁.extBut _ _ hDC (Heap.get?_push_of_some _ (hH2 ▸ Heap.get?_push_size _ rfl))
  have loop : ∀ s₃ : Shared, s₃ = { s₁ with heap := h₁, toks := s₁.toks + ([] : List (Str × Value)).length } →
      codeAny (model prog w) A (.compLoop (.ListComp elt [⟨target, iter, ifs, 0⟩] scope pos) 0 (.ref I) (.ref s₁.heap.objs.size) (compEnvC scope cl H2.objs.size env)) (compPost (model prog w) A E use Q (.ref s₁.heap.objs.size) H2.objs.size) s₃ := by
    rintro s₃ rfl
    exact h H2.objs.size s₁.heap.objs.size h₁ hCle (Nat.le_refl _) (Ne.symm hDC) old hns₁ hacc
  exact codeAny_compStart_list (loop _ rfl) (self _ _ _ old (loop _ rfl))

theorem comp_list {use : Option (Value → Sem Unit)} {Q : Value → Shared → Prop} {s₁ : Shared} {l : Addr} {vs : List Value} (hh : A.handled = none) (hl : s₁.heap.IsList l vs.toArray) (hcell : ∀ y ∈ scope.names, y.2 ≠ .cell) (hkind : scope.kind = .function)
    (R : Nat → List Value → List (Addr × Obj) → Prop) (h0 : R 0 [] []) (hsz : ∀ i ys tl, R i ys tl → ys.length ≤ sizeLine)
    (turn : ∀ C I D i v ys tl m h tk oI, s₁.heap.objs.size ≤ C → vs[i]? = some v → R i ys tl → (∀ p ∈ tl, p.1 ≠ I ∧ p.1 ≠ D) → Fr s₁.heap C h m → News s₁.heap C h ((I, oI) :: (D, lst ys) :: tl) →
      wpAny (model prog w) A (assign target (compEnvC scope cl C env) v) (fun _ s₂ => wpAny (model prog w) A (tests ifs (compEnvC scope cl C env)) (Tested prog w A (compEnvC scope cl C env) elt s₁.heap C I D oI ys s₁ (R (i + 1))) (fun _ _ => False) s₂) (fun _ _ => False) { s₁ with heap := h, toks := tk })
    (done : ∀ C D m ys tl h tk, R vs.length ys tl → (∀ p ∈ tl, p.1 ≠ D) → Fr s₁.heap C h m → News s₁.heap C h ((D, lst ys) :: tl) → compPost (model prog w) A E use Q (.ref D) C (.ok .next) { s₁ with heap := h, toks := tk }) :
    CompAt prog w A env target elt iter ifs scope pos cl E use Q (.ref l) s₁ := by
  obtain ⟨ol, hol, _⟩ := id hl
  have hlt : l < s₁.heap.objs.size := Heap.lt_size hol
  refine wpAny_pyIter_list hl ?_
  have up : Grown s₁.heap (s₁.heap.push { cls := .type "list_iterator", data := .fields #[.ref l, .int 0 0] }) := fun b o e => Heap.get?_push_of_some _ e
  have hI0 : s₁.heap.get? s₁.heap.objs.size = none := Heap.get?_none_of_le (Nat.le_refl _)
  have hit : (s₁.heap.push { cls := .type "list_iterator", data := .fields #[.ref l, .int 0 0] }).IsListIter s₁.heap.objs.size l 0 := ⟨_, Heap.get?_push_size _ rfl, rfl, rfl⟩
  refine comp_lay hcell hkind (fun s' Q' E' g hq => wpAny_pyIter_listiter (hit.at fun o e => g _ o e) hq) ?_
  intro C D h hC hD hCD g hns hDo
  have hsz' : (s₁.heap.push { cls := .type "list_iterator", data := .fields #[.ref l, .int 0 0] }).objs.size = s₁.heap.objs.size + 1 := Heap.size_push ..
  have hC1 : s₁.heap.objs.size < C := by have : s₁.heap.objs.size + 1 ≤ C := hsz' ▸ hC; exact this
  have hD1 : s₁.heap.objs.size < D := by have : s₁.heap.objs.size + 1 ≤ D := hsz' ▸ hD; exact this
  have W := Walks.list (prog := prog) (w := w) hh s₁.heap.objs.size l (Nat.ne_of_lt hlt) vs.toArray
  have hlen : vs.toArray.size = vs.length := by simp
  rw [hlen] at W
  refine comp_walk (h₁ := s₁.heap) (cenv := compEnvC scope cl C env) (C := C) (m₀ := fun _ => none) rfl W (fun i h st => ?_) (fun i h h' st e g' => ⟨st.1.at fun o => e o, hl.at fun o e => g' _ o e⟩) hI0 (Nat.ne_of_gt hC1) (Nat.ne_of_lt hD1)
    ⟨hit.at fun o e => g _ o e, hl.at fun o e => g _ o (up _ o e)⟩ ⟨hns, fun b o e => g b o (up b o e), Nat.le_of_lt hC1⟩ (fun p hp => ?_) (fun i s' v Q' E' st hQ' => letGo_listiter st.1 hQ') R h0 hsz ?_ ?_
  · obtain ⟨⟨o, ho, _⟩, _⟩ := st; exact ⟨o, ho⟩
  · rw [List.mem_singleton.mp hp]
    exact ⟨hDo, Ne.symm hCD, Heap.get?_none_of_le (Nat.le_of_lt hD1)⟩
  · intro i v ys tl m h tk oI hi hP hR hoff F' N'
    exact turn C _ D i v ys tl m h tk oI (Nat.le_of_lt hC1) (by simpa using hP) hR hoff F' N'
  · intro m ys tl h tk hR hoff F' N'
    exact done C D m ys tl h tk hR hoff F' N'
theorem comp_range {use : Option (Value → Sem Unit)} {Q : Value → Shared → Prop} {s₁ : Shared} {r : Addr} {a b c : Int} {t u v : Tok} {n : Nat} (hh : A.handled = none) (hr : IsRange s₁.heap r a b c t u v) (hsmall : Builtin.Range.small a b c = true) (hrs : Builtin.Range.rangeSize a b c = (n : Int))
    (hcell : ∀ y ∈ scope.names, y.2 ≠ .cell) (hkind : scope.kind = .function)
    (R : Nat → List Value → List (Addr × Obj) → Prop) (h0 : R 0 [] []) (hsz : ∀ i ys tl, R i ys tl → ys.length ≤ sizeLine)
    (turn : ∀ C I D i t' ys tl m h tk oI, s₁.heap.objs.size ≤ C → i < n → R i ys tl → (∀ p ∈ tl, p.1 ≠ I ∧ p.1 ≠ D) → Fr s₁.heap C h m → News s₁.heap C h ((I, oI) :: (D, lst ys) :: tl) →
      wpAny (model prog w) A (assign target (compEnvC scope cl C env) (.int (a + (i : Nat) * c) t')) (fun _ s₂ => wpAny (model prog w) A (tests ifs (compEnvC scope cl C env)) (Tested prog w A (compEnvC scope cl C env) elt s₁.heap C I D oI ys s₁ (R (i + 1))) (fun _ _ => False) s₂) (fun _ _ => False) { s₁ with heap := h, toks := tk })
    (done : ∀ C D m ys tl h tk, R n ys tl → (∀ p ∈ tl, p.1 ≠ D) → Fr s₁.heap C h m → News s₁.heap C h ((D, lst ys) :: tl) → compPost (model prog w) A E use Q (.ref D) C (.ok .next) { s₁ with heap := h, toks := tk })
    (hgo : ∀ I v, letOwnedTupleGo target (.ref I) v = pure ()) :
    CompAt prog w A env target elt iter ifs scope pos cl E use Q (.ref r) s₁ := by
  refine wpAny_pyIter_range hr hsmall ?_
  rw [hrs]
  have hI0 : s₁.heap.get? s₁.heap.objs.size = none := Heap.get?_none_of_le (Nat.le_refl _)
  generalize hHI : s₁.heap.push { cls := .type "range_iterator", data := .fields #[rawInt a, rawInt (n : Int), rawInt c] } = HI
  have up : Grown s₁.heap HI := fun b o e => hHI ▸ Heap.get?_push_of_some _ e
  have hit : IsRangeIter HI s₁.heap.objs.size a n c := by rw [← hHI]; exact Heap.get?_push_size _ rfl
  refine comp_lay hcell hkind (fun s' Q' E' g hq => wpAny_pyIter_rangeiter (g _ _ hit) hq) ?_
  intro C D h hC hD hCD g hns hDo
  have hsz' : HI.objs.size = s₁.heap.objs.size + 1 := by rw [← hHI]; exact Heap.size_push ..
  have hC1 : s₁.heap.objs.size < C := by have : s₁.heap.objs.size + 1 ≤ C := hsz' ▸ hC; exact this
  have hD1 : s₁.heap.objs.size < D := by have : s₁.heap.objs.size + 1 ≤ D := hsz' ▸ hD; exact this
  have W := Walks.range (prog := prog) (w := w) hh s₁.heap.objs.size a c n
  refine comp_walk (h₁ := s₁.heap) (cenv := compEnvC scope cl C env) (C := C) (m₀ := fun _ => none) rfl W (fun i h st => ⟨_, st⟩) (fun i h h' st e g' => e _ st) hI0 (Nat.ne_of_gt hC1) (Nat.ne_of_lt hD1)
    (by show IsRangeIter _ _ _ _ _; simpa using g _ _ hit) ⟨hns, fun b o e => g b o (up b o e), Nat.le_of_lt hC1⟩ (fun p hp => ?_) (fun i s' v Q' E' st hQ' => wpAny_of_eq (hgo _ v) hQ') R h0 hsz ?_ ?_
  · rw [List.mem_singleton.mp hp]
    exact ⟨hDo, Ne.symm hCD, Heap.get?_none_of_le (Nat.le_of_lt hD1)⟩
  · rintro i _ ys tl m h tk oI hi ⟨t', rfl⟩ hR hoff F' N'
    exact turn C _ D i t' ys tl m h tk oI (Nat.le_of_lt hC1) hi hR hoff F' N'
  · intro m ys tl h tk hR hoff F' N'
    exact done C D m ys tl h tk hR hoff F' N'

/-- a comprehension's end where its list is handed on -/
theorem post_none {Q : Value → Shared → Prop} {s₁ : Shared} {C D : Addr} {m : Str → Option Value} {ys : List Value} {tl : List (Addr × Obj)} {h : Heap} {tk : Nat} (F : Fr s₁.heap C h m) (N : News s₁.heap C h ((D, lst ys) :: tl))
    (hQ : ∀ h', Grown s₁.heap h' → (∀ p ∈ (D, lst ys) :: tl, h'.get? p.1 = some p.2 ∧ s₁.heap.get? p.1 = none) → Q (.ref D) { s₁ with heap := h', toks := tk }) :
    compPost (model prog w) A E none Q (.ref D) C (.ok .next) { s₁ with heap := h, toks := tk } :=
  ⟨m, F.ns, fun h' hs' => hQ h' (fun b o e => hs'.extBut b o (Nat.ne_of_lt (Nat.lt_of_lt_of_le (Heap.lt_size e) F.above)) (F.keep b o e)) fun p hp => ⟨hs'.extBut _ _ (N p hp).2.1 (N p hp).1, (N p hp).2.2⟩⟩
/-- a comprehension's end where its list is stored under a local name -/
theorem post_assign {Q : Value → Shared → Prop} {s₁ : Shared} {C D : Addr} {m : Str → Option Value} {ys : List Value} {tl : List (Addr × Obj)} {h : Heap} {tk : Nat} {y : Str} {py : Pos} {h₀ : Heap} {m₀ : Str → Option Value} {news : List (Addr × Obj)}
    (F : Fr s₁.heap C h m) (N : News s₁.heap C h ((D, lst ys) :: tl)) (F₀ : Fr h₀ env.locals s₁.heap m₀) (N₀ : News h₀ env.locals s₁.heap news)
    (hy : env.kindOf y = some .local) (hp : (env.scope.kind == .class || (env.scope.kind == .module && env.locals != env.globals)) = false)
    (hQ : ∀ h' tk', Fr h₀ env.locals h' (fun z => if z = y then some (.ref D) else m₀ z) → News h₀ env.locals h' (((D, lst ys) :: tl) ++ news) → (∀ p ∈ (D, lst ys) :: tl, ∀ q ∈ news, p.1 ≠ q.1) → Q .none { s₁ with heap := h', toks := tk' }) :
    compPost (model prog w) A E (some (assign (.Name y py) env)) Q (.ref D) C (.ok .next) { s₁ with heap := h, toks := tk } := by
  have F₁ : Fr h₀ env.locals h m₀ := fr_grown F₀ F.keep
  have hCL : C ≠ env.locals := Nat.ne_of_gt (Nat.lt_of_lt_of_le F₀.ns.lt F.above)
  show wpAny _ A (assign (.Name y py) env (.ref D)) _ _ _
  refine wpAny_assign_Name (wpAny_storeName_local hy F₁.ns (fun h₂ hn₂ hs₂ => ?_) hp)
  have F₂ := F₁.set hn₂ hs₂
  refine ⟨m, F.ns.sameBut hs₂ hCL, fun h₃ hs₃ => ?_⟩
  have hC0 : h₀.get? C = none := by
    cases q : h₀.get? C with
    | none => rfl
    | some o => exact absurd (Nat.lt_of_lt_of_le (Heap.lt_size (F₀.keep _ _ q)) F.above) (Nat.lt_irrefl _)
  refine hQ h₃ _ (F₂.change hs₃ hCL hC0) (fun p hp => ?_) (fun p hp q hq e => ?_)
  · rcases List.mem_append.mp hp with hp | hp
    · have hpL : p.1 ≠ env.locals := fun e => by
        have h1 := (N p hp).2.2
        obtain ⟨oL, _, _, hL, _⟩ := F₀.ns
        rw [e, hL] at h1; cases h1
      refine ⟨hs₃.extBut _ _ (N p hp).2.1 (hs₂.extBut _ _ hpL (N p hp).1), hpL, ?_⟩
      cases q : h₀.get? p.1 with
      | none => rfl
      | some o => have := F₀.keep _ _ q; rw [(N p hp).2.2] at this; cases this
    · have h1 := (N₀ p hp).1
      refine ⟨hs₃.extBut _ _ (Nat.ne_of_lt (Nat.lt_of_lt_of_le (Heap.lt_size h1) F.above)) (hs₂.extBut _ _ (N₀ p hp).2.1 (F.keep _ _ h1)), (N₀ p hp).2⟩
  · have h1 := (N₀ q hq).1
    rw [← e, (N p hp).2.2] at h1; cases h1
end
end Mine
end

section
open PySem PySem.Calls PySem.W PyProof.Rows
namespace Mine
section
variable {M : Model} {A : Around} {E : Value → Shared → Prop} {s : Shared} {K : Frag} {h₀ : Heap} {L : Addr} {m mg mb : Str → Option Value} {env : Env} {p : Program} {loose : List Str} {x : Str} {pos : Pos} {v : Value} {Q : Value → Shared → Prop}
theorem cname_B (F : Fr h₀ L s.heap m) (X : K.In h₀) (T : TopRead p loose mg mb h₀) (e : nsIn K mainGlobals x = some none) (hv : bootBuiltins x = some v) (hn : x ≠ "__name__") (h : Q v s)
    (hg : env.globals = mainGlobals) (hb : env.builtins = builtinsNs) (hk : env.scope.kind = .function) (hx : env.kindOf x = some .globalImplicit) (hd : (x == ("__debug__" : Str)) = false) :
    wpAny M A (eval (.Name x pos) env) Q E s :=
  Name_function_global hk hx (loadGlobal_builtin (env := env) (by rw [hg]; exact T.g.keeps F.keep) (mg_none_of X T.g e) (by rw [hb]; exact T.b.keeps F.keep) ((T.builtins x hn).trans hv) h) hd
theorem cname_cell {scope : Scope} {cl : List (Str × Addr)} {C c : Addr} (F : Fr h₀ C s.heap m) (hc : cl.lookup x = some c) (hv : h₀.IsCell c (some v)) (h : Q v s)
    (hk : (compEnvC scope cl C env).scope.kind = .function) (hl : (compEnvC scope cl C env).kindOf x = some .cell) (hd : (x == ("__debug__" : Str)) = false) :
    wpAny M A (eval (.Name x pos) (compEnvC scope cl C env)) Q E s :=
  ldCellK hc (let ⟨o, ho, r⟩ := hv; ⟨o, F.keep _ _ ho, r⟩) h hk hl hd
theorem cstore {scope : Scope} {cl : List (Str × Addr)} {C : Addr} {news : List (Addr × Obj)} {Q : Unit → Shared → Prop} (F : Fr h₀ C s.heap m) (N : News h₀ C s.heap news)
    (h : ∀ h', Fr h₀ C h' (fun y => if y = x then some v else m y) → News h₀ C h' news → Q () { s with heap := h', toks := s.toks + 1 })
    (hk : (compEnvC scope cl C env).scope.kind = .function) (hl : (compEnvC scope cl C env).kindOf x = some .local) :
    wpAny M A (storeName (compEnvC scope cl C env) x v) Q E s :=
  wpAny_storeName_local hl F.ns (fun h' hn hs => h h' (F.set hn hs) (N.set hs)) (by rw [hk]; rfl)
end
end Mine
end

section
open PySem PySem.Calls PySem.W PyProof.Rows
namespace Mine
local macro_rules | `(tactic| walk_at "binaryOp FloorDiv int int") => `(tactic| (with_reducible refine fdiv_pow ?k1 ?_; (case k1 => omega)))
local macro_rules | `(tactic| walk_at "binaryOp FloorDiv int int") => `(tactic| (with_reducible refine fdiv_64 ?_))
local macro_rules | `(tactic| walk_at "binaryOp Mod int int") => `(tactic| (with_reducible refine fmod_pow ?_))
local macro_rules | `(tactic| walk_at "binaryOp Mod int int") => `(tactic| (with_reducible refine fmod_64 ?_))
local macro_rules | `(tactic| walk_at "eval Name") => `(tactic| (k_here; (with_reducible show wpAny _ _ (eval (PySem.Expr.Name _ _) (compEnvC _ _ _ _)) _ _ _); k_dflt (first
  | (refine' ldVarK ?F ?v ?_ ?a ?b ?c; (case F => exact Fr.ns (by k_asm)); (case v => exact rfl); (case a => exact rfl); (case b => exact rfl); (case c => decide); k_whole)
  | (refine' cname_cell ?F ?c ?v ?_ ?k ?l ?d; (case k => exact rfl); (case l => exact rfl); (case F => k_asm); (case c => exact rfl); (case v => assumption); (case d => decide); k_whole)
  | (refine' cname_B ?F ?X ?T ?e ?v ?n ?_ ?g ?b ?k ?x ?d; (case F => k_asm); (case X => k_asm); (case T => k_asm); (case g => exact rfl); (case b => exact rfl); (case k => exact rfl); (case x => exact rfl); (case d => decide); (case e => k_is); (case v => boot_fast); (case n => decide); k_whole)
  | (refine' nameG_K ?F ?X ?T ?e ?_ ?g ?k ?x ?d; (case F => k_asm); (case X => k_asm); (case T => k_asm); (case g => exact rfl); (case k => exact rfl); (case x => exact rfl); (case d => decide); (case e => k_is); k_whole))))
local macro_rules | `(tactic| walk_at "storeName") => `(tactic| (k_here; (with_reducible show wpAny _ _ (storeName (compEnvC _ _ _ _) _ _) _ _ _); k_dflt (refine' cstore ?F ?N ?_ ?k ?l; (case F => k_asm); (case N => k_asm); (case k => exact rfl); (case l => exact rfl); k_whole); intro h' F' N'))
local macro_rules | `(tactic| walk_at "tests nil") => `(tactic| (refine tests_nil ?_; dsimp only [Tested]))

section
open PySem PySem.W PyProof.Rows
set_option maxRecDepth 100000
noncomputable def nats (ns : List Nat) : List Int := ns.map fun n : Nat => (n : Int)
theorem nats_length (ns : List Nat) : (nats ns).length = ns.length := by simp [nats]
theorem nats_get {ns : List Nat} {i : Nat} {z : Int} (h : (nats ns)[i]? = some z) : ∃ n : Nat, z = (n : Int) ∧ ns[i]? = some n := by
  simp only [nats, List.getElem?_map, Option.map_eq_some_iff] at h
  obtain ⟨n, h1, e⟩ := h
  exact ⟨n, e.symm, h1⟩
theorem pick2 {h₀ h : Heap} {L : Addr} {m : Str → Option Value} {x1 x2 : Str} {v1 v2 : Value} (F : Fr h₀ L h m) (h1 : m x1 = some v1) (h2 : m x2 = some v2) :
    Fr h₀ L h (fun y => if y = x1 then some v1 else if y = x2 then some v2 else m y) := by
  refine fr_eq F fun y => ?_
  by_cases a : y = x1
  · rw [if_pos a, a, h1]
  · rw [if_neg a]
    by_cases b : y = x2
    · rw [if_pos b, b, h2]
    · rw [if_neg b]
theorem pick3 {h₀ h : Heap} {L : Addr} {m : Str → Option Value} {x1 x2 x3 : Str} {v1 v2 v3 : Value} (F : Fr h₀ L h m) (h1 : m x1 = some v1) (h2 : m x2 = some v2) (h3 : m x3 = some v3) :
    Fr h₀ L h (fun y => if y = x1 then some v1 else if y = x2 then some v2 else if y = x3 then some v3 else m y) := by
  refine fr_eq F fun y => ?_
  by_cases a : y = x1
  · rw [if_pos a, a, h1]
  · rw [if_neg a]
    by_cases b : y = x2
    · rw [if_pos b, b, h2]
    · rw [if_neg b]
      by_cases c : y = x3
      · rw [if_pos c, c, h3]
      · rw [if_neg c]
theorem octs_len {B : Nat} : ∀ {ns : List Nat}, (∀ n ∈ ns, n < 64 ^ B) → 1 ≤ B → (octs ns).length ≤ B * ns.length
  | [], _, _ => by simp [octs_nil]
  | n :: ns, h, hB => by
    have ih := octs_len (ns := ns) (fun m hm => h m (by simp [hm])) hB
    have h1 : (oct n).length = sz n := tl_length _ _
    have h2 := sz_le_of_lt hB (h n (by simp))
    rw [octs_cons, List.length_append, List.length_cons, Nat.mul_add]
    omega
theorem tl_get (n : Nat) : ∀ (d j : Nat), j < d → (tl n d)[j]? = some (n / 64 ^ (d - 1 - j) % 64 + if 0 < d - 1 - j then 64 else 0)
  | 0, _, h => by omega
  | d + 1, 0, _ => by rw [tl_succ]; simp
  | d + 1, j + 1, h => by
    rw [tl_succ, List.getElem?_cons_succ, tl_get n d j (by omega)]
    have e : d - 1 - j = d + 1 - 1 - (j + 1) := by omega
    rw [e]
theorem nats_append (a b : List Nat) : nats (a ++ b) = nats a ++ nats b := by simp [nats]
noncomputable def OcK (a D I : Addr) (oI : Obj) (ns : List Nat) (i n : Nat) (t : Tok) (j : Nat) (m : Str → Option Value) (nx : List (Addr × Obj)) : Prop :=
  ∃ (ws : Array Value) (c : Nat) (u : Str → Option Value), nx = [(D, W.listOf ws c), (I, oI)] ∧ IntsAre ws.toList (nats (octs (ns.take i) ++ (oct n).take j)) ∧ m = fun y => if y = Str.ofString "number" then some (.int (n : Int) t) else if y = Str.ofString "octets" then some (.ref D) else if y = Str.ofString "numbers" then some (.ref a) else u y
noncomputable def OcJ (a D : Addr) (ns : List Nat) (i : Nat) (m : Str → Option Value) (nx : List (Addr × Obj)) : Prop :=
  ∃ (ws : Array Value) (c : Nat) (u : Str → Option Value), nx = [(D, W.listOf ws c)] ∧ IntsAre ws.toList (nats (octs (ns.take i))) ∧ m = fun y => if y = Str.ofString "octets" then some (.ref D) else if y = Str.ofString "numbers" then some (.ref a) else u y
set_option maxHeartbeats 4000000 in
theorem octets_call : ∀ {w : World} {A : Around} {s : Shared} {p : Program} {loose : List Str} {mean : ExcName → Option Value} {mg mb : Str → Option Value} {a : Addr} {vs : List Value} {ns : List Nat} {Q E : Value → Shared → Prop},
    (hd.heap_39 w.params).In s.heap → Top p loose mean mg mb s.heap → A.depth < 890 → A.handled = none → s.heap.IsList a vs.toArray → IntsAre vs (nats ns) → (∀ n ∈ ns, n < 2 ^ 40) → ns.length ≤ 1000 →
    (∀ h' tk r ws c, Grown s.heap h' → s.heap.get? r = none → h'.get? r = some (W.listOf ws c) → IntsAre ws.toList (nats (octs ns)) → Q (.ref r) { s with heap := h', toks := tk }) →
    wpAny (model PySem.Challenge.rw_pg0056_01.row.prog w) A (call (.ref 42) [.ref a]) Q E s := by
  k_fill
  intro w A s p loose mean mg mb a vs ns Q E X T hroom hh hl hi hb hlen hQ
  refine' call_k0 (binds := [(Str.ofString "numbers", .ref a)]) X T.nolimit ?ho ?hcd ?hr ?hb ?hl ?_ ?c1 ?c2 ?c3 ?c4
  case ho => k_is
  case hcd => k_is
  case hr => simp only [recursionLimit]; omega
  case hb => exact BindsTo.of_eq rfl
  case hl => exact locs rfl
  case c1 => rfl
  case c2 => rfl
  case c3 => rfl
  case c4 => decide
  intro h₁ F
  have N : News s.heap s.heap.objs.size h₁ [] := News.nil
  repeat' (first | (fail_if_success (with_reducible show wpAny _ _ (exec (Stmt.For _ _ _ _ _) _) _ _ _)); walk1; (try dsimp only) | fail "x")
  refine for_k ?_
  repeat' (walk1; (try dsimp only))
  rename_i D _ _ h' F' N'
  have F2 := pick2 (x1 := Str.ofString "octets") (x2 := Str.ofString "numbers") F' rfl rfl
  refine for_list (vs := vs) (OcJ a D ns) hh F2 N' ⟨#[], 0, _, rfl, .nil, rfl⟩ ?_ ?_ ?_
  · rintro i m nx h ⟨ws, c, u, rfl, _, rfl⟩ F₁ N₁
    exact hl.at fun o e => F₁.keep _ o e
  · rintro i v m nx h tk' oI hv ⟨ws, c, u, rfl, hws, rfl⟩ hnI F₁ N₁
    obtain ⟨_, t, rfl, hn⟩ := hi.at i v hv
    obtain ⟨n, rfl, hn'⟩ := nats_get hn
    have hnb := hb n (List.mem_of_getElem? hn')
    have hD : (D : Nat) ≠ h'.objs.size := hnI _ (List.mem_singleton.mpr rfl)
    simp only [List.cons_append, List.nil_append] at N₁
    clear F2 F' N'
    repeat' (first | (fail_if_success (with_reducible show wpAny _ _ (exec (Stmt.For _ _ _ _ _) _) _ _ _)); walk1; (try dsimp only) | fail "x")
    refine for_k ?_
    repeat' (walk1; (try dsimp only))
    rename Fr _ _ _ _ => F₂
    rename News _ _ _ _ => N₂
    refine size_call (X.keeps F₂.keep) (T.keeps F₂.keep) (by show A.depth + 1 < 900; omega) hnb ?_
    intro h₃ tk₃ t₃ g₃
    replace F₂ := fr_grown F₂ g₃
    replace N₂ := news_grown N₂ g₃
    dsimp only
    repeat' (walk1; (try dsimp only))
    rename_i h₄ tk₄ t₁ u₁ v₁ hr F₄ N₄ g₄
    have hsz7 : sz n ≤ 7 := sz_le_of_lt (by omega) (by omega)
    have hsz1 := sz_pos n
    have F₅ := pick3 (x1 := Str.ofString "number") (x2 := Str.ofString "octets") (x3 := Str.ofString "numbers") F₄ rfl rfl rfl
    refine for_range (n := sz n) (OcK a D h'.objs.size oI ns i n t) hh hr ?_ ?_ F₅ N₄ ⟨ws, c, _, rfl, by simpa using hws, rfl⟩ ?_ ?_ (fun _ => rfl)
    · exact small_down (by omega) (by omega) (by omega) (by omega)
    · rw [rangeSize_downNat]; omega
    · rintro j m nx h₅ tk₅ oJ t' hj ⟨ws', c', u', rfl, hws', rfl⟩ hnJ F₆ N₆
      clear F₅ F₄ N₄ F₁ N₁
      have hDJ : (D : Nat) ≠ h₄.objs.size := hnJ _ (List.Mem.head _)
      simp only [List.cons_append, List.nil_append] at N₆
      have hlen5 : ws'.size ≤ sizeLine := by
        have h1 := hws'.length
        rw [nats_length, List.length_append, List.length_take] at h1
        have h2 : (octs (ns.take i)).length ≤ 7 * (ns.take i).length := octs_len (fun m hm => by have := hb m (List.mem_of_mem_take hm); omega) (by omega)
        rw [List.length_take] at h2
        have h3 : ws'.toList.length = ws'.size := by simp
        rw [sizeLine_eq]; omega
      have hk : ((sz n : Int) - 1 + (j : Int) * (-1)) = ((sz n - 1 - j : Nat) : Int) := by omega
      rw [hk]
      have hget := tl_get n (sz n) j hj
      have hrest : ∀ p ∈ [(h'.objs.size, oI), (h₄.objs.size, oJ)], p.1 ≠ D := by
        intro p hp
        rcases List.mem_cons.mp hp with rfl | hp
        · exact Ne.symm hD
        · rw [List.mem_singleton.mp hp]; exact Ne.symm hDJ
      have hnK : ∀ o, ∀ p ∈ [(D, o), (h'.objs.size, oI)], p.1 ≠ h₄.objs.size := by
        intro o p hp
        rcases List.mem_cons.mp hp with rfl | hp
        · exact hDJ
        · rw [List.mem_singleton.mp hp]; exact hnJ _ (List.Mem.tail _ (List.Mem.head _))
      have htake : ∀ x : Nat, (tl n (sz n))[j]? = some x → (oct n).take (j + 1) = (oct n).take j ++ [x] := by
        intro x hx; rw [List.take_add_one]; unfold oct; rw [hx]; rfl
      repeat' (walk1; (try dsimp only))
      all_goals (rename Fr _ _ _ _ => F₇; rename News _ _ _ _ => N₇; refine append_K F₇ N₇ (Upd.head hrest) ?_ hlen5; intro h₈ F₈ N₈; (try dsimp only); repeat' (walk1; (try dsimp only)))
      · rename_i hpos _ _ _
        rw [if_pos (by omega)] at hget
        refine ⟨_, _, _, [(D, _), (h'.objs.size, oI)], rfl, pick3 (x1 := Str.ofString "number") (x2 := Str.ofString "octets") (x3 := Str.ofString "numbers") F₈ rfl rfl rfl, N₈, hnK _, _, _, _, rfl, ?_, rfl⟩
        rw [htake _ hget, ← List.append_assoc, nats_append, Array.toList_push]
        exact hws'.append (.cons _ _ .nil)
      · rename_i hpos _ _ _
        rw [if_neg (by omega)] at hget
        refine ⟨_, _, _, [(D, _), (h'.objs.size, oI)], rfl, pick3 (x1 := Str.ofString "number") (x2 := Str.ofString "octets") (x3 := Str.ofString "numbers") F₈ rfl rfl rfl, N₈, hnK _, _, _, _, rfl, ?_, rfl⟩
        rw [htake _ hget, ← List.append_assoc, nats_append, Array.toList_push]
        exact hws'.append (.cons _ _ .nil)
    · rintro m nx h₅ tk₅ ⟨ws', c', u', rfl, hws', rfl⟩ F₆ N₆
      repeat' (walk1; (try dsimp only))
      refine ⟨_, _, _, [(D, _)], rfl, pick2 (x1 := Str.ofString "octets") (x2 := Str.ofString "numbers") F₆ rfl rfl, N₆, ?_, _, _, _, rfl, ?_, rfl⟩
      · intro p hp; rw [List.mem_singleton.mp hp]; exact hD
      · have e : ns.take (i + 1) = ns.take i ++ [n] := by rw [List.take_add_one, hn']; rfl
        rw [e, octs_append, octs_cons, octs_nil, List.append_nil]
        have e2 : (oct n).take (sz n) = oct n := List.take_of_length_le (Nat.le_of_eq (tl_length n (sz n)))
        rw [e2] at hws'
        exact hws'
  · rintro m nx h tk' ⟨ws, c, u, rfl, hws, rfl⟩ F₁ N₁
    repeat' (walk1; (try dsimp only))
    refine hQ _ _ _ _ _ F₁.keep (N₁.fresh (List.mem_singleton.mpr rfl)) (N₁.get (List.mem_singleton.mpr rfl)) ?_
    rw [hi.length, nats_length, List.take_length] at hws
    exact hws
end

section
open PySem PySem.W PyProof.Rows
set_option maxRecDepth 100000
theorem strs_snoc {y : Str} {t : Tok} : ∀ {vs : List Value} {ys : List Str}, StrsAre vs ys → StrsAre (vs ++ [.str y t]) (ys ++ [y])
  | _, _, .nil => .cons _ _ .nil
  | _, _, .cons _ _ r => .cons _ _ (strs_snoc r)
theorem strs_len : ∀ {vs : List Value} {ys : List Str}, StrsAre vs ys → vs.length = ys.length
  | _, _, .nil => rfl
  | _, _, .cons _ _ r => congrArg (· + 1) (strs_len r)
noncomputable def sign (c : Nat) : Str := ⟨#[c]⟩
theorem empty_cs : cs (Str.ofString "") = [] := by decide +kernel
theorem cs_append (x y : Str) : cs (x ++ y) = cs x ++ cs y := by show (x.cps ++ y.cps).toList = _; simp
theorem join_signs : ∀ os : List Nat, cs (Str.join (Str.ofString "") (os.map sign)) = os
  | [] => rfl
  | [c] => rfl
  | c :: d :: os => by
    have ih := join_signs (d :: os)
    show cs (sign c ++ Str.ofString "" ++ Str.join (Str.ofString "") ((d :: os).map sign)) = _
    rw [cs_append, cs_append, empty_cs, ih]; rfl
theorem signs_sum (os : List Nat) : ((os.map sign).map (·.length)).sum = os.length := by
  induction os with
  | nil => rfl
  | cons c os ih => simp only [List.map_cons, List.sum_cons, List.length_cons, ih]; show 1 + _ = _; omega
noncomputable def SgR (os : List Nat) (i : Nat) (ys : List Value) (tl : List (Addr × Obj)) : Prop := tl = [] ∧ StrsAre ys ((os.take i).map sign)
set_option maxHeartbeats 4000000 in
theorem signs_call : ∀ {w : World} {A : Around} {s : Shared} {p : Program} {loose : List Str} {mean : ExcName → Option Value} {mg mb : Str → Option Value} {a : Addr} {vs : List Value} {ns : List Nat} {Q E : Value → Shared → Prop},
    (hd.heap_39 w.params).In s.heap → Top p loose mean mg mb s.heap → A.depth < 880 → A.handled = none → s.heap.IsList a vs.toArray → IntsAre vs (nats ns) → (∀ n ∈ ns, n < 2 ^ 40) → ns.length ≤ 1000 →
    (∀ h' tk x t, Grown s.heap h' → cs x = octs ns → Q (.str x t) { s with heap := h', toks := tk }) →
    wpAny (model PySem.Challenge.rw_pg0056_01.row.prog w) A (call (.ref 47) [.ref a]) Q E s := by
  k_fill
  intro w A s p loose mean mg mb a vs ns Q E X T hroom hh hl hi hb hlen hQ
  refine' call_k0 (binds := [(Str.ofString "numbers", .ref a)]) X T.nolimit ?ho ?hcd ?hr ?hb ?hl ?_ ?c1 ?c2 ?c3 ?c4
  case ho => k_is
  case hcd => k_is
  case hr => simp only [recursionLimit]; omega
  case hb => exact BindsTo.of_eq rfl
  case hl => exact locs rfl
  case c1 => rfl
  case c2 => rfl
  case c3 => rfl
  case c4 => decide
  intro h₁ F
  have N : News s.heap s.heap.objs.size h₁ [] := News.nil
  repeat' (first | (fail_if_success (with_reducible show wpAny _ _ (eval (PySem.Expr.ListComp _ _ _ _) _) _ _ _)); walk1; (try dsimp only) | fail "x")
  refine' comp_eval (cl := []) ?h1 ?h2 ?h3 ?h4 ?_
  case h1 => rfl
  case h2 => rfl
  case h3 => decide
  case h4 => intro _; rfl
  repeat' (walk1; (try dsimp only))
  rename Fr _ _ _ _ => F₂
  rename News _ _ _ _ => N₂
  have X₁ := X.keeps F₂.keep
  have T₁ := T.keeps F₂.keep
  refine octets_call X₁ T₁ (by show A.depth + 1 < 890; omega) hh (hl.at fun o e => F₂.keep _ o e) hi hb hlen ?_
  intro h₂ tk₂ r ws c g₂ hr hro hws
  have X₂ := X₁.keeps g₂
  have T₂ := T₁.keeps g₂
  have hol : (octs ns).length ≤ 7 * ns.length := octs_len (fun m hm => by have := hb m hm; omega) (by omega)
  refine comp_list (vs := ws.toList) hh ⟨_, hro, rfl, _, rfl⟩ ?_ rfl (SgR (octs ns)) ⟨rfl, .nil⟩ ?_ ?_ ?_
  · decide
  · rintro i ys tl ⟨_, hy⟩
    have := strs_len hy
    rw [List.length_map, List.length_take] at this
    rw [sizeLine_eq]; omega
  · rintro C I D i v ys tl m h tk oI hC hv ⟨rfl, hy⟩ hoff F₃ N₃
    obtain ⟨_, t, rfl, hn⟩ := hws.at i v hv
    obtain ⟨n, rfl, hn'⟩ := nats_get hn
    have hn128 := octs_lt ns n (List.mem_of_getElem? hn')
    clear F₂ N₂
    repeat' (walk1; (try dsimp only))
    show EltEnd _ _ _ _ _ _ _ _ _ _
    rename Fr _ _ _ _ => F₄
    rename News _ _ _ _ => N₄
    refine ⟨_, _, _, [], rfl, F₄, N₄, (fun _ hp => nomatch hp), rfl, ?_⟩
    have e : (octs ns).take (i + 1) = (octs ns).take i ++ [n] := by rw [List.take_add_one, hn']; rfl
    rw [e, List.map_append]
    exact strs_snoc hy
  · rintro C D m ys tl h tk ⟨rfl, hy⟩ hoff F₃ N₃
    refine post_none F₃ N₃ ?_
    intro h₄ g₄ hnew
    have hD := (hnew _ (List.mem_cons_self ..)).1
    have F₅ := fr_grown (fr_grown F₂ g₂) g₄
    have N₅ : News s.heap s.heap.objs.size h₄ [] := News.nil
    clear F₂ N₂ F₃ N₃
    dsimp only
    repeat' (walk1; (try dsimp only))
    rw [List.take_of_length_le (by have := hws.length; rw [nats_length] at this; exact Nat.le_of_eq this.symm)] at hy
    refine join_list (items := ys.toArray) ⟨_, hD, rfl, _, rfl⟩ hy ?_ ?_
    · have e0 : (Str.ofString "").length = 0 := by decide +kernel
      rw [signs_sum, e0]; omega
    · intro t' k
      refine hQ _ _ _ _ F₅.keep ?_
      show cs (Builtin.Str.glued _ _) = _
      rw [StrLaws.glued_eq_join, join_signs]
end

section
open PySem PySem.Calls PySem.W PyProof.Rows
set_option maxRecDepth 100000
abbrev itObj (l : Addr) (j : Nat) : Obj := { cls := .type "list_iterator", data := .fields #[.ref l, .int (j : Int) 0] }
abbrev itDone (j : Nat) : Obj := { cls := .type "list_iterator", data := .fields #[.none, .int (j : Int) 0] }
theorem ent_iter : entryFor table "iter" = some Builtin.«iter» := entryFor_of_fast (by kernel_rfl)
theorem ent_next : entryFor table "next" = some Builtin.«next» := entryFor_of_fast (by kernel_rfl)
theorem arg_iter (a : Value) : argsOk "iter" ⟨[a], []⟩ := by unfold argsOk; kernel_rfl
theorem arg_next (a : Value) : argsOk "next" ⟨[a], []⟩ := by unfold argsOk; kernel_rfl
section
variable {prog : Program} {w : World} {A : Around} {E Q : Value → Shared → Prop} {s : Shared} {h₀ : Heap} {L l I : Addr} {m : Str → Option Value} {news rest : List (Addr × Obj)} {items : Array Value} {j : Nat}
theorem own_stop (args : List Value) : ownMembersOf (.type "StopIteration") args = #[] := by
  unfold ownMembersOf; split <;> first | rfl | (rename_i h; revert h; decide) | simp_all
theorem iter_list (F : Fr h₀ L s.heap m) (N : News h₀ L s.heap news) (hl : s.heap.IsList l items)
    (h : ∀ I h', Fr h₀ L h' m → News h₀ L h' ((I, itObj l 0) :: news) → (∀ p ∈ news, p.1 ≠ I) → Q (.ref I) { s with heap := h' }) :
    wpAny (model prog w) A (call (.builtin "iter") [.ref l]) Q E s := by
  refine call_function_entry (by decide +kernel) (by decide +kernel) ent_iter (arg_iter _) ?_
  unfold Builtin.«iter»
  refine wpAny_bind (m := someArgs "iter" 1 2 _) (wpAny_of_eq (a := [Value.ref l]) (by first | rfl | kernel_rfl!) ?_)
  show wpAny _ _ (pyIter (.ref l) >>= _) _ _ _
  refine wpAny_bind (wpAny_pyIter_list hl ?_)
  exact wpAny_pure ⟨_, rfl, h _ _ (F.push _) (News.push F N _ rfl) (fun q hq => Nat.ne_of_lt (Heap.lt_size (N q hq).1))⟩
theorem next_item {x : Value} (F : Fr h₀ L s.heap m) (N : News h₀ L s.heap ((I, itObj l j) :: rest)) (hne : ∀ p ∈ rest, p.1 ≠ I) (hl : s.heap.IsList l items) (hx : items[j]? = some x)
    (h : ∀ h', Fr h₀ L h' m → News h₀ L h' ((I, itObj l (j + 1)) :: rest) → Q x { s with heap := h' }) :
    wpAny (model prog w) A (call (.builtin "next") [.ref I]) Q E s := by
  have hm := N _ (List.Mem.head _)
  have ho : s.heap.get? I = some (itObj l j) := hm.1
  have hit : s.heap.IsListIter I l j := ⟨_, ho, rfl, rfl⟩
  refine call_function_entry (by decide +kernel) (by decide +kernel) ent_next (arg_next _) ?_
  unfold Builtin.«next»
  refine wpAny_bind (m := someArgs "next" 1 2 _) (wpAny_of_eq (a := [Value.ref I]) (by first | rfl | kernel_rfl!) ?_)
  dsimp only
  refine wpAny_bind (wpAny_specialOf (name := Str.ofString "__next__") hit.typeIs slot_listiter_next.lookup ?_)
  refine wpAny_ite_split (fun hab => absurd hab (by decide)) (fun _ => ?_)
  obtain ⟨ol, hol, _, nl, hdl⟩ := hl
  refine wpAny_bind (wpAny_callSpecial?_slot (name := Str.ofString "__next__") hit.typeIs slot_listiter_next (wpAny_call_entry slot_listiter_next hit.typeIs entry_listiter_next ?_ (args_listiter_next _)))
  show wpAny _ _ (field (.ref I) 0 >>= _) _ _ s
  refine wpAny_bind (wpAny_field ho rfl (x := .ref l) rfl ?_)
  show wpAny _ _ (if (Value.ref l == Value.none) = true then _ else _) _ _ s
  rw [if_neg (show ¬ ((Value.ref l == Value.none) = true) from Bool.false_ne_true)]
  show wpAny _ _ (field (.ref I) 1 >>= _) _ _ s
  refine wpAny_bind (wpAny_field ho rfl (x := .int j 0) rfl ?_)
  show wpAny _ _ (seqItems? (.ref l) >>= _) _ _ s
  refine wpAny_bind (wpAny_seqItems hol hdl ?_)
  simp only [Int.toNat_natCast, hx]
  have hs : Heap.SameBut I s.heap (s.heap.update I (Obj.mapFields (·.setIfInBounds 1 (rawInt ((j : Int) + 1))))) := Heap.SameBut.update ..
  have ho' : (s.heap.update I (Obj.mapFields (·.setIfInBounds 1 (rawInt ((j : Int) + 1))))).get? I = some (itObj l (j + 1)) := Heap.get?_update_self _ ho rfl
  refine wpAny_bind (wpAny_setField ho rfl (by show 1 < 2; decide) (wpAny_pure ⟨x, rfl, wpAny_pure ⟨_, rfl, h _ (F.change hs hm.2.1 hm.2.2) (N.setHead hne hs ho')⟩⟩))
theorem next_end (hh : A.handled = none) (F : Fr h₀ L s.heap m) (N : News h₀ L s.heap ((I, itObj l j) :: rest)) (hne : ∀ p ∈ rest, p.1 ≠ I) (hl : s.heap.IsList l items) (hx : items[j]? = none)
    (h : ∀ h₁ h' e, Fr h₀ L h₁ m → News h₀ L h₁ ((I, itDone j) :: rest) → Heap.NewExc h₁ h' e "StopIteration" → E (.ref e) { s with heap := h' }) :
    wpAny (model prog w) A (call (.builtin "next") [.ref I]) Q E s := by
  have hm := N _ (List.Mem.head _)
  have ho : s.heap.get? I = some (itObj l j) := hm.1
  have hit : s.heap.IsListIter I l j := ⟨_, ho, rfl, rfl⟩
  refine call_function_entry (by decide +kernel) (by decide +kernel) ent_next (arg_next _) ?_
  unfold Builtin.«next»
  refine wpAny_bind (m := someArgs "next" 1 2 _) (wpAny_of_eq (a := [Value.ref I]) (by first | rfl | kernel_rfl!) ?_)
  dsimp only
  refine wpAny_bind (wpAny_specialOf (name := Str.ofString "__next__") hit.typeIs slot_listiter_next.lookup ?_)
  refine wpAny_ite_split (fun hab => absurd hab (by decide)) (fun _ => ?_)
  obtain ⟨ol, hol, _, nl, hdl⟩ := hl
  refine wpAny_bind (wpAny_callSpecial?_slot (name := Str.ofString "__next__") hit.typeIs slot_listiter_next (wpAny_call_entry slot_listiter_next hit.typeIs entry_listiter_next ?_ (args_listiter_next _)))
  show wpAny _ _ (field (.ref I) 0 >>= _) _ _ s
  refine wpAny_bind (wpAny_field ho rfl (x := .ref l) rfl ?_)
  show wpAny _ _ (if (Value.ref l == Value.none) = true then _ else _) _ _ s
  rw [if_neg (show ¬ ((Value.ref l == Value.none) = true) from Bool.false_ne_true)]
  show wpAny _ _ (field (.ref I) 1 >>= _) _ _ s
  refine wpAny_bind (wpAny_field ho rfl (x := .int j 0) rfl ?_)
  show wpAny _ _ (seqItems? (.ref l) >>= _) _ _ s
  refine wpAny_bind (wpAny_seqItems hol hdl ?_)
  simp only [Int.toNat_natCast, hx]
  have hs : Heap.SameBut I s.heap (s.heap.update I (Obj.mapFields (·.setIfInBounds 0 .none))) := Heap.SameBut.update ..
  have ho' : (s.heap.update I (Obj.mapFields (·.setIfInBounds 0 .none))).get? I = some (itDone j) := Heap.get?_update_self _ ho rfl
  refine wpAny_bind (wpAny_rule (wpAny_bind (wpAny_setField ho rfl (by show 0 < 2; decide) ?_)))
  show wpAny _ _ (newExc (.type "StopIteration") [] >>= _) _ _ _
  refine wpAny_bind ?_
  simp only [newExc, newTuple]
  refine wpAny_bind (wpAny_newObj_type ?_ (by size_fits))
  refine wpAny_bind (m := firstArgMember _ _) (wpAny_of_eq (a := Value.none) (by first | rfl | (simp only [firstArgMember]; rfl)) ?_)
  rw [own_stop]
  refine wpAny_newObj_type ?_ (by size_fits)
  simp only [raiseNew]
  refine wpAny_bind (wpAny_handled ?_)
  rw [show A.in1.handled = none from hh]
  refine wpAny_bind (wpAny_pure (wpAny_throw ?_))
  exact h _ _ _ (F.change hs hm.2.1 hm.2.2) (N.setHead hne hs ho') ⟨fun b o hb => Heap.get?_push_of_some _ (Heap.get?_push_of_some _ hb), Heap.get?_none_of_le (by simp), _, .ref (s.heap.update I (Obj.mapFields (·.setIfInBounds 0 .none))).objs.size, Heap.get?_push_size _ rfl, rfl, by simp⟩
end
end

section
open PySem PySem.W PyProof.Rows
theorem and63 (x : Nat) : Builtin.bitAnd (x : Int) 63 = ((x % 64 : Nat) : Int) := by
  rw [bitAnd_pp (by omega) (by decide)]
  rw [show ((x : Int)).toNat = x from Int.toNat_natCast x]
  show ((x &&& (2 ^ 6 - 1) : Nat) : Int) = _
  rw [Nat.and_two_pow_sub_one_eq_mod]
theorem and64_all : ∀ o : Fin 128, o.val &&& 64 = o.val / 64 * 64 := by decide +kernel
theorem and64 {x : Nat} (h : x < 128) : Builtin.bitAnd (x : Int) 64 = ((x / 64 * 64 : Nat) : Int) := by
  rw [bitAnd_pp (by omega) (by decide)]
  rw [show ((x : Int)).toNat = x from Int.toNat_natCast x]
  show ((x &&& 64 : Nat) : Int) = _
  rw [and64_all ⟨x, h⟩]
theorem or64 (v r : Nat) (h : r < 64) : Builtin.bitOr ((v * 64 : Nat) : Int) (r : Int) = ((v * 64 + r : Nat) : Int) := by
  rw [bitOr_and, bitAnd_pp (by omega) (by omega), Int.toNat_natCast, Int.toNat_natCast]
  have e : v * 64 &&& r = 0 := by
    have h1 : r = r &&& (2 ^ 6 - 1) := by rw [Nat.and_two_pow_sub_one_eq_mod, Nat.mod_eq_of_lt h]
    rw [h1, Nat.and_comm r, ← Nat.and_assoc, Nat.and_two_pow_sub_one_eq_mod]
    have h2 : v * 64 % 2 ^ 6 = 0 := by omega
    rw [h2]; simp
  rw [e]; simp
section
variable {prog : Program} {w : World} {A : Around} {E Q : Value → Shared → Prop} {s : Shared} {x v r : Nat} {t u : Tok}
theorem band63 (h : Q (.int ((x % 64 : Nat) : Int) s.toks) { s with toks := s.toks + 1 }) : wpAny (model prog w) A (binaryOp .BitAnd (.int (x : Int) t) (.int 63 u)) Q E s :=
  and_int (by rw [and63]; exact h)
theorem band64 (hx : x < 128) (h : Q (.int ((x / 64 * 64 : Nat) : Int) s.toks) { s with toks := s.toks + 1 }) : wpAny (model prog w) A (binaryOp .BitAnd (.int (x : Int) t) (.int 64 u)) Q E s :=
  and_int (by rw [and64 hx]; exact h)
theorem ilsh6 (hv : v < 2 ^ 64) (h : Q (.int ((v * 64 : Nat) : Int) s.toks) { s with toks := s.toks + 1 }) : wpAny (model prog w) A (inplaceOp .LShift (.int (v : Int) t) (.int 6 u)) Q E s :=
  ilshift_int_small (by decide) (by decide) (by rw [Int.natAbs_natCast]; exact hv) (by rw [show (v : Int) * 2 ^ (6 : Int).toNat = ((v * 64 : Nat) : Int) by rw [show ((6 : Int).toNat) = 6 from rfl]; omega]; exact h)
theorem ibor64 (hr : r < 64) (h : Q (.int ((v * 64 + r : Nat) : Int) s.toks) { s with toks := s.toks + 1 }) : wpAny (model prog w) A (inplaceOp .BitOr (.int ((v * 64 : Nat) : Int) t) (.int (r : Int) u)) Q E s :=
  ior_int (by rw [or64 v r hr]; exact h)
end
end

section
open PySem PySem.W PyProof.Rows
set_option maxRecDepth 100000
local macro_rules | `(tactic| walk_at "binaryOp BitAnd int int") => `(tactic| (with_reducible refine band64 ?k1 ?_; (case k1 => omega)))
local macro_rules | `(tactic| walk_at "binaryOp BitAnd int int") => `(tactic| (with_reducible refine band63 ?_))
local macro_rules | `(tactic| walk_at "inplaceOp LShift int int") => `(tactic| (with_reducible refine ilsh6 ?k1 ?_; (case k1 => omega)))
local macro_rules | `(tactic| walk_at "inplaceOp BitOr int int") => `(tactic| (with_reducible refine ibor64 ?k1 ?_; (case k1 => omega)))
theorem led_list {h₀ h : Heap} {L l I : Addr} {o : Obj} {items : Array Value} {c : Nat} {rest : List (Addr × Obj)} (N : News h₀ L h ((I, o) :: rest)) (hl : (l, W.listOf items c) ∈ rest) : h.IsList l items := ⟨_, (N _ (List.Mem.tail _ hl)).1, rfl, _, rfl⟩
noncomputable def PaJ (g : Heap) (L' I l : Addr) (rest : List (Addr × Obj)) (s : Shared) (n j k : Nat) (s' : Shared) : Prop :=
  ∃ (h : Heap) (tk t v o : Nat) (tv tb : Tok) (u : Str → Option Value), s' = { s with heap := h, toks := tk } ∧ Fr g L' h (fun y => if y = Str.ofString "val" then some (.int ((v : Nat) : Int) tv) else if y = Str.ofString "b" then some (.int ((o : Nat) : Int) tb) else if y = Str.ofString "iterator" then some (Value.ref I) else u y) ∧
    News g L' h ((I, itObj l (j + t)) :: rest) ∧ 1 ≤ t ∧ t ≤ sz n ∧ v = n / 64 ^ (sz n - t) ∧ o < 128 ∧ o / 64 = (if 0 < sz n - t then 1 else 0) ∧ k = sz n - t
set_option maxHeartbeats 4000000 in
theorem parse_number : ∀ {w : World} {A A₀ : Around} {s : Shared} {p : Program} {loose : List Str} {mean : ExcName → Option Value} {mg mb : Str → Option Value} {base h₀ : Heap} {outer : List Env} {env : Env} {L I l : Addr} {m : Str → Option Value} {rest : List (Addr × Obj)} {items : Array Value} {c : Nat} {os more : List Nat} {j n : Nat} {Q E : Value → Shared → Prop},
    Below A₀ base outer h₀ → Fr h₀ L s.heap m → (hd.heap_39 w.params).In h₀ → News h₀ L s.heap ((I, itObj l j) :: rest) → (∀ p ∈ rest, p.1 ≠ I) → Top p loose mean mg mb h₀ → A.frames = some (env :: outer) → env.frame = some L → env.scope.kind = .function → A.depth < 890 → A.handled = none →
    (l, W.listOf items c) ∈ rest → IntsAre items.toList (nats os) → os.drop j = oct n ++ more → n < 2 ^ 40 →
    (∀ h' tk t, Fr h₀ L h' m → News h₀ L h' ((I, itObj l (j + sz n)) :: rest) → Q (.int n t) { s with heap := h', toks := tk }) →
    wpAny (model PySem.Challenge.rw_pg0056_01.row.prog w) A (call (.ref 28) [.ref I]) Q E s := by
  k_fill
  intro w A A₀ s p loose mean mg mb base h₀ outer env L I l m rest items c os more j n Q E B F X N hne T hA hf hke hroom hh hl hit hos hn hQ
  refine wpAny_call ?_
  refine' code_def (binds := [(Str.ofString "iterator", .ref I)]) B F X N T hA hf hke ?ho ?hcd ?hr ?hb ?hl ?_ ?c1 ?c2 ?c3 ?c4
  case ho => k_is
  case hcd => k_is
  case hr => simp only [recursionLimit]; omega
  case hb => exact BindsTo.of_eq rfl
  case hl => exact locs rfl
  case c1 => rfl
  case c2 => rfl
  case c3 => rfl
  case c4 => decide
  intro g L' h₁ FG F₁ N₁ B₁ X₁ T₁
  clear N F
  have hget : ∀ i, i < sz n → ∃ (o : Nat) (t : Tok), items[j + i]? = some (.int (o : Int) t) ∧ o < 128 ∧ o % 64 = n / 64 ^ (sz n - (i + 1)) % 64 ∧ o / 64 = if 0 < sz n - (i + 1) then 1 else 0 := by
    intro i hi
    have h1 : os[j + i]? = (os.drop j)[i]? := by rw [List.getElem?_drop]
    have h2 : i < (oct n).length := by rw [oct, tl_length]; exact hi
    rw [hos, List.getElem?_append_left h2, oct, tl_get n (sz n) i hi] at h1
    have h3 : j + i < items.toList.length := by
      rw [hit.length, nats_length]
      exact (List.getElem?_eq_some_iff.mp h1).1
    have h4 : items.toList[j + i]? = some items.toList[j + i] := List.getElem?_eq_getElem h3
    obtain ⟨z, t, e, hz⟩ := hit.at _ _ h4
    obtain ⟨k, rfl, hk⟩ := nats_get hz
    rw [h1] at hk
    have hk' := Option.some.inj hk
    rw [show sz n - 1 - i = sz n - (i + 1) by omega] at hk'
    refine ⟨k, t, ?_, ?_, ?_, ?_⟩
    · rw [← Array.getElem?_toList, h4, e]
    · split at hk' <;> omega
    · split at hk' <;> omega
    · split at hk' <;> (rename_i q; (first | rw [if_pos q] | rw [if_neg q]); omega)
  have hs1 := sz_pos n
  have hs7 : sz n ≤ 7 := sz_le_of_lt (by omega) (by omega)
  repeat' (walk1; (try dsimp only))
  obtain ⟨o0, t0, h0, b0, d0, e0⟩ := hget 0 (by omega)
  refine next_item F₁ N₁ hne (led_list N₁ hl) h0 ?_
  intro h₂ F₂ N₂
  clear F₁ N₁
  dsimp only
  repeat' (first | (fail_if_success (with_reducible show wpAny _ _ (exec (Stmt.While _ _ _ _) _) _ _ _)); walk1; (try dsimp only) | fail "x")
  rename Fr g _ _ _ => F₃
  rename News _ _ _ _ => N₃
  have htop : n / 64 ^ (sz n - 1) < 64 := by
    have := lt_pow_sz n
    rw [Nat.div_lt_iff_lt_mul (Nat.pow_pos (by omega))]
    rw [← Nat.pow_succ', show (sz n - 1).succ = sz n by omega]
    exact this
  refine while_k (PaJ g L' I l rest s n j) ?_ (sz n - 1) ⟨_, _, 1, o0 % 64, o0, _, _, _, rfl, pick3 (x1 := Str.ofString "val") (x2 := Str.ofString "b") (x3 := Str.ofString "iterator") F₃ rfl rfl rfl, N₃, Nat.le_refl _, hs1, ?_, b0, e0, rfl⟩
  · rintro k _ ⟨h, tk, t, v, o, tv, tb, u, rfl, F₄, N₄, ht1, ht2, hv, ho, hd, rfl⟩
    clear F₃ N₃
    have hvn : v ≤ n := by rw [hv]; exact Nat.div_le_self _ _
    repeat' (walk1; (try dsimp only))
    · rename Fr g _ _ _ => F₅
      rename News _ _ _ _ => N₅
      have hlt : 0 < sz n - t := by
        rcases Nat.eq_zero_or_pos (sz n - t) with q | q
        · rw [q] at hd; simp at hd; omega
        · exact q
      obtain ⟨o1, t1, h1, b1, d1, e1⟩ := hget t (by omega)
      refine next_item F₅ N₅ hne (led_list N₅ hl) h1 ?_
      intro h₆ F₆ N₆
      clear F₅ N₅
      dsimp only
      repeat' (walk1; (try dsimp only))
      rename Fr g _ _ _ => F₇
      rename News _ _ _ _ => N₇
      have ev : n / 64 ^ (sz n - t) = n / 64 ^ (sz n - (t + 1)) / 64 := by
        rw [Nat.div_div_eq_div_mul, ← Nat.pow_succ, show (sz n - (t + 1)).succ = sz n - t by omega]
      exact ⟨sz n - (t + 1), by omega, _, _, t + 1, v * 64 + o1 % 64, o1, _, _, _, rfl, pick3 (x1 := Str.ofString "val") (x2 := Str.ofString "b") (x3 := Str.ofString "iterator") F₇ rfl rfl rfl, N₇, by omega, by omega, by omega, b1, e1, rfl⟩
    · have hz : sz n - t = 0 := by
        rcases Nat.eq_zero_or_pos (sz n - t) with q | q
        · exact q
        · rw [if_pos q] at hd; omega
      have ht : t = sz n := by omega
      subst ht
      rw [hz] at hv
      simp at hv
      subst hv
      rename Fr h₀ _ h _ => F'
      rename News h₀ _ h _ => N'
      exact hQ _ _ _ F' N'
  · rw [d0]; exact (Nat.mod_eq_of_lt htop)
set_option maxHeartbeats 4000000 in
theorem parse_end : ∀ {w : World} {A A₀ : Around} {s : Shared} {p : Program} {loose : List Str} {mean : ExcName → Option Value} {mg mb : Str → Option Value} {base h₀ : Heap} {outer : List Env} {env : Env} {L I l : Addr} {m : Str → Option Value} {rest : List (Addr × Obj)} {items : Array Value} {c : Nat} {j : Nat} {Q E : Value → Shared → Prop},
    Below A₀ base outer h₀ → Fr h₀ L s.heap m → (hd.heap_39 w.params).In h₀ → News h₀ L s.heap ((I, itObj l j) :: rest) → (∀ p ∈ rest, p.1 ≠ I) → Top p loose mean mg mb h₀ → A.frames = some (env :: outer) → env.frame = some L → env.scope.kind = .function → A.depth < 890 → A.handled = none →
    (l, W.listOf items c) ∈ rest → items[j]? = none →
    (∀ g h' tk e, Fr h₀ L g m → RaisedSN base g (env :: outer) e (.type "StopIteration") ((I, itDone j) :: rest) h' → g.UpToSlots h' → E (.ref e) { s with heap := h', toks := tk }) →
    wpAny (model PySem.Challenge.rw_pg0056_01.row.prog w) A (call (.ref 28) [.ref I]) Q E s := by
  k_fill
  intro w A A₀ s p loose mean mg mb base h₀ outer env L I l m rest items c j Q E B F X N hne T hA hf hke hroom hh hl hend hE
  refine wpAny_call ?_
  refine' code_def (binds := [(Str.ofString "iterator", .ref I)]) B F X N T hA hf hke ?ho ?hcd ?hr ?hb ?hl ?_ ?c1 ?c2 ?c3 ?c4
  case ho => k_is
  case hcd => k_is
  case hr => simp only [recursionLimit]; omega
  case hb => exact BindsTo.of_eq rfl
  case hl => exact locs rfl
  case c1 => rfl
  case c2 => rfl
  case c3 => rfl
  case c4 => decide
  intro g L' h₁ FG F₁ N₁ B₁ X₁ T₁
  clear N F
  repeat' (walk1; (try dsimp only))
  refine next_end hh F₁ N₁ hne (led_list N₁ hl) hend ?_
  intro h₂ h₃ e F₂ N₂ hx
  refine leave_newS B₁ hx F₂ N₂ ?_
  intro h' S' R' U'
  exact hE g h' _ e FG S' U'
end

section
open PySem PySem.W PyProof.Rows
noncomputable def ForAtE (prog : Program) (w : World) (A : Around) (env : Env) (target : PySem.Expr) (body : List Stmt) (Q : Flow → Shared → Prop) (E : Value → Shared → Prop) (x : Value) (s₁ : Shared) : Prop :=
  wpAny (model prog w) A (pyIter x) (fun it s₂ => codeAny (model prog w) A (.forLoop target it body [] env) (fun r s' => match r with
    | .ok f => Q f s'
    | .error e => cameBackBy (model prog w) A env E e s') s₂) E s₁
theorem for_kE {prog : Program} {w : World} {A : Around} {E : Value → Shared → Prop} {Q : Flow → Shared → Prop} {s : Shared} {env : Env} {target iter : PySem.Expr} {body : List Stmt} {pos : Pos}
    (h : wpAny (model prog w) A (eval iter env) (fun x s₁ => ForAtE prog w A env target body Q E x s₁) E s)
    (hs : ∀ x, foldedSetIterable iter env x = pure x := by intro _; rfl) : wpAny (model prog w) A (exec (.For target iter body [] pos) env) Q E s :=
  wpAny_For (wpAny_mono h (fun _ _ h₁ => wpAny_mono h₁ (fun it s₂ h₂ => codeAny_mono h₂ (fun r s' h₃ => by
    cases r with
    | ok f => exact h₃
    | error e => exact h₃)) fun _ _ x => x) fun _ _ x => x) hs
section
variable {prog : Program} {w : World} {A : Around} {Q : Flow → Shared → Prop} {E : Value → Shared → Prop} {s : Shared} {env : Env} {target : PySem.Expr} {body : List Stmt} {h₀ : Heap}
theorem for_walkE {I : Addr} {fp : List Addr} {n : Nat} {P : Nat → Value → Prop} {St : Nat → Heap → Prop} {m₀ : Str → Option Value} {news : List (Addr × Obj)} (J : Nat → (Str → Option Value) → List (Addr × Obj) → Prop)
    (W : Walks prog w A I fp [I] n P St) (obj : ∀ i h, St i h → ∃ o, h.get? I = some o)
    (st_of : ∀ i h h' m nx, St i h → (∀ o, h.get? I = some o → h'.get? I = some o) → J i m nx → Fr h₀ env.locals h' m → News h₀ env.locals h' nx → St i h')
    (hE : PassesOwn (model prog w) A env E) (hI : h₀.get? I = none) (hIL : env.locals ≠ I) (hnI : ∀ p ∈ news, p.1 ≠ I) (hst : St 0 s.heap) (F : Fr h₀ env.locals s.heap m₀) (N : News h₀ env.locals s.heap news) (hj : J 0 m₀ news)
    (hgo : ∀ i (s' : Shared) v (Q' : Unit → Shared → Prop) (E' : Value → Shared → Prop), St i s'.heap → Q' () s' → wpAny (model prog w) A (letOwnedTupleGo target (.ref I) v) Q' E' s')
    (turn : ∀ i v m nx h tk oI, i < n → P i v → J i m nx → (∀ p ∈ nx, p.1 ≠ I) → Fr h₀ env.locals h m → News h₀ env.locals h (nx ++ [(I, oI)]) →
      wpAny (model prog w) A (assign target env v) (fun _ s₂ => wpAny (model prog w) A (execs body env) (TurnEnd h₀ env.locals I oI (J (i + 1)) s Q) E s₂) E { s with heap := h, toks := tk })
    (done : ∀ m nx h tk, J n m nx → Fr h₀ env.locals h m → News h₀ env.locals h nx → Q .next { s with heap := h, toks := tk }) :
    codeAny (model prog w) A (.forLoop target (.ref I) body [] env) (fun r s' => match r with
      | .ok f => Q f s'
      | .error e => cameBackBy (model prog w) A env E e s') s := by
  refine codeAny_forLoop_any (fun k s' => ∃ h tk m nx i, s' = { s with heap := h, toks := tk } ∧ St i h ∧ Fr h₀ env.locals h m ∧ News h₀ env.locals h nx ∧ (∀ p ∈ nx, p.1 ≠ I) ∧ J i m nx ∧ i ≤ n ∧ k = n + 1 - i) ?_ (n + 1)
    ⟨s.heap, s.toks, m₀, news, 0, rfl, hst, F, N, hnI, hj, Nat.zero_le _, rfl⟩
  rintro k _ ⟨h, tk, m, nx, i, rfl, hst', F', N', hnx, hJ, hi, rfl⟩
  have next : ∀ h₁ : Heap, (∀ b o, b ∉ [I] → h.get? b = some o → h₁.get? b = some o) → Fr h₀ env.locals h₁ m ∧ News h₀ env.locals h₁ nx := fun h₁ hk₁ =>
    ⟨⟨F'.ns.at' fun o e => hk₁ _ o (fun q => hIL (List.mem_singleton.mp q)) e, fun b o e => hk₁ b o (fun q => by rw [List.mem_singleton.mp q, hI] at e; cases e) (F'.keep b o e), F'.above⟩,
     fun p hp => ⟨hk₁ _ _ (fun q => hnx p hp (List.mem_singleton.mp q)) (N' p hp).1, (N' p hp).2⟩⟩
  by_cases hlt : i < n
  · refine W.item i _ _ _ hlt hst' fun v h₁ tk₁ hP hst₁ hk₁ => ?_
    obtain ⟨F₁, N₁⟩ := next h₁ hk₁
    obtain ⟨oI, hoI⟩ := obj _ _ hst₁
    refine hgo (i + 1) _ v _ _ hst₁ ?_
    have N₂ : News h₀ env.locals h₁ (nx ++ [(I, oI)]) := fun p hp => (List.mem_append.mp hp).elim (N₁ p) fun q => by
      rw [List.mem_singleton.mp q]; exact ⟨hoI, Ne.symm hIL, hI⟩
    refine wpAny_mono (turn i v m nx h₁ tk₁ oI hlt hP hJ hnx F₁ N₂) (fun _ s₂ h₂ => wpAny_mono h₂ (fun f s₃ h₃ => ?_) fun _ _ x => hE _ _ x) fun _ _ x => hE _ _ x
    have fin : LoopEnd h₀ env.locals I oI (J (i + 1)) s s₃ → ∃ m_1, m_1 < n + 1 - i ∧ ∃ h tk m nx i, s₃ = { s with heap := h, toks := tk } ∧ St i h ∧ Fr h₀ env.locals h m ∧ News h₀ env.locals h nx ∧ (∀ p ∈ nx, p.1 ≠ I) ∧ J i m nx ∧ i ≤ n ∧ m_1 = n + 1 - i := by
      rintro ⟨h', tk', m', nx', e, F₃, N₃, hn₃, hJ₃⟩
      have N₄ : News h₀ env.locals h' nx' := fun p hp => N₃ p (List.mem_append_left _ hp)
      have hI' : h'.get? I = some oI := (N₃ (I, oI) (List.mem_append_right _ (List.mem_singleton.mpr rfl))).1
      exact ⟨n + 1 - (i + 1), by omega, h', tk', m', nx', i + 1, e, st_of _ _ _ _ _ hst₁ (fun o e => by rw [hoI] at e; rw [← e]; exact hI') hJ₃ F₃ N₄, F₃, N₄, hn₃, hJ₃, hlt, rfl⟩
    cases f with
    | ret v => exact h₃
    | brk => exact h₃
    | cont => exact fin h₃
    | next => exact fin h₃
  · have hin : i = n := by omega
    subst hin
    refine W.done _ _ _ hst' fun h₁ tk₁ hk₁ => wpAny_execs_nil ?_
    obtain ⟨F₁, N₁⟩ := next h₁ hk₁
    exact done _ _ _ _ hJ F₁ N₁

theorem for_rangeE {r : Addr} {a b c : Int} {t u v : Tok} {n : Nat} {m₀ : Str → Option Value} {news : List (Addr × Obj)} (J : Nat → (Str → Option Value) → List (Addr × Obj) → Prop)
    (hh : A.handled = none) (hr : IsRange s.heap r a b c t u v) (hsmall : Builtin.Range.small a b c = true) (hsz : Builtin.Range.rangeSize a b c = (n : Int)) (F : Fr h₀ env.locals s.heap m₀) (N : News h₀ env.locals s.heap news) (hj : J 0 m₀ news)
    (turn : ∀ (i : Nat) m nx h tk oI t', i < n → J i m nx → (∀ p ∈ nx, p.1 ≠ s.heap.objs.size) → Fr h₀ env.locals h m → News h₀ env.locals h (nx ++ [(s.heap.objs.size, oI)]) →
      wpAny (model prog w) A (assign target env (.int (a + i * c) t')) (fun _ s₂ => wpAny (model prog w) A (execs body env) (TurnEnd h₀ env.locals s.heap.objs.size oI (J (i + 1)) s Q) E s₂) E { s with heap := h, toks := tk })
    (done : ∀ m nx h tk, J n m nx → Fr h₀ env.locals h m → News h₀ env.locals h nx → Q .next { s with heap := h, toks := tk })
    (hE : PassesOwn (model prog w) A env E) (hgo : ∀ v, letOwnedTupleGo target (.ref s.heap.objs.size) v = pure ()) :
    ForAtE prog w A env target body Q E (.ref r) s := by
  refine wpAny_pyIter_range hr hsmall ?_
  have W := Walks.range (prog := prog) (w := w) hh s.heap.objs.size a c n
  refine for_walkE (h₀ := h₀) (m₀ := m₀) (news := news) J W (fun i h st => ⟨_, st⟩) (fun i h h' m nx st e hJ F' N' => e _ st) hE (next_is_new F) (Nat.ne_of_lt F.ns.lt) (fun p hp => Nat.ne_of_lt (Heap.lt_size (N p hp).1))
    (by show IsRangeIter _ _ _ _ _; rw [hsz]; simpa using Heap.get?_push_size _ rfl) (F.push _) (fun p hp => ⟨Heap.get?_push_of_some _ (N p hp).1, (N p hp).2⟩) hj (fun i s' v Q' E' st hQ' => wpAny_of_eq (hgo v) hQ') ?_ ?_
  · rintro i _ m nx h tk oI hi ⟨t', rfl⟩ hJ hnx F' N'
    refine wpAny_mono (turn i m nx h tk oI t' hi hJ hnx F' N') (fun _ s₂ h₂ => wpAny_mono h₂ (fun f s₃ h₃ => ?_) fun _ _ x => x) fun _ _ x => x
    cases f <;> exact h₃
  · intro m nx h tk hJ F' N'; exact done m nx h tk hJ F' N'
end
end

section
open PySem PySem.W PyProof.Rows
set_option maxRecDepth 100000
theorem exc_stop : isSubtype (.type "StopIteration") (.type "BaseException") = pure true := by rw [isSubtype_type]; kernel_rfl
theorem not_tuple_stop : isSubtype (.type ((Manifest.find? "StopIteration").elim "type" fun y => y.metatype)) (.type "tuple") = pure false := by rw [isSubtype_type]; kernel_rfl
theorem sub_stop : isSubtype (.type "StopIteration") (.type "StopIteration") = pure true := by rw [isSubtype_type]; kernel_rfl
theorem octs_ge : ∀ ns : List Nat, ns.length ≤ (octs ns).length
  | [] => by simp
  | n :: ns => by
    have ih := octs_ge ns
    have h1 : (oct n).length = sz n := tl_length _ _
    have h2 := sz_pos n
    rw [octs_cons, List.length_append, List.length_cons]; omega
theorem octs_from {ns : List Nat} {i n : Nat} (h : ns[i]? = some n) : (octs ns).drop (octs (ns.take i)).length = oct n ++ octs (ns.drop (i + 1)) := by
  obtain ⟨hlt, e⟩ := List.getElem?_eq_some_iff.mp h
  have h1 : ns = ns.take i ++ n :: ns.drop (i + 1) := by
    rw [← e, ← List.drop_eq_getElem_cons hlt, List.take_append_drop]
  have h2 : octs ns = octs (ns.take i) ++ octs (n :: ns.drop (i + 1)) := by rw [← octs_append, ← h1]
  rw [h2, List.drop_left, octs_cons]
noncomputable def RdJ (l I D : Addr) (items : Array Value) (cl : Nat) (ns : List Nat) (rest : List (Addr × Obj)) (i : Nat) (m : Str → Option Value) (nx : List (Addr × Obj)) : Prop :=
  i ≤ ns.length ∧ ∃ (ws : Array Value) (c : Nat) (u : Str → Option Value), nx = (I, itObj l (octs (ns.take i)).length) :: (D, W.listOf ws c) :: (l, W.listOf items cl) :: rest ∧ IntsAre ws.toList (nats (ns.take i)) ∧ m = fun y => if y = Str.ofString "numbers" then some (.ref D) else if y = Str.ofString "left" then some (.ref I) else if y = Str.ofString "octets" then some (.ref l) else u y
set_option maxHeartbeats 4000000 in
theorem read_call : ∀ {w : World} {A A₀ : Around} {s : Shared} {p : Program} {loose : List Str} {mean : ExcName → Option Value} {mg mb : Str → Option Value} {base h₀ : Heap} {cn : Str} {cs : Scope} {ccd : Value} {L a l : Addr} {m : Str → Option Value} {rest : List (Addr × Obj)} {items : Array Value} {cl : Nat} {ns : List Nat} {Q E : Value → Shared → Prop},
    Below A₀ base [] h₀ → Fr h₀ L s.heap m → (hd.heap_39 w.params).In h₀ → (hd.heap_39 w.params).In base → News h₀ L s.heap ((l, W.listOf items cl) :: rest) → Top p loose mean mg mb h₀ → Top p loose mean mg mb base → A.frames = some [envOf cn cs L a ccd] → cs.kind = .function → A.depth < 880 → A.handled = none →
    IntsAre items.toList (nats (octs ns)) → (∀ n ∈ ns, n < 2 ^ 40) → ns.length ≤ 1000 →
    (∀ h' tk r ws c, Fr h₀ L h' m → News h₀ L h' ((r, W.listOf ws c) :: (l, W.listOf items cl) :: rest) → IntsAre ws.toList (nats ns) → Q (.ref r) { s with heap := h', toks := tk }) →
    wpAny (model PySem.Challenge.rw_pg0056_01.row.prog w) A (call (.ref 54) [.ref l]) Q E s := by
  k_fill
  intro w A A₀ s p loose mean mg mb base h₀ cn cs ccd L a l m rest items cl ns Q E B F X XB N T TB hA hck hroom hh hit hb hlen hQ
  refine wpAny_call ?_
  refine' code_defS0 (binds := [(Str.ofString "octets", .ref l)]) B F X N T hA ?ho ?hcd ?hr ?hb ?hl ?_ hck ?c1 ?c2 ?c3 ?c4
  case ho => k_is
  case hcd => k_is
  case hr => simp only [recursionLimit]; omega
  case hb => exact BindsTo.of_eq rfl
  case hl => exact locs rfl
  case c1 => rfl
  case c2 => rfl
  case c3 => rfl
  case c4 => decide
  intro g L' h₁ FG F₁ N₁ B₁ X₁ T₁ D₁
  clear N F
  repeat' (walk1; (try dsimp only))
  refine iter_list F₁ N₁ ⟨_, (N₁ _ (List.Mem.head _)).1, rfl, _, rfl⟩ ?_
  intro I h₂ F₂ N₂ hnI
  clear F₁ N₁
  dsimp only
  repeat' (first | (fail_if_success (with_reducible show wpAny _ _ (exec (Stmt.Try _ _ _ _ _) _) _ _ _)); walk1; (try dsimp only) | fail "x")
  refine wpAny_Try_except ?_
  repeat' (first | (fail_if_success (with_reducible show wpAny _ _ (exec (Stmt.For _ _ _ _ _) _) _ _ _)); walk1; (try dsimp only) | fail "x")
  refine for_kE ?_
  repeat' (walk1; (try dsimp only))
  have hsz : items.size = (octs ns).length := by
    have := hit.length; rw [nats_length] at this; rw [← this]; simp
  have hbig : (octs ns).length ≤ 7 * ns.length := octs_len (fun m hm => by have := hb m hm; omega) (by omega)
  refine len_list ⟨_, ((by assumption : News g L' _ _) _ (List.Mem.tail _ (List.Mem.tail _ (List.Mem.head _)))).1, rfl, _, rfl⟩ (by omega) ?_
  dsimp only
  repeat' (walk1; (try dsimp only))
  rename_i D _ hD _ _ _ h₄ tk₄ t₁ u₁ v₁ hr F₄ N₄ g₄
  have F₅ := pick3 (x1 := Str.ofString "numbers") (x2 := Str.ofString "left") (x3 := Str.ofString "octets") F₄ rfl rfl rfl
  have N₅ : News g L' h₄ ((I, itObj l 0) :: (D, W.listOf #[] 0) :: (l, W.listOf items cl) :: rest) := news_sub N₄ fun p hp => by
    simp only [List.mem_cons] at hp ⊢
    rcases hp with h | h | h | h <;> simp [h]
  obtain ⟨hID, hlD, hrD⟩ := hD
  clear N₄ F₄
  refine for_rangeE (n := items.size + 1) (RdJ l I D items cl ns rest) hh hr ?_ ?_ F₅ N₅ ⟨Nat.zero_le _, #[], 0, _, rfl, .nil, rfl⟩ ?_ ?_ (by passes_own) (fun _ => rfl)
  · exact small_one (by omega) (by omega) (by omega) (by omega)
  · rw [rangeSize_nat]; omega
  · rintro i m₁ nx h₅ tk₅ oJ t' hi ⟨hin, ws, c, u, rfl, hws, rfl⟩ hnJ F₆ N₆
    clear F₅ N₅
    simp only [List.cons_append] at N₆
    repeat' (walk1; (try dsimp only))
    rename Fr g _ _ _ => F₇
    rename News _ _ _ _ => N₇
    have hrD' := kst_ltOf hrD
    have hIJ : I ≠ h₄.objs.size := hnJ _ (List.Mem.head _)
    have hDJ : D ≠ h₄.objs.size := hnJ _ (List.Mem.tail _ (List.Mem.head _))
    have hneI : ∀ o : Obj, ∀ p ∈ (D, o) :: (l, W.listOf items cl) :: (rest ++ [(h₄.objs.size, oJ)]), p.1 ≠ I := by
      intro o p hp
      rcases List.mem_cons.mp hp with rfl | hp
      · exact Nat.ne_of_gt hID
      rcases List.mem_cons.mp hp with rfl | hp
      · exact hnI _ (List.Mem.head _)
      rcases List.mem_append.mp hp with hp | hp
      · exact hnI _ (List.Mem.tail _ hp)
      · rw [List.mem_singleton.mp hp]; exact Ne.symm hIJ
    have hneD : ∀ p ∈ (l, W.listOf items cl) :: (rest ++ [(h₄.objs.size, oJ)]), p.1 ≠ D := by
      intro p hp
      rcases List.mem_cons.mp hp with rfl | hp
      · exact Nat.ne_of_lt hlD
      rcases List.mem_append.mp hp with hp | hp
      · exact Nat.ne_of_lt (hrD' _ hp)
      · rw [List.mem_singleton.mp hp]; exact Ne.symm hDJ
    by_cases hlt : i < ns.length
    · have hn : ns[i]? = some ns[i] := List.getElem?_eq_getElem hlt
      generalize ns[i] = n at hn
      refine parse_number B₁ F₇ X₁ N₇ (hneI _) T₁ (Around.frames_deeper B₁.stack) rfl rfl ?_ hh (List.Mem.tail _ (List.Mem.head _)) hit (octs_from hn) (hb n (List.mem_of_getElem? hn)) ?_
      · show A.depth + 1 < 890; omega
      intro h₈ tk₈ t₈ F₈ N₈
      clear F₇ N₇ F₆ N₆
      have hlen5 : ws.size ≤ sizeLine := by
        have h1 := hws.length
        rw [nats_length, List.length_take] at h1
        have h3 : ws.toList.length = ws.size := by simp
        rw [sizeLine_eq]; omega
      dsimp only
      repeat' (walk1; (try dsimp only))
      refine' append_K F₈ N₈ ?u ?_ hlen5
      case u => exact Upd.tail (p := (I, _)) (Nat.ne_of_lt hID) (Upd.head hneD)
      intro h₉ F₉ N₉
      dsimp only
      repeat' (walk1; (try dsimp only))
      have e : ns.take (i + 1) = ns.take i ++ [n] := by rw [List.take_add_one, hn]; rfl
      have e2 : (octs (ns.take (i + 1))).length = (octs (ns.take i)).length + sz n := by
        rw [e, octs_append, octs_cons, octs_nil, List.append_nil, List.length_append]
        have h1 : (oct n).length = sz n := tl_length _ _
        rw [h1]
      refine ⟨_, _, _, (I, itObj l (octs (ns.take (i + 1))).length) :: (D, W.listOf (ws.push (.int (n : Int) t₈)) (c + 1)) :: (l, W.listOf items cl) :: rest, rfl, pick3 (x1 := Str.ofString "numbers") (x2 := Str.ofString "left") (x3 := Str.ofString "octets") F₉ rfl rfl rfl, ?_, ?_, hlt, ws.push (.int (n : Int) t₈), c + 1, _, rfl, ?_, rfl⟩
      · rw [e2]; exact N₉
      · intro p hp
        rcases List.mem_cons.mp hp with rfl | hp
        · exact hIJ
        rcases List.mem_cons.mp hp with rfl | hp
        · exact hDJ
        · exact hnJ _ (List.Mem.tail _ (List.Mem.tail _ hp))
      · rw [e, nats_append, Array.toList_push]
        exact hws.append (.cons _ _ .nil)
    · have hi' : i = ns.length := by omega
      subst hi'
      rw [List.take_length] at N₇ hws
      refine parse_end B₁ F₇ X₁ N₇ (hneI _) T₁ (Around.frames_deeper B₁.stack) rfl rfl ?_ hh (List.Mem.tail _ (List.Mem.head _)) ?_ ?_
      · show A.depth + 1 < 890; omega
      · rw [← hsz]; simp
      intro G h₈ tk₈ e F₈ R₈ U₈
      refine' caught_SN0 (T' := "StopIteration") R₈ F₈ B₁ U₈ XB TB D₁ KtsTurn.refl ?ex PyProof.Rows.Boot.«StopIteration» ?hn exc_stop not_tuple_stop sub_stop ?_
      case ex => k_is
      case hn => decide
      intro h₉ g₉ T₉ F₉ N₉ B₉ X₉ P₉ D₉
      repeat' (walk1; (try dsimp only))
      rename Fr h₀ _ h₉ _ => F'
      rename News h₀ _ h₉ _ => N'
      refine hQ _ _ _ _ c F' (news_sub N' fun p hp => ?_) hws
      rcases List.mem_cons.mp hp with rfl | hp
      · exact List.Mem.tail _ (List.Mem.head _)
      rcases List.mem_cons.mp hp with rfl | hp
      · exact List.Mem.tail _ (List.Mem.tail _ (List.Mem.head _))
      · exact List.Mem.tail _ (List.Mem.tail _ (List.Mem.tail _ (List.mem_append_left _ hp)))
  · rintro m₁ nx h₅ tk₅ ⟨hin, _⟩
    have := octs_ge ns
    omega
end

section
open PySem PySem.Calls PySem.W PyProof.Rows
set_option maxRecDepth 100000
theorem call_kC {prog : Program} {w : World} {A : Around} {E Q : Value → Shared → Prop} {s : Shared} {K : Frag}
    {name qual : Str} {params : Arguments} {body : List Stmt} {scope : Scope} {dV kV doc pm cdv ct oc : Value} {an od : Option Addr} {osl : Array (Option Value)} {f : Addr} {args : List Value} {binds : List (Str × Value)}
    (X : K.In s.heap) (hlim : s.heap.NoLimit)
    (ho : K.lookup f = some ⟨oc, od, .func (fnOf name qual params body scope dV kV doc pm an cdv ct), osl⟩) (hcd : codeIn K cdv qual = true) (hroom : A.depth < recursionLimit)
    (hbind : BindsTo s (fnOf name qual params body scope dV kV doc pm an cdv ct) ⟨args, []⟩ binds)
    (hkind : ∀ n, ∀ x ∈ binds, scope.names.lookup x.1 = some .local ∨ (scope.names.lookup x.1 = some .cell ∧ ((cellsFrom n scope.names []).lookup x.1).isSome = true))
    (hnd : ((cellsFrom 0 scope.names []).map (·.1)).Nodup)
    (h : ∀ h₁ tk cells, Fr s.heap s.heap.objs.size h₁ (bindL (envOfC qual scope s.heap.objs.size f cdv).kindOf binds fun _ => none) → News s.heap s.heap.objs.size h₁ cells →
      CellsAre (bindC (envOfC qual scope s.heap.objs.size f cdv).kindOf binds fun _ => none) (cellsFrom (s.heap.objs.size + 1) scope.names []) cells →
      wpAny (model prog w) (A.deeper (envOfC qual scope s.heap.objs.size f cdv)) (execs body (envOfC qual scope s.heap.objs.size f cdv))
        (fun fl s' => Q (retv fl) s') (fun _ _ => False)
        { s with heap := h₁, toks := tk })
    (hco : scope.isCoroutine = false) (hgen : scope.isGenerator = false) (hk : scope.kind = .function) : wpAny (model prog w) A (call (.ref f) args) Q E s := by
  refine wpAny_call ?_
  refine codeAny_call_function (fd := fnOf name qual params body scope dV kV doc pm an cdv ct) hroom (X _ _ ho) rfl hco hgen rfl (codeRec_of X hcd) (hbind _ _ _ _ ?_)
  refine wpAny_newFunctionEnv_cells hk (hkind _) fun env' he s' x => ?_
  subst he
  refine ⟨hlim.keeps x.toInCall.keep, codeAny_func ?_⟩
  obtain ⟨h₁, tk, rfl, _⟩ := x.done
  have hk₁ := x.toInCall.keep
  obtain ⟨cells, NC, Y⟩ := Cl.news (h₀ := s.heap) (Nat.le_refl _) fun n c hm => ⟨x.cell n c (lookup_of_mem_nodup (cellsFrom_names scope.names 0 (s.heap.objs.size + 1) [] [] rfl ▸ hnd) hm), x.above n c hm⟩
  refine wpAny_mono (h h₁ tk cells ⟨x.toInCall.ns, hk₁, Nat.le_refl _⟩ NC Y) (fun fl s' hl => by cases fl <;> exact hl) fun _ _ y => y.elim
theorem ne_of_get {h : Heap} {a b : Addr} {o : Obj} (ha : h.get? a = none) (hb : h.get? b = some o) : a ≠ b := fun e => by rw [e, hb] at ha; cases ha
theorem news_none {h₀ h h' : Heap} {L r : Addr} {o : Obj} {m : Str → Option Value} {news : List (Addr × Obj)} (F : Fr h₀ L h m) (N : News h₀ L h' news) (hr : h.get? r = none) (e : h'.get? r = some o) : News h₀ L h' ((r, o) :: news) := by
  intro p hp
  rcases List.mem_cons.mp hp with rfl | hp
  · refine ⟨e, ?_, ?_⟩
    · obtain ⟨oL, _, _, hL, _⟩ := F.ns
      exact ne_of_get hr hL
    · cases hq : h₀.get? r with
      | none => rfl
      | some o' => rw [F.keep _ _ hq] at hr; cases hr
  · exact N p hp
theorem ne_nil {prog : Program} {w : World} {A : Around} {E Q : Value → Shared → Prop} {s : Shared} {P b : Addr} {ys : List Value} (hl : s.heap.IsList P ys.toArray) (hb : s.heap.IsList b #[]) (hu : A.units < cLine) (h : Q (.bool (decide (ys.length ≠ 0))) s) :
    wpAny (model prog w) A (compareOp .NotEq (.ref P) (.ref b)) Q E s := by
  cases ys with
  | nil => exact SeqAt.RcNeAt.lists (e := fun _ => true) hl hb rfl hu (fun j h1 _ => by simp at h1) prog w E Q h
  | cons y ys => exact SeqAt.RcNeAt.lists_lengths hl hb (by simp) hu prog w E Q h
theorem if_k {prog : Program} {w : World} {A : Around} {E : Value → Shared → Prop} {Q : Flow → Shared → Prop} {s : Shared} {env : Env} {test : PySem.Expr} {body orelse : List Stmt} {pos : Pos} (P : Bool → Shared → Prop)
    (h1 : wpAny (model prog w) A (isTrue test env (eval test env)) P (fun _ _ => False) s) (h2 : ∀ s', P true s' → wpAny (model prog w) A (execs body env) Q E s') (h3 : ∀ s', P false s' → wpAny (model prog w) A (execs orelse env) Q E s') :
    wpAny (model prog w) A (exec (.If test body orelse pos) env) Q E s := by
  refine wpAny_If (wpAny_mono h1 (fun b s₂ hb => ?_) fun _ _ x => x.elim)
  cases b with
  | true => exact h2 _ hb
  | false => exact h3 _ hb
/-- behind a test: the frame and the ledger as they were, the answer known -/
noncomputable def TestEnd (h₀ : Heap) (L : Addr) (m : Str → Option Value) (news : List (Addr × Obj)) (s : Shared) (G : Prop) (b : Bool) (s' : Shared) : Prop :=
  ∃ h tk, s' = { s with heap := h, toks := tk } ∧ Fr h₀ L h m ∧ News h₀ L h news ∧ (b = true ↔ G)
theorem if_t {prog : Program} {w : World} {A : Around} {E : Value → Shared → Prop} {Q : Flow → Shared → Prop} {s : Shared} {env : Env} {test : PySem.Expr} {body orelse : List Stmt} {pos : Pos} {h₀ : Heap} {L : Addr} {m : Str → Option Value} {news : List (Addr × Obj)} (G : Prop)
    (F : Fr h₀ L s.heap m) (N : News h₀ L s.heap news)
    (h1 : wpAny (model prog w) A (isTrue test env (eval test env)) (TestEnd h₀ L m news s G) (fun _ _ => False) s) (h2 : ∀ h tk, Fr h₀ L h m → News h₀ L h news → G → wpAny (model prog w) A (execs body env) Q E { s with heap := h, toks := tk })
    (h3 : ∀ h tk, Fr h₀ L h m → News h₀ L h news → ¬ G → wpAny (model prog w) A (execs orelse env) Q E { s with heap := h, toks := tk }) :
    wpAny (model prog w) A (exec (.If test body orelse pos) env) Q E s := by
  refine if_k _ h1 (fun s' hs' => ?_) (fun s' hs' => ?_)
  · obtain ⟨h, tk, rfl, F', N', hg⟩ := hs'
    exact h2 h tk F' N' (hg.mp rfl)
  · obtain ⟨h, tk, rfl, F', N', hg⟩ := hs'
    exact h3 h tk F' N' (fun g => by cases hg.mpr g)
theorem take_two {W : List Nat} {k : Nat} (h : k < W.length) : ((nats W).drop (k + 1)).take (min (k + 3) (nats W).length - (k + 1)) = nats ((W.drop (k + 1)).take 2) := by
  rw [nats_length, nats, nats, ← List.map_drop, ← List.map_take]
  congr 1
  rcases Nat.lt_or_ge (k + 2) W.length with h1 | h1
  · rw [show min (k + 3) W.length - (k + 1) = 2 by omega]
  · rw [show min (k + 3) W.length - (k + 1) = W.length - (k + 1) by omega]
    rw [List.take_of_length_le (by rw [List.length_drop]; omega), List.take_of_length_le (by rw [List.length_drop]; omega)]
theorem nats_inj {a b : List Nat} (h : nats a = nats b) : a = b := by
  induction a generalizing b with
  | nil => cases b with
    | nil => rfl
    | cons x b => simp [nats] at h
  | cons x a ih => cases b with
    | nil => simp [nats] at h
    | cons y b =>
      simp only [nats, List.map_cons, List.cons.injEq] at h
      rw [ih h.2, show x = y by omega]
theorem tested_true {prog : Program} {w : World} {A : Around} {cenv : Env} {elt : PySem.Expr} {h₁ : Heap} {C I D : Addr} {oI : Obj} {ys : List Value} {s s₃ : Shared} {R : List Value → List (Addr × Obj) → Prop}
    (h : wpAny (model prog w) A (eval elt cenv) (EltEnd h₁ C I D oI ys s R) (fun _ _ => False) s₃) : Tested prog w A cenv elt h₁ C I D oI ys s R true s₃ := by unfold Tested; rw [if_pos rfl]; exact h
theorem tested_false {prog : Program} {w : World} {A : Around} {cenv : Env} {elt : PySem.Expr} {h₁ : Heap} {C I D : Addr} {oI : Obj} {ys : List Value} {s s₃ : Shared} {R : List Value → List (Addr × Obj) → Prop}
    (h : SkipEnd h₁ C I D oI ys s R s₃) : Tested prog w A cenv elt h₁ C I D oI ys s R false s₃ := by unfold Tested; rw [if_neg (by simp)]; exact h
theorem ints_get {vs : List Value} {ns : List Nat} {k n : Nat} (hi : IntsAre vs (nats ns)) (hk : ns[k]? = some n) : ∃ t, vs[k]? = some (.int (n : Int) t) := by
  have hlt : k < vs.length := by
    rw [hi.length, nats_length]; exact (List.getElem?_eq_some_iff.mp hk).1
  have h4 : vs[k]? = some vs[k] := List.getElem?_eq_getElem hlt
  obtain ⟨z, t, e, hz⟩ := hi.at _ _ h4
  obtain ⟨j, rfl, hj⟩ := nats_get hz
  rw [hk] at hj
  exact ⟨t, by rw [h4, e, ← Option.some.inj hj]⟩
theorem sizes_at (S : List Nat) {i : Nat} (h : i ≤ S.length) : (S.map sz ++ [0])[i]? = some (szAt S i) := by
  rcases Nat.lt_or_ge i S.length with hi | hi
  · rw [List.getElem?_append_left (by rw [List.length_map]; exact hi), List.getElem?_map, szAt, List.getElem?_eq_getElem hi]; rfl
  · have e : i = S.length := by omega
    subst e
    rw [szAt_ge (Nat.le_refl _), List.getElem?_append_right (by simp)]; simp
theorem item_at {prog : Program} {w : World} {A : Around} {E Q : Value → Shared → Prop} {s : Shared} {value slice : PySem.Expr} {l : Addr} {vs : List Value} {ns : List Nat} {k n : Nat} {u : Tok} (hl : s.heap.IsList l vs.toArray) (hi : IntsAre vs (nats ns)) (hk : ns[k]? = some n) (hb : k < 2 ^ 62)
    (h : ∀ t, Q (.int (n : Int) t) s)
    (hs : subscripted slice false (.ref l) (.int (k : Int) u) = operate [.ref l, .int (k : Int) u] (getItem (.ref l) (.int (k : Int) u)) := by with_unfolding_all rfl) (hg : ∀ r, letTemporaryGo value (.ref l) r = pure () := by intro _; with_unfolding_all rfl) :
    wpAny (model prog w) A (subscriptTail value slice (.ref l) (.int (k : Int) u)) Q E s := by
  obtain ⟨t, ht⟩ := ints_get hi hk
  exact item_listL hl (by omega) (by omega) (by rw [Int.toNat_natCast]; exact ht) (h t) hs hg
theorem item_atz {prog : Program} {w : World} {A : Around} {E Q : Value → Shared → Prop} {s : Shared} {value slice : PySem.Expr} {l : Addr} {vs : List Value} {ns : List Nat} {z : Int} {k n : Nat} {u : Tok} (hz : z = (k : Int)) (hl : s.heap.IsList l vs.toArray) (hi : IntsAre vs (nats ns)) (hk : ns[k]? = some n) (hb : k < 2 ^ 62)
    (h : ∀ t, Q (.int (n : Int) t) s)
    (hs : subscripted slice false (.ref l) (.int z u) = operate [.ref l, .int z u] (getItem (.ref l) (.int z u)) := by with_unfolding_all rfl) (hg : ∀ r, letTemporaryGo value (.ref l) r = pure () := by intro _; with_unfolding_all rfl) :
    wpAny (model prog w) A (subscriptTail value slice (.ref l) (.int z u)) Q E s := by
  subst hz
  exact item_at hl hi hk hb h hs hg
end

section
open PySem PySem.W PyProof.Rows
abbrev comp2 (elt t0 i0 t1 i1 : PySem.Expr) (scope : Scope) (pos : Pos) : PySem.Expr := .ListComp elt [⟨t0, i0, [], 0⟩, ⟨t1, i1, [], 0⟩] scope pos
theorem turn2_0 (elt t0 i0 t1 i1 : PySem.Expr) (scope : Scope) (pos : Pos) (it acc : Value) (env : Env) :
    compTurn (comp2 elt t0 i0 t1 i1 scope pos) 0 it acc env = (standAt i0.pos >>= fun _ => pyNext it >>= fun r => match r with
      | none => pure (.done .next)
      | some v => letOwnedTupleGo t0 it v >>= fun _ => assign t0 env v >>= fun _ =>
        eval i1 env >>= fun x => standAt i1.pos >>= fun _ => foldedSetIterable i1 env x >>= fun x => holding [x] (pyIter x) >>= fun it' => runOwn (.compStart (comp2 elt t0 i0 t1 i1 scope pos) 1 it' acc env) env >>= fun _ =>
          again (.compLoop (comp2 elt t0 i0 t1 i1 scope pos) 0 it acc env)) := by rfl
theorem turn2_1 (elt t0 i0 t1 i1 : PySem.Expr) (scope : Scope) (pos : Pos) (it acc : Value) (env : Env) :
    compTurn (comp2 elt t0 i0 t1 i1 scope pos) 1 it acc env = (standAt i1.pos >>= fun _ => pyNext it >>= fun r => match r with
      | none => pure (.done .next)
      | some v => letOwnedTupleGo t1 it v >>= fun _ => assign t1 env v >>= fun _ =>
        (eval elt env >>= fun x => call (.builtin "list.append") [acc, x] >>= fun _ => pure ()) >>= fun _ =>
          again (.compLoop (comp2 elt t0 i0 t1 i1 scope pos) 1 it acc env)) := by rfl
section
variable {prog : Program} {w : World} {A : Around} {s : Shared} {elt t0 i0 t1 i1 : PySem.Expr} {scope : Scope} {pos : Pos} {it acc : Value} {env : Env} {R : Result → Shared → Prop}
theorem loop2_1 (I : Nat → Shared → Prop)
    (turn : ∀ n s, I n s → wpAny (model prog w) A (pyNext it) (fun r s₁ => match r with
      | none => R (.ok .next) s₁
      | some v => wpAny (model prog w) A (letOwnedTupleGo t1 it v) (fun _ s₀ => wpAny (model prog w) A (assign t1 env v) (fun _ s₂ =>
          wpAny (model prog w) A (eval elt env) (fun x s₄ =>
              wpAny (model prog w) A (call (.builtin "list.append") [acc, x]) (fun _ s₅ => ∃ m, m < n ∧ I m s₅) (fun _ _ => False) s₄) (fun _ _ => False) s₂) (fun _ _ => False) s₀) (fun _ _ => False) s₁) (fun _ _ => False) s)
    (n : Nat) (h : I n s) : codeAny (model prog w) A (.compLoop (comp2 elt t0 i0 t1 i1 scope pos) 1 it acc env) R s := by
  refine codeAny_loop rfl I (fun n s hI => ?_) n h
  show wpAny _ A ((compTurn (comp2 elt t0 i0 t1 i1 scope pos) 1 it acc env).onRaise (fun x => do noteFrame x env; theTreesLotGoes x)) _ _ s
  refine wpAny_noted ?_
  rw [turn2_1]
  have no : ∀ {P : Value → Shared → Prop} (e : Value) (s' : Shared), False → P e s' := fun _ _ x => x.elim
  refine wpAny_bind (wpAny_standAt (wpAny_bind (wpAny_mono (turn n s hI) (fun r s₁ h₁ => ?_) no)))
  cases r with
  | none => exact wpAny_pure h₁
  | some v =>
    refine wpAny_bind (wpAny_mono h₁ (fun _ s₀ h₀ => ?_) no)
    refine wpAny_bind (wpAny_mono h₀ (fun _ s₂ h₂ => ?_) no)
    exact wpAny_bind (wpAny_bind (wpAny_mono h₂ (fun x s₄ h₄ => wpAny_bind (wpAny_mono h₄ (fun _ s₅ h₅ => wpAny_pure (wpAny_pure ⟨rfl, h₅⟩)) no)) no))
theorem start2_1 (h0 : codeAny (model prog w) A (.compLoop (comp2 elt t0 i0 t1 i1 scope pos) 1 it acc env) R s)
    (h : ∀ E, wpAny (model prog w) A (pyIter it) (fun it' s' => codeAny (model prog w) A (.compLoop (comp2 elt t0 i0 t1 i1 scope pos) 1 it' acc env) R s') E s) :
    codeAny (model prog w) A (.compStart (comp2 elt t0 i0 t1 i1 scope pos) 1 it acc env) R s := by
  refine codeAny_of_tree ?_
  show wpAny _ _ ((compStart (comp2 elt t0 i0 t1 i1 scope pos) 1 it acc env).onRaise (fun x => do noteFrame x env; standAt theWindowsPlace)) _ _ s
  refine PySem.wpAny_notedAt ?_
  unfold compStart
  show wpAny _ _ (ask >>= _) _ _ s
  refine wpAny_bind (wpAny_askSetting (wpAny_ite ?_))
  split
  · first
      | exact wpAny_bind (wpAny_pure (wpAny_pure (And.intro rfl h0)))
      | exact wpAny_pure (And.intro rfl h0)
  · first
      | exact wpAny_bind (wpAny_rule (wpAny_bind (wpAny_standAt (wpAny_bind (wpAny_mono (h _) (fun it' s' h' => wpAny_pure (And.intro rfl h')) fun _ _ x => x)))))
      | (refine wpAny_bind (wpAny_rule ?_); show wpAny _ _ (standAt i1.pos >>= _) _ _ s; exact wpAny_bind (wpAny_standAt (wpAny_bind (wpAny_mono (h _) (fun it' s' h' => wpAny_pure (And.intro rfl h')) fun _ _ x => x))))
theorem loop2_0 (I : Nat → Shared → Prop) (hs : ∀ x, foldedSetIterable i1 env x = pure x)
    (turn : ∀ n s, I n s → wpAny (model prog w) A (pyNext it) (fun r s₁ => match r with
      | none => R (.ok .next) s₁
      | some v => wpAny (model prog w) A (letOwnedTupleGo t0 it v) (fun _ s₀ => wpAny (model prog w) A (assign t0 env v) (fun _ s₂ =>
          wpAny (model prog w) A (eval i1 env) (fun x s₃ => wpAny (model prog w) A (pyIter x) (fun it' s₄ =>
            codeAny (model prog w) A (.compStart (comp2 elt t0 i0 t1 i1 scope pos) 1 it' acc env) (fun r s₅ => match r with
              | .ok _ => ∃ m, m < n ∧ I m s₅
              | .error _ => False) s₄) (fun _ _ => False) s₃) (fun _ _ => False) s₂) (fun _ _ => False) s₀) (fun _ _ => False) s₁) (fun _ _ => False) s)
    (n : Nat) (h : I n s) : codeAny (model prog w) A (.compLoop (comp2 elt t0 i0 t1 i1 scope pos) 0 it acc env) R s := by
  refine codeAny_loop rfl I (fun n s hI => ?_) n h
  show wpAny _ A ((compTurn (comp2 elt t0 i0 t1 i1 scope pos) 0 it acc env).onRaise (fun x => do noteFrame x env; theTreesLotGoes x)) _ _ s
  refine wpAny_noted ?_
  rw [turn2_0]
  have no : ∀ {P : Value → Shared → Prop} (e : Value) (s' : Shared), False → P e s' := fun _ _ x => x.elim
  refine wpAny_bind (wpAny_standAt (wpAny_bind (wpAny_mono (turn n s hI) (fun r s₁ h₁ => ?_) no)))
  cases r with
  | none => exact wpAny_pure h₁
  | some v =>
    refine wpAny_bind (wpAny_mono h₁ (fun _ s₀ h₀ => ?_) no)
    refine wpAny_bind (wpAny_mono h₀ (fun _ s₂ h₂ => ?_) no)
    refine wpAny_bind (wpAny_mono h₂ (fun x s₃ h₃ => ?_) no)
    refine wpAny_bind (wpAny_standAt (wpAny_bind (wpAny_of_eq (hs x) (wpAny_bind (wpAny_holding (wpAny_mono h₃ (fun it' s₄ h₄ => ?_) no))))))
    refine wpAny_bind (wpAny_runOwn (h := none) (codeAny_mono h₄ (fun r s₅ h₅ => ?_)))
    cases r with
    | ok f => exact wpAny_pure ⟨rfl, h₅⟩
    | error e => exact h₅.elim
end
end

section
open PySem PySem.W PyProof.Rows
set_option maxRecDepth 100000
theorem seq_list_iadd : seqSlot? (.type "list") (dunderI "add") = pure (some (.builtin "list.__iadd__")) := PySem.seqSlot_of PySem.F.slot_list_iadd.lookup (by decide +kernel)
section
variable {prog : Program} {w : World} {A : Around} {E : Value → Shared → Prop} {s : Shared} {h₀ : Heap} {L D b : Addr} {m : Str → Option Value} {pre post : List (Addr × Obj)} {its its2 : Array Value} {n n2 : Nat}
/-- a list grown by another one -/
theorem iadd_K {Q : Value → Shared → Prop} (F : Fr h₀ L s.heap m) (N : News h₀ L s.heap (pre ++ (D, W.listOf its n) :: post)) (hb : (b, W.listOf its2 n2) ∈ pre ++ (D, W.listOf its n) :: post)
    (ha : ∀ p ∈ pre, p.1 ≠ D) (hc : ∀ p ∈ post, p.1 ≠ D) (hsz : its.size + its2.size ≤ 100000)
    (h : ∀ h' c, Fr h₀ L h' m → News h₀ L h' (pre ++ (D, W.listOf (its ++ its2) c) :: post) → Q (.ref D) { s with heap := h' }) : wpAny (model prog w) A (inplaceOp .Add (.ref D) (.ref b)) Q E s := by
  have z := N (D, W.listOf its n) (List.mem_append.mpr (.inr (.head _)))
  have zb := N _ hb
  have hl : IsL s.heap D its n := z.1
  have hlb : IsL s.heap b its2 n2 := zb.1
  have ta : s.TypeIs (.ref D) "list" := ⟨_, hl, rfl⟩
  have tb : s.TypeIs (.ref b) "list" := ⟨_, hlb, rfl⟩
  unfold inplaceOp
  refine wpAny_holding ?_
  have hfi : fillsInplaceSlot (.type "list") "add" (Operator.Add == .Add) = pure false := by
    unfold fillsInplaceSlot
    show (typeLookup (.type "list") (dunderI "add") >>= fun fi => pure (fi.isSome && !isSeqSlot fi)) = pure false
    rw [PySem.F.slot_list_iadd.lookup]; rfl
  refine wpAny_bind (wpAny_typeOf ta (wpAny_bind (wpAny_of_eq hfi ?_)))
  show wpAny _ A (if false = true then _ else _) Q E s
  rw [if_neg Bool.false_ne_true]
  refine wpAny_bind (wpAny_binaryOp1_none (nm := "add") ta tb noFill_list_add ?_)
  refine wpAny_bind (wpAny_of_eq seq_list_iadd ?_)
  refine wpAny_bind (wpAny_rule ?_)
  have hlim : sizeLine = 2 ^ 24 := sizeLine_eq
  refine call_meets PySem.F.slot_list_iadd ta PySem.F.entry_list_iadd (PySem.F.args_list_iadd_2 _ _) (AutoSeq1.list___iadd___list_list_0 D its n b its2 n2 ?_ (by omega) (by omega)) ⟨hl, hlb, ?_⟩
  · intro hx
    simp [Builtin.List.listTooLong] at hx
    omega
  · refine h _ (if (its ++ its2).size == its.size then n else n + 1) (F.change (Heap.SameBut.update ..) z.2.1 z.2.2) (news_set N ha hc (Heap.SameBut.update ..) ?_)
    exact PySem.IsL.update z.1 (· ++ its2)
end

noncomputable def InEnd (h₁ : Heap) (C I D : Addr) (oI : Obj) (ys : List Value) (s : Shared) (R : (Str → Option Value) → List Value → List (Addr × Obj) → Prop) (y : Value) (s₄ : Shared) : Prop :=
  ∃ h tk m tl, s₄ = { s with heap := h, toks := tk } ∧ Fr h₁ C h m ∧ News h₁ C h ((I, oI) :: (D, lst ys) :: tl) ∧ (∀ p ∈ tl, p.1 ≠ I ∧ p.1 ≠ D) ∧ R m (ys ++ [y]) tl
noncomputable def OutEnd (h₁ : Heap) (C I D : Addr) (oI : Obj) (s : Shared) (R : List Value → List (Addr × Obj) → Prop) (r : Result) (s₅ : Shared) : Prop :=
  match r with
  | .ok _ => ∃ h tk m ys tl, s₅ = { s with heap := h, toks := tk } ∧ Fr h₁ C h m ∧ News h₁ C h ((I, oI) :: (D, lst ys) :: tl) ∧ (∀ p ∈ tl, p.1 ≠ I ∧ p.1 ≠ D) ∧ R ys tl
  | .error _ => False
section
variable {prog : Program} {w : World} {A : Around} {s : Shared} {cenv : Env} {elt t0 i0 t1 i1 : PySem.Expr} {scope : Scope} {pos : Pos} {h₁ : Heap}
theorem comp_in {C I D : Addr} {fp : List Addr} {n : Nat} {P : Nat → Value → Prop} {St : Nat → Heap → Prop} {RR : Result → Shared → Prop} {m₀ : Str → Option Value} {ys₀ : List Value} {tl₀ : List (Addr × Obj)} (hC : cenv.locals = C)
    (W : Walks prog w A I fp [I] n P St) (obj : ∀ i h, St i h → ∃ o, h.get? I = some o)
    (st_of : ∀ i h h', St i h → (∀ o, h.get? I = some o → h'.get? I = some o) → Grown h₁ h' → St i h')
    (hI : h₁.get? I = none) (hIC : C ≠ I) (hID : I ≠ D) (hst : St 0 s.heap) (F : Fr h₁ C s.heap m₀) (N : News h₁ C s.heap ((D, lst ys₀) :: tl₀)) (hoff₀ : ∀ p ∈ tl₀, p.1 ≠ I ∧ p.1 ≠ D)
    (hgo : ∀ i (s' : Shared) v (Q' : Unit → Shared → Prop) (E' : Value → Shared → Prop), St i s'.heap → Q' () s' → wpAny (model prog w) A (letOwnedTupleGo t1 (.ref I) v) Q' E' s')
    (R : Nat → (Str → Option Value) → List Value → List (Addr × Obj) → Prop) (h0 : R 0 m₀ ys₀ tl₀) (hsz : ∀ i m ys tl, R i m ys tl → ys.length ≤ sizeLine)
    (turn : ∀ i v ys tl m h tk oI, i < n → P i v → R i m ys tl → (∀ p ∈ tl, p.1 ≠ I ∧ p.1 ≠ D) → Fr h₁ C h m → News h₁ C h ((I, oI) :: (D, lst ys) :: tl) →
      wpAny (model prog w) A (assign t1 cenv v) (fun _ s₂ => wpAny (model prog w) A (eval elt cenv) (InEnd h₁ C I D oI ys s (R (i + 1))) (fun _ _ => False) s₂) (fun _ _ => False) { s with heap := h, toks := tk })
    (done : ∀ m ys tl h tk, R n m ys tl → (∀ p ∈ tl, p.1 ≠ I ∧ p.1 ≠ D) → Fr h₁ C h m → News h₁ C h ((D, lst ys) :: tl) → RR (.ok .next) { s with heap := h, toks := tk }) :
    codeAny (model prog w) A (.compLoop (comp2 elt t0 i0 t1 i1 scope pos) 1 (.ref I) (.ref D) cenv) RR s := by
  refine loop2_1 (fun k s' => ∃ h tk m ys tl i, s' = { s with heap := h, toks := tk } ∧ St i h ∧ Fr h₁ C h m ∧ News h₁ C h ((D, lst ys) :: tl) ∧ (∀ p ∈ tl, p.1 ≠ I ∧ p.1 ≠ D) ∧ R i m ys tl ∧ i ≤ n ∧ k = n + 1 - i) ?_ (n + 1)
    ⟨s.heap, s.toks, m₀, ys₀, tl₀, 0, rfl, hst, F, N, hoff₀, h0, Nat.zero_le _, rfl⟩
  rintro k _ ⟨h, tk, m, ys, tl, i, rfl, hst', F', N', hoff, hR, hi, rfl⟩
  have next : ∀ h' : Heap, (∀ b o, b ∉ [I] → h.get? b = some o → h'.get? b = some o) → Fr h₁ C h' m ∧ News h₁ C h' ((D, lst ys) :: tl) := fun h' hk =>
    ⟨⟨F'.ns.at' fun o e => hk _ o (fun q => hIC (List.mem_singleton.mp q)) e, fun b o e => hk b o (fun q => by rw [List.mem_singleton.mp q, hI] at e; cases e) (F'.keep b o e), F'.above⟩,
     fun p hp => ⟨hk _ _ (fun q => by
        rcases List.mem_cons.mp hp with rfl | hp
        · exact hID (List.mem_singleton.mp q).symm
        · exact (hoff p hp).1 (List.mem_singleton.mp q)) (N' p hp).1, (N' p hp).2⟩⟩
  by_cases hlt : i < n
  · refine W.item i _ _ _ hlt hst' fun v h₂ tk₂ hP hst₂ hk₂ => ?_
    obtain ⟨F₂, N₂⟩ := next h₂ hk₂
    obtain ⟨oI, hoI⟩ := obj _ _ hst₂
    refine hgo (i + 1) _ v _ _ hst₂ ?_
    have N₃ : News h₁ C h₂ ((I, oI) :: (D, lst ys) :: tl) := fun p hp => by
      rcases List.mem_cons.mp hp with rfl | hp
      · exact ⟨hoI, Ne.symm hIC, hI⟩
      · exact N₂ p hp
    refine wpAny_mono (turn i v ys tl m h₂ tk₂ oI hlt hP hR hoff F₂ N₃) (fun _ s₂ e₂ => wpAny_mono e₂ (fun y s₄ e₄ => ?_) fun _ _ x => x) fun _ _ x => x
    have stays : ∀ h' : Heap, h'.get? I = some oI → Grown h₁ h' → St (i + 1) h' := fun h' e g => st_of _ _ _ hst₂ (fun o q => by rw [hoI] at q; rw [← q]; exact e) g
    obtain ⟨h₄, tk₄, m₄, tl₄, rfl, F₄, N₄, off₄, R₄⟩ := e₄
    refine append_K F₄ N₄ (Upd.tail hID (Upd.head fun p hp => (off₄ p hp).2)) (fun h₅ F₅ N₅ => ?_) (by have := hsz _ _ _ _ hR; simpa using this)
    rw [lst_snoc] at N₅
    exact ⟨n + 1 - (i + 1), by omega, h₅, tk₄, m₄, ys ++ [y], tl₄, i + 1, rfl, stays h₅ (N₅ _ (List.mem_cons_self ..)).1 F₅.keep, F₅, fun p hp => N₅ p (List.mem_cons_of_mem _ hp), off₄, R₄, hlt, rfl⟩
  · have hin : i = n := by omega
    subst hin
    refine W.done _ _ _ hst' fun h₂ tk₂ hk₂ => ?_
    obtain ⟨F₂, N₂⟩ := next h₂ hk₂
    exact done m ys tl h₂ tk₂ hR hoff F₂ N₂
theorem comp_out {C I D : Addr} {fp : List Addr} {n : Nat} {P : Nat → Value → Prop} {St : Nat → Heap → Prop} {RR : Result → Shared → Prop} {m₀ : Str → Option Value} (hC : cenv.locals = C)
    (W : Walks prog w A I fp [I] n P St) (obj : ∀ i h, St i h → ∃ o, h.get? I = some o)
    (st_of : ∀ i h h', St i h → (∀ o, h.get? I = some o → h'.get? I = some o) → Grown h₁ h' → St i h')
    (hI : h₁.get? I = none) (hIC : C ≠ I) (hID : I ≠ D) (hst : St 0 s.heap) (F : Fr h₁ C s.heap m₀) (N : News h₁ C s.heap [(D, lst [])])
    (hgo : ∀ i (s' : Shared) v (Q' : Unit → Shared → Prop) (E' : Value → Shared → Prop), St i s'.heap → Q' () s' → wpAny (model prog w) A (letOwnedTupleGo t0 (.ref I) v) Q' E' s')
    (hfold : ∀ x, foldedSetIterable i1 cenv x = pure x)
    (R : Nat → List Value → List (Addr × Obj) → Prop) (h0 : R 0 [] [])
    (turn : ∀ i v ys tl m h tk oI, i < n → P i v → R i ys tl → (∀ p ∈ tl, p.1 ≠ I ∧ p.1 ≠ D) → Fr h₁ C h m → News h₁ C h ((I, oI) :: (D, lst ys) :: tl) →
      wpAny (model prog w) A (assign t0 cenv v) (fun _ s₂ => wpAny (model prog w) A (eval i1 cenv) (fun x s₃ => wpAny (model prog w) A (pyIter x) (fun it' s₄ =>
        codeAny (model prog w) A (.compStart (comp2 elt t0 i0 t1 i1 scope pos) 1 it' (.ref D) cenv) (OutEnd h₁ C I D oI s (R (i + 1))) s₄) (fun _ _ => False) s₃) (fun _ _ => False) s₂) (fun _ _ => False) { s with heap := h, toks := tk })
    (done : ∀ m ys tl h tk, R n ys tl → (∀ p ∈ tl, p.1 ≠ D) → Fr h₁ C h m → News h₁ C h ((D, lst ys) :: tl) → RR (.ok .next) { s with heap := h, toks := tk }) :
    codeAny (model prog w) A (.compLoop (comp2 elt t0 i0 t1 i1 scope pos) 0 (.ref I) (.ref D) cenv) RR s := by
  refine loop2_0 (fun k s' => ∃ h tk m ys tl i, s' = { s with heap := h, toks := tk } ∧ St i h ∧ Fr h₁ C h m ∧ News h₁ C h ((D, lst ys) :: tl) ∧ (∀ p ∈ tl, p.1 ≠ I ∧ p.1 ≠ D) ∧ R i ys tl ∧ i ≤ n ∧ k = n + 1 - i) hfold ?_ (n + 1)
    ⟨s.heap, s.toks, m₀, [], [], 0, rfl, hst, F, N, (fun _ hp => nomatch hp), h0, Nat.zero_le _, rfl⟩
  rintro k _ ⟨h, tk, m, ys, tl, i, rfl, hst', F', N', hoff, hR, hi, rfl⟩
  have next : ∀ h' : Heap, (∀ b o, b ∉ [I] → h.get? b = some o → h'.get? b = some o) → Fr h₁ C h' m ∧ News h₁ C h' ((D, lst ys) :: tl) := fun h' hk =>
    ⟨⟨F'.ns.at' fun o e => hk _ o (fun q => hIC (List.mem_singleton.mp q)) e, fun b o e => hk b o (fun q => by rw [List.mem_singleton.mp q, hI] at e; cases e) (F'.keep b o e), F'.above⟩,
     fun p hp => ⟨hk _ _ (fun q => by
        rcases List.mem_cons.mp hp with rfl | hp
        · exact hID (List.mem_singleton.mp q).symm
        · exact (hoff p hp).1 (List.mem_singleton.mp q)) (N' p hp).1, (N' p hp).2⟩⟩
  by_cases hlt : i < n
  · refine W.item i _ _ _ hlt hst' fun v h₂ tk₂ hP hst₂ hk₂ => ?_
    obtain ⟨F₂, N₂⟩ := next h₂ hk₂
    obtain ⟨oI, hoI⟩ := obj _ _ hst₂
    refine hgo (i + 1) _ v _ _ hst₂ ?_
    have N₃ : News h₁ C h₂ ((I, oI) :: (D, lst ys) :: tl) := fun p hp => by
      rcases List.mem_cons.mp hp with rfl | hp
      · exact ⟨hoI, Ne.symm hIC, hI⟩
      · exact N₂ p hp
    have stays : ∀ h' : Heap, h'.get? I = some oI → Grown h₁ h' → St (i + 1) h' := fun h' e g => st_of _ _ _ hst₂ (fun o q => by rw [hoI] at q; rw [← q]; exact e) g
    refine wpAny_mono (turn i v ys tl m h₂ tk₂ oI hlt hP hR hoff F₂ N₃) (fun _ s₂ e₂ => wpAny_mono e₂ (fun x s₃ e₃ => wpAny_mono e₃ (fun it' s₄ e₄ => codeAny_mono e₄ fun r s₅ e₅ => ?_) fun _ _ x => x) fun _ _ x => x) fun _ _ x => x
    cases r with
    | error e => exact e₅
    | ok f =>
      obtain ⟨h₄, tk₄, m₄, ys₄, tl₄, rfl, F₄, N₄, off₄, R₄⟩ := e₅
      exact ⟨n + 1 - (i + 1), by omega, h₄, tk₄, m₄, ys₄, tl₄, i + 1, rfl, stays h₄ (N₄ _ (List.mem_cons_self ..)).1 F₄.keep, F₄, fun p hp => N₄ p (List.mem_cons_of_mem _ hp), off₄, R₄, hlt, rfl⟩
  · have hin : i = n := by omega
    subst hin
    refine W.done _ _ _ hst' fun h₂ tk₂ hk₂ => ?_
    obtain ⟨F₂, N₂⟩ := next h₂ hk₂
    exact done m ys tl h₂ tk₂ hR (fun p hp => (hoff p hp).2) F₂ N₂
noncomputable def InEnd2 (h₁ : Heap) (C I D J : Addr) (oI oJ : Obj) (ys : List Value) (s : Shared) (R : (Str → Option Value) → List Value → List (Addr × Obj) → Prop) (y : Value) (s₄ : Shared) : Prop :=
  ∃ h tk m tl, s₄ = { s with heap := h, toks := tk } ∧ Fr h₁ C h m ∧ News h₁ C h ((J, oJ) :: (D, lst ys) :: (I, oI) :: tl) ∧ (∀ p ∈ tl, p.1 ≠ I ∧ p.1 ≠ D ∧ p.1 ≠ J) ∧ R m (ys ++ [y]) tl
/-- the inner generator, its source evaluated -/
noncomputable def InAt (prog : Program) (w : World) (A : Around) (cenv : Env) (elt t0 i0 t1 i1 : PySem.Expr) (scope : Scope) (pos : Pos) (D : Addr) (R : Result → Shared → Prop) (x : Value) (s₃ : Shared) : Prop :=
  wpAny (model prog w) A (pyIter x) (fun it' s₄ => codeAny (model prog w) A (.compStart (comp2 elt t0 i0 t1 i1 scope pos) 1 it' (.ref D) cenv) R s₄) (fun _ _ => False) s₃
/-- the inner generator over a range -/
theorem in_range {C I D r : Addr} {a b c : Int} {t u v : Tok} {n : Nat} {m₀ : Str → Option Value} {ys₀ : List Value} {tl₀ : List (Addr × Obj)} {oI : Obj} {s' : Shared} {RO : List Value → List (Addr × Obj) → Prop} (hC : cenv.locals = C) (hh : A.handled = none)
    (hr : IsRange s'.heap r a b c t u v) (hsmall : Builtin.Range.small a b c = true) (hrs : Builtin.Range.rangeSize a b c = (n : Int)) (hs' : s' = { s with heap := s'.heap, toks := s'.toks })
    (F : Fr h₁ C s'.heap m₀) (N : News h₁ C s'.heap ((I, oI) :: (D, lst ys₀) :: tl₀)) (hoff₀ : ∀ p ∈ tl₀, p.1 ≠ I ∧ p.1 ≠ D) (hID : I ≠ D) (hCs : C < s'.heap.objs.size)
    (hgo : ∀ J v, letOwnedTupleGo t1 (.ref J) v = pure ())
    (R : Nat → (Str → Option Value) → List Value → List (Addr × Obj) → Prop) (h0 : R 0 m₀ ys₀ tl₀) (hsz : ∀ i m ys tl, R i m ys tl → ys.length ≤ sizeLine)
    (turn : ∀ J i t' ys tl m h tk oJ, i < n → R i m ys tl → (∀ p ∈ tl, p.1 ≠ I ∧ p.1 ≠ D ∧ p.1 ≠ J) → Fr h₁ C h m → News h₁ C h ((J, oJ) :: (D, lst ys) :: (I, oI) :: tl) →
      wpAny (model prog w) A (assign t1 cenv (.int (a + (i : Nat) * c) t')) (fun _ s₂ => wpAny (model prog w) A (eval elt cenv) (InEnd2 h₁ C I D J oI oJ ys s (R (i + 1))) (fun _ _ => False) s₂) (fun _ _ => False) { s with heap := h, toks := tk })
    (done : ∀ m ys tl, R n m ys tl → RO ys tl) :
    InAt prog w A cenv elt t0 i0 t1 i1 scope pos D (OutEnd h₁ C I D oI s RO) (.ref r) s' := by
  refine wpAny_pyIter_range hr hsmall ?_
  rw [hrs]
  have hJ0 : s'.heap.get? s'.heap.objs.size = none := Heap.get?_none_of_le (Nat.le_refl _)
  generalize hHJ : s'.heap.push { cls := .type "range_iterator", data := .fields #[rawInt a, rawInt (n : Int), rawInt c] } = HJ
  have up : Grown s'.heap HJ := fun b o e => hHJ ▸ Heap.get?_push_of_some _ e
  have hit : IsRangeIter HJ s'.heap.objs.size a n c := by rw [← hHJ]; exact Heap.get?_push_size _ rfl
  have F₁ : Fr h₁ C HJ m₀ := fr_grown F up
  have N₁ : News h₁ C HJ ((I, oI) :: (D, lst ys₀) :: tl₀) := news_grown N up
  generalize hJ : s'.heap.objs.size = J at *
  have hJ1 : h₁.get? J = none := by
    cases q : h₁.get? J with
    | none => rfl
    | some o => have := F.keep _ _ q; rw [hJ0] at this; cases this
  have hCJ : C ≠ J := Nat.ne_of_lt hCs
  have hIJ : I ≠ J := fun e => by have h1 := (N _ (.head _)).1; rw [e, hJ0] at h1; cases h1
  have hJD : J ≠ D := fun e => by have h1 := (N _ (.tail _ (.head _))).1; rw [← e, hJ0] at h1; cases h1
  have htJ : ∀ p ∈ tl₀, p.1 ≠ J := fun p hp e => by have h1 := (N _ (.tail _ (.tail _ hp))).1; rw [e, hJ0] at h1; cases h1
  have W := Walks.range (prog := prog) (w := w) hh J a c n
  have hs2 : ({ s' with heap := HJ } : Shared) = { s with heap := HJ, toks := s'.toks } := by rw [hs']
  rw [hs2]
  have main : codeAny (model prog w) A (.compLoop (comp2 elt t0 i0 t1 i1 scope pos) 1 (.ref J) (.ref D) cenv) (OutEnd h₁ C I D oI s RO) { s with heap := HJ, toks := s'.toks } := by
    refine comp_in (h₁ := h₁) (m₀ := m₀) (ys₀ := ys₀) (tl₀ := (I, oI) :: tl₀) hC W (fun i h st => ⟨_, st⟩) (fun i h h' st e g' => e _ st) hJ1 hCJ hJD (by show IsRangeIter _ _ _ _ _; simpa using hit) F₁ (news_sub N₁ fun p hp => ?_) ?_
      (fun i s' v Q' E' st hQ' => wpAny_of_eq (hgo _ v) hQ') (fun i m ys tl => ∃ tl', tl = (I, oI) :: tl' ∧ (∀ p ∈ tl', p.1 ≠ I) ∧ R i m ys tl') ⟨tl₀, rfl, fun p hp => (hoff₀ p hp).1, h0⟩ ?_ ?_ ?_
    · rcases List.mem_cons.mp hp with rfl | hp
      · exact .tail _ (.head _)
      rcases List.mem_cons.mp hp with rfl | hp
      · exact .head _
      · exact .tail _ (.tail _ hp)
    · intro p hp
      rcases List.mem_cons.mp hp with rfl | hp
      · exact ⟨hIJ, hID⟩
      · exact ⟨htJ p hp, (hoff₀ p hp).2⟩
    · rintro i m ys _ ⟨tl', rfl, _, hR⟩; exact hsz _ _ _ _ hR
    · rintro i _ ys _ m h tk oJ hi ⟨t', rfl⟩ ⟨tl', rfl, hI', hR⟩ hoff F' N'
      refine wpAny_mono (turn J i t' ys tl' m h tk oJ hi hR (fun p hp => ⟨hI' p hp, (hoff p (.tail _ hp)).2, (hoff p (.tail _ hp)).1⟩) F' N') (fun _ s₂ e₂ => wpAny_mono e₂ (fun y s₄ e₄ => ?_) fun _ _ x => x) fun _ _ x => x
      obtain ⟨h₄, tk₄, m₄, tl₄, rfl, F₄, N₄, off₄, R₄⟩ := e₄
      refine ⟨h₄, tk₄, m₄, (I, oI) :: tl₄, rfl, F₄, N₄, fun p hp => ?_, tl₄, rfl, fun p hp => (off₄ p hp).1, R₄⟩
      rcases List.mem_cons.mp hp with rfl | hp
      · exact ⟨hIJ, hID⟩
      · exact ⟨(off₄ p hp).2.2, (off₄ p hp).2.1⟩
    · rintro m ys _ h tk ⟨tl', rfl, hI', hR⟩ hoff F' N'
      refine ⟨h, tk, m, ys, tl', rfl, F', news_sub N' fun p hp => ?_, fun p hp => ⟨hI' p hp, (hoff p (.tail _ hp)).2⟩, done _ _ _ hR⟩
      rcases List.mem_cons.mp hp with rfl | hp
      · exact .tail _ (.head _)
      rcases List.mem_cons.mp hp with rfl | hp
      · exact .head _
      · exact .tail _ (.tail _ hp)
  exact start2_1 main fun E => wpAny_pyIter_rangeiter hit main
end
/-- a comprehension of two generators, its source evaluated -/
noncomputable def CompAt2 (prog : Program) (w : World) (A : Around) (env : Env) (elt t0 i0 t1 i1 : PySem.Expr) (scope : Scope) (pos : Pos) (cl : List (Str × Addr)) (E : Value → Shared → Prop) (use : Option (Value → Sem Unit)) (Q : Value → Shared → Prop) (xv : Value) (s₁ : Shared) : Prop :=
  wpAny (model prog w) A (pyIter xv) (fun it s₂ => wpAny (model prog w) A (newList []) (fun acc s₃ =>
    wpAny (model prog w) A (newFunctionEnv scope env.globals cl [] env.qual none .none (some env)) (fun cenv s₄ =>
      codeAny (model prog w) A (.compStart (comp2 elt t0 i0 t1 i1 scope pos) 0 it acc { cenv with scope := relabel scope env }) (compPost (model prog w) A E use Q acc cenv.locals) s₄) E s₃) E s₂) E s₁
section
variable {prog : Program} {w : World} {A : Around} {E : Value → Shared → Prop} {s : Shared} {env : Env} {elt t0 i0 t1 i1 : PySem.Expr} {scope : Scope} {pos : Pos} {cl : List (Str × Addr)}
theorem comp2_eval {Q : Value → Shared → Prop} (hclos : closureFor scope env = pure cl) (hkind : scope.kind = .function) (hnames : ∀ x ∈ scope.names, x.2 = .local → scope.names.lookup x.1 = some .local)
    (hs : ∀ x, foldedSetIterable i0 env x = pure x)
    (h : wpAny (model prog w) A (eval i0 env) (CompAt2 prog w A env elt t0 i0 t1 i1 scope pos cl E none Q) E s) :
    wpAny (model prog w) A (eval (comp2 elt t0 i0 t1 i1 scope pos) env) Q E s := by
  rw [eval_ListComp]
  exact wpAny_comprehension_free (use := none) rfl hs hclos hkind hnames h
theorem comp2_range {use : Option (Value → Sem Unit)} {Q : Value → Shared → Prop} {s₁ : Shared} {r : Addr} {a b c : Int} {t u v : Tok} {n : Nat} (hh : A.handled = none) (hr : IsRange s₁.heap r a b c t u v) (hsmall : Builtin.Range.small a b c = true) (hrs : Builtin.Range.rangeSize a b c = (n : Int))
    (hcell : ∀ y ∈ scope.names, y.2 ≠ .cell) (hkind : scope.kind = .function) (hfold : ∀ C x, foldedSetIterable i1 (compEnvC scope cl C env) x = pure x)
    (R : Nat → List Value → List (Addr × Obj) → Prop) (h0 : R 0 [] [])
    (turn : ∀ C I D i t' ys tl m h tk oI, s₁.heap.objs.size ≤ C → I ≠ D → i < n → R i ys tl → (∀ p ∈ tl, p.1 ≠ I ∧ p.1 ≠ D) → Fr s₁.heap C h m → News s₁.heap C h ((I, oI) :: (D, lst ys) :: tl) →
      wpAny (model prog w) A (assign t0 (compEnvC scope cl C env) (.int (a + (i : Nat) * c) t')) (fun _ s₂ => wpAny (model prog w) A (eval i1 (compEnvC scope cl C env)) (fun x s₃ => InAt prog w A (compEnvC scope cl C env) elt t0 i0 t1 i1 scope pos D (OutEnd s₁.heap C I D oI s₁ (R (i + 1))) x s₃) (fun _ _ => False) s₂) (fun _ _ => False) { s₁ with heap := h, toks := tk })
    (done : ∀ C D m ys tl h tk, R n ys tl → (∀ p ∈ tl, p.1 ≠ D) → Fr s₁.heap C h m → News s₁.heap C h ((D, lst ys) :: tl) → compPost (model prog w) A E use Q (.ref D) C (.ok .next) { s₁ with heap := h, toks := tk })
    (hgo : ∀ I v, letOwnedTupleGo t0 (.ref I) v = pure ()) :
    CompAt2 prog w A env elt t0 i0 t1 i1 scope pos cl E use Q (.ref r) s₁ := by
  refine wpAny_pyIter_range hr hsmall ?_
  rw [hrs]
  have hI0 : s₁.heap.get? s₁.heap.objs.size = none := Heap.get?_none_of_le (Nat.le_refl _)
  generalize hHI : s₁.heap.push { cls := .type "range_iterator", data := .fields #[rawInt a, rawInt (n : Int), rawInt c] } = HI
  have up : Grown s₁.heap HI := fun b o e => hHI ▸ Heap.get?_push_of_some _ e
  have hit : IsRangeIter HI s₁.heap.objs.size a n c := by rw [← hHI]; exact Heap.get?_push_size _ rfl
  have hsz' : HI.objs.size = s₁.heap.objs.size + 1 := by rw [← hHI]; exact Heap.size_push ..
  refine wpAny_newObj_type (wpAny_newFunctionEnv hcell (by intro y hy; simp at hy) (fun h₁ hns₁ hsb₁ => ?_) hkind)
  dsimp only at hns₁ hsb₁ ⊢
  generalize hH2 : HI.push { cls := .type "list", dict := none, data := .seq ([] : List Value).toArray } = H2 at hns₁ hsb₁ ⊢
  have hC : H2.objs.size = HI.objs.size + 1 := by rw [← hH2, Heap.size_push]
  have hDC : HI.objs.size ≠ H2.objs.size := by rw [hC]; exact Nat.ne_of_lt (Nat.lt_succ_self _)
  have old : Grown HI h₁ := fun b o e => hsb₁.extBut b o (by rw [hC]; exact Nat.ne_of_lt (Nat.lt_succ_of_lt (Heap.lt_size e))) (Heap.get?_push_of_some _ (hH2 ▸ Heap.get?_push_of_some _ e))
  have hacc : h₁.get? HI.objs.size = some (lst []) := hsb₁.extBut _ _ hDC (Heap.get?_push_of_some _ (hH2 ▸ Heap.get?_push_size _ rfl))
  have hC1 : s₁.heap.objs.size < H2.objs.size := by rw [hC, hsz']; exact Nat.lt_succ_of_lt (Nat.lt_succ_self _)
  have hD1 : s₁.heap.objs.size < HI.objs.size := by rw [hsz']; exact Nat.lt_succ_self _
  have W := Walks.range (prog := prog) (w := w) hh s₁.heap.objs.size a c n
  have main : ∀ tk, codeAny (model prog w) A (.compLoop (comp2 elt t0 i0 t1 i1 scope pos) 0 (.ref s₁.heap.objs.size) (.ref HI.objs.size) (compEnvC scope cl H2.objs.size env)) (compPost (model prog w) A E use Q (.ref HI.objs.size) H2.objs.size) { s₁ with heap := h₁, toks := tk } := by
    intro tk
    refine comp_out (h₁ := s₁.heap) (cenv := compEnvC scope cl H2.objs.size env) (C := H2.objs.size) (m₀ := fun _ => none) rfl W (fun i h st => ⟨_, st⟩) (fun i h h' st e g' => e _ st) hI0 (Nat.ne_of_gt hC1) (Nat.ne_of_lt hD1)
      (by show IsRangeIter _ _ _ _ _; simpa using old _ _ hit) ⟨hns₁, fun b o e => old b o (up b o e), Nat.le_of_lt hC1⟩ (fun p hp => ?_) (fun i s' v Q' E' st hQ' => wpAny_of_eq (hgo _ v) hQ') (hfold _) R h0 ?_ ?_
    · rw [List.mem_singleton.mp hp]
      exact ⟨hacc, hDC, Heap.get?_none_of_le (Nat.le_of_lt hD1)⟩
    · rintro i _ ys tl m h tk oI hi ⟨t', rfl⟩ hR hoff F' N'
      exact turn _ _ _ i t' ys tl m h tk oI (Nat.le_of_lt hC1) (Nat.ne_of_lt hD1) hi hR hoff F' N'
    · intro m ys tl h tk hR hoff F' N'
      exact done _ _ m ys tl h tk hR hoff F' N'
  exact codeAny_compStart_list (main _) (wpAny_pyIter_rangeiter (old _ _ hit) (main _))
end
end

section
open PySem PySem.Calls PySem.W PyProof.Rows
set_option maxRecDepth 100000
abbrev plo (p : Pl) (t u : Tok) : Obj := { cls := .type "tuple", data := .seq #[.int (p.1 : Int) t, .int (p.2 : Int) u] }
/-- a list of places, each a tuple of the ledger -/
inductive Pls (tl : List (Addr × Obj)) : List Pl → List Value → Prop
  | nil : Pls tl [] []
  | cons {p : Pl} {t u : Tok} {a : Addr} {ps : List Pl} {ys : List Value} : (a, plo p t u) ∈ tl → Pls tl ps ys → Pls tl (p :: ps) (.ref a :: ys)
theorem Pls.length {tl : List (Addr × Obj)} : ∀ {ps : List Pl} {ys : List Value}, Pls tl ps ys → ys.length = ps.length
  | _, _, .nil => rfl
  | _, _, .cons _ r => congrArg (· + 1) r.length
theorem Pls.sub {tl tl' : List (Addr × Obj)} (h : ∀ p ∈ tl, p ∈ tl') : ∀ {ps : List Pl} {ys : List Value}, Pls tl ps ys → Pls tl' ps ys
  | _, _, .nil => .nil
  | _, _, .cons m r => .cons (h _ m) (r.sub h)
theorem Pls.app {tl : List (Addr × Obj)} {qs : List Pl} {zs : List Value} (h : Pls tl qs zs) : ∀ {ps : List Pl} {ys : List Value}, Pls tl ps ys → Pls tl (ps ++ qs) (ys ++ zs)
  | _, _, .nil => h
  | _, _, .cons m r => .cons m (h.app r)
theorem Pls.at {tl : List (Addr × Obj)} : ∀ {ps : List Pl} {ys : List Value} {i : Nat} {v : Value}, Pls tl ps ys → ys[i]? = some v → ∃ (p : Pl) (t u : Tok) (a : Addr), v = .ref a ∧ ps[i]? = some p ∧ (a, plo p t u) ∈ tl
  | _, _, 0, _, .cons m r, h => ⟨_, _, _, _, (Option.some.inj h).symm, rfl, m⟩
  | _, _, i + 1, _, .cons m r, h => r.at (i := i) h
theorem Pls.head {tl : List (Addr × Obj)} {ps : List Pl} {ys : List Value} (h : Pls tl ps ys) (hn : ps.length ≠ 0) : ∃ (p : Pl) (t u : Tok) (a : Addr) (ps' : List Pl) (ys' : List Value), ps = p :: ps' ∧ ys = .ref a :: ys' ∧ (a, plo p t u) ∈ tl := by
  cases h with
  | nil => exact absurd rfl hn
  | cons m r => exact ⟨_, _, _, _, _, _, rfl, rfl, m⟩
theorem plainIn_snoc (S : List Nat) (n : Nat) (l : List Pl) (p : Pl) : plainIn S n (l ++ [p]) = plainIn S n l ++ if keepPlain S n p = true then [(p.1 + 1, szAt S (p.1 + 1))] else [] := by
  unfold plainIn
  rw [List.filter_append, List.map_append]
  congr 1
  by_cases h : keepPlain S n p = true
  · rw [if_pos h]; simp [h]
  · rw [if_neg h]; simp [h]
theorem take_snoc {ps : List Pl} {i : Nat} {p : Pl} (h : ps[i]? = some p) : ps.take (i + 1) = ps.take i ++ [p] := by rw [List.take_add_one, h]; rfl
noncomputable def PlR (S : List Nat) (n : Nat) (ps : List Pl) (i : Nat) (ys : List Value) (tl : List (Addr × Obj)) : Prop := Pls tl (plainIn S n (ps.take i)) ys
theorem elt_tuple {h₁ h : Heap} {C I D T : Addr} {oI : Obj} {ys : List Value} {tl : List (Addr × Obj)} {s : Shared} {tk : Nat} {m : Str → Option Value} {t u : Tok} {ps : List Pl} {R : List Value → List (Addr × Obj) → Prop} (p : Pl)
    (F : Fr h₁ C h m) (N : News h₁ C h ((T, plo p t u) :: (I, oI) :: (D, lst ys) :: tl)) (hlI : I < T) (hlD : D < T) (hoff : ∀ p ∈ tl, p.1 ≠ I ∧ p.1 ≠ D) (hR : Pls tl ps ys)
    (hRR : ∀ tl', Pls tl' (ps ++ [p]) (ys ++ [.ref T]) → R (ys ++ [.ref T]) tl') : EltEnd h₁ C I D oI ys s R (.ref T) { s with heap := h, toks := tk } := by
  refine ⟨h, tk, m, (T, plo p t u) :: tl, rfl, F, news_sub N (fun p hp => ?_), fun p hp => ?_, hRR _ (Pls.app (.cons (.head _) .nil) (hR.sub fun p hp => .tail _ hp))⟩
  · rcases List.mem_cons.mp hp with rfl | hp
    · exact .tail _ (.head _)
    rcases List.mem_cons.mp hp with rfl | hp
    · exact .tail _ (.tail _ (.head _))
    rcases List.mem_cons.mp hp with rfl | hp
    · exact .head _
    · exact .tail _ (.tail _ (.tail _ hp))
  · rcases List.mem_cons.mp hp with rfl | hp
    · exact ⟨Nat.ne_of_gt hlI, Nat.ne_of_gt hlD⟩
    · exact hoff p hp
noncomputable def SzR (S : List Nat) (i : Nat) (ys : List Value) (tl : List (Addr × Obj)) : Prop := tl = [] ∧ IntsAre ys (nats ((S.take i).map sz))
abbrev Off (L a : Nat) : Prop := a ≠ L + 1 ∧ a ≠ L + 1 + 1 ∧ a ≠ L + 1 + 1 + 1 ∧ a ≠ L + 1 + 1 + 1 + 1 ∧ a ≠ L + 1 + 1 + 1 + 1 + 1
theorem off1 {tl : List (Addr × Obj)} {L Z P : Nat} (h : ∀ p ∈ tl, Off L p.1 ∧ @Ne Nat p.1 Z ∧ @Ne Nat p.1 P) : ∀ p ∈ tl, p.1 ≠ L + 1 := fun p hp => (h p hp).1.1
theorem off2 {tl : List (Addr × Obj)} {L Z P : Nat} (h : ∀ p ∈ tl, Off L p.1 ∧ @Ne Nat p.1 Z ∧ @Ne Nat p.1 P) : ∀ p ∈ tl, p.1 ≠ L + 1 + 1 := fun p hp => (h p hp).1.2.1
theorem off3 {tl : List (Addr × Obj)} {L Z P : Nat} (h : ∀ p ∈ tl, Off L p.1 ∧ @Ne Nat p.1 Z ∧ @Ne Nat p.1 P) : ∀ p ∈ tl, p.1 ≠ L + 1 + 1 + 1 := fun p hp => (h p hp).1.2.2.1
theorem off4 {tl : List (Addr × Obj)} {L Z P : Nat} (h : ∀ p ∈ tl, Off L p.1 ∧ @Ne Nat p.1 Z ∧ @Ne Nat p.1 P) : ∀ p ∈ tl, p.1 ≠ L + 1 + 1 + 1 + 1 := fun p hp => (h p hp).1.2.2.2.1
theorem off5 {tl : List (Addr × Obj)} {L Z P : Nat} (h : ∀ p ∈ tl, Off L p.1 ∧ @Ne Nat p.1 Z ∧ @Ne Nat p.1 P) : ∀ p ∈ tl, p.1 ≠ L + 1 + 1 + 1 + 1 + 1 := fun p hp => (h p hp).1.2.2.2.2
theorem offP {tl : List (Addr × Obj)} {L Z P : Nat} (h : ∀ p ∈ tl, Off L p.1 ∧ @Ne Nat p.1 Z ∧ @Ne Nat p.1 P) : ∀ p ∈ tl, p.1 ≠ P := fun p hp => (h p hp).2.2
local macro_rules | `(tactic| k_all) => `(tactic| first | exact off1 (by assumption) | exact off2 (by assumption) | exact off3 (by assumption) | exact off4 (by assumption) | exact off5 (by assumption) | exact offP (by assumption))
noncomputable def RcI (s : Shared) (L a b Z : Nat) (zs : List Value) (W S : List Nat) (n : Nat) (s' : Shared) : Prop :=
  ∃ (h : Heap) (tk k : Nat) (tk' : Tok) (P c : Nat) (ys : List Value) (tl : List (Addr × Obj)) (ps : List Pl) (o1 o2 o3 o4 o5 : Obj) (v1 v2 v4 : Option Value) (u : Str → Option Value),
    s' = { s with heap := h, toks := tk } ∧
    Fr s.heap L h (fun y => if y = Str.ofString "k" then some (.int (k : Int) tk') else if y = Str.ofString "places" then some (.ref P) else if y = Str.ofString "wanted" then some (.ref a) else u y) ∧
    News s.heap L h ((L + 1 + 1 + 1 + 1 + 1, o1) :: (L + 1 + 1 + 1 + 1, o2) :: (L + 1 + 1 + 1, o3) :: (L + 1 + 1, o4) :: (L + 1, o5) :: (Z, PySem.W.listOf zs.toArray 0) :: (P, PySem.W.listOf ys.toArray c) :: tl) ∧
    o1.data = .cell v1 ∧ o2.data = .cell v2 ∧ o3.data = .cell (some (.ref Z)) ∧ o4.data = .cell v4 ∧ o5.data = .cell (some (.ref b)) ∧
    Off L P ∧ P ≠ Z ∧ (∀ p ∈ tl, Off L p.1 ∧ @Ne Nat p.1 Z ∧ @Ne Nat p.1 P) ∧ Pls tl ps ys ∧ (∀ p ∈ ps, Valid S p) ∧ ps.length ≤ 8000 ∧ k ≤ W.length ∧ reachGo S (W.drop k) ps = reached W S ∧ n = W.length - k
theorem pick1 {h₀ h : Heap} {L : Addr} {m : Str → Option Value} {x1 : Str} {v1 : Value} (F : Fr h₀ L h m) (h1 : m x1 = some v1) :
    Fr h₀ L h (fun y => if y = x1 then some v1 else m y) := by
  refine fr_eq F fun y => ?_
  by_cases a : y = x1
  · rw [if_pos a, a, h1]
  · rw [if_neg a]
noncomputable def Mid (s : Shared) (L a b Z k : Nat) (zs : List Value) (S : List Nat) (ps : List Pl) (f : Flow) (s' : Shared) : Prop :=
  f = .next ∧ ∃ (h : Heap) (tk : Nat) (tk' : Tok) (P c : Nat) (ys : List Value) (tl : List (Addr × Obj)) (o1 o2 o3 o4 o5 : Obj) (v1 v2 v4 : Option Value) (u : Str → Option Value),
    s' = { s with heap := h, toks := tk } ∧
    Fr s.heap L h (fun y => if y = Str.ofString "k" then some (.int (k : Int) tk') else if y = Str.ofString "places" then some (.ref P) else if y = Str.ofString "wanted" then some (.ref a) else u y) ∧
    News s.heap L h ((L + 1 + 1 + 1 + 1 + 1, o1) :: (L + 1 + 1 + 1 + 1, o2) :: (L + 1 + 1 + 1, o3) :: (L + 1 + 1, o4) :: (L + 1, o5) :: (Z, PySem.W.listOf zs.toArray 0) :: (P, PySem.W.listOf ys.toArray c) :: tl) ∧
    o1.data = .cell v1 ∧ o2.data = .cell v2 ∧ o3.data = .cell (some (.ref Z)) ∧ o4.data = .cell v4 ∧ o5.data = .cell (some (.ref b)) ∧
    Off L P ∧ P ≠ Z ∧ (∀ p ∈ tl, Off L p.1 ∧ @Ne Nat p.1 Z ∧ @Ne Nat p.1 P) ∧ Pls tl ps ys ∧ (∀ p ∈ ps, Valid S p) ∧ ps.length ≤ 8000
theorem gapf_snoc (S : List Nat) (n : Nat) (l : List Pl) (p : Pl) : ((l ++ [p]).filter (keepGap S n)).map (fun p => ((p.1, p.2 - sz n + 1) : Pl)) = (l.filter (keepGap S n)).map (fun p => ((p.1, p.2 - sz n + 1) : Pl)) ++ if keepGap S n p = true then [(p.1, p.2 - sz n + 1)] else [] := by
  rw [List.filter_append, List.map_append]
  congr 1
  by_cases h : keepGap S n p = true
  · rw [if_pos h]; simp [h]
  · rw [if_neg h]; simp [h]
theorem szAt_le {S : List Nat} (hb : ∀ n ∈ S, n < 2 ^ 40) (i : Nat) : szAt S i ≤ 7 := by
  rcases Nat.lt_or_ge i S.length with h | h
  · rw [szAt_lt h]
    exact sz_le_of_lt (by omega) (by have := hb (S.getD i 0) (by simp [h]); omega)
  · rw [szAt_ge h]; omega
theorem valid_le {S : List Nat} (hb : ∀ n ∈ S, n < 2 ^ 40) {p : Pl} (h : Valid S p) : p.2 ≤ 7 ∧ p.1 ≤ S.length := by
  have h1 := szAt_le hb p.1
  rcases h with ⟨h2, _, h3⟩ | ⟨h2, h3⟩ <;> omega
noncomputable def PlG (S : List Nat) (n : Nat) (ps : List Pl) (i : Nat) (ys : List Value) (tl : List (Addr × Obj)) : Prop := Pls tl (((ps.take i).filter (keepGap S n)).map (fun p => ((p.1, p.2 - sz n + 1) : Pl))) ys
noncomputable def PlD (p0 : Pl) (i : Nat) (ys : List Value) (tl : List (Addr × Obj)) : Prop := i ≤ p0.2 ∧ Pls tl ((List.range i).map fun j => ((p0.1, p0.2 - j) : Pl)) ys
noncomputable def rowPl (S : List Nat) (x : Nat) : List Pl := (List.range (szAt S x)).map fun j => ((x, szAt S x - j) : Pl)
noncomputable def rowsPl (S : List Nat) (x i : Nat) : List Pl := (List.range i).flatMap fun i' => rowPl S (x + 1 + i')
theorem rowsPl_succ (S : List Nat) (x i : Nat) : rowsPl S x (i + 1) = rowsPl S x i ++ rowPl S (x + 1 + i) := by
  unfold rowsPl
  rw [List.range_succ, List.flatMap_append]; simp
theorem rowsPl_length {S : List Nat} (hb : ∀ n ∈ S, n < 2 ^ 40) (x : Nat) : ∀ i, (rowsPl S x i).length ≤ 7 * i
  | 0 => by simp [rowsPl]
  | i + 1 => by
    have h1 := rowsPl_length hb x i
    have h2 := szAt_le hb (x + 1 + i)
    rw [rowsPl_succ, List.length_append, rowPl, List.length_map, List.length_range]; omega
theorem gapPl_rows (S : List Nat) (p : Pl) : gapPl S p = ((List.range p.2).map fun j => ((p.1, p.2 - j) : Pl)) ++ rowsPl S p.1 (S.length - (p.1 + 1)) ++ [(S.length, 0)] := rfl
noncomputable def PlI (S : List Nat) (x i : Nat) (ys : List Value) (tl : List (Addr × Obj)) : Prop := Pls tl (rowsPl S x i) ys
noncomputable def PlJ (S : List Nat) (x i : Nat) (v : Value) (j : Nat) (m : Str → Option Value) (ys : List Value) (tl : List (Addr × Obj)) : Prop :=
  m (Str.ofString "i") = some v ∧ j ≤ szAt S (x + 1 + i) ∧ Pls tl (rowsPl S x i ++ (List.range j).map fun j' => ((x + 1 + i, szAt S (x + 1 + i) - j') : Pl)) ys
theorem news_join {h₀ h h' : Heap} {L : Addr} {m : Str → Option Value} {news more : List (Addr × Obj)} (F : Fr h₀ L h m) (N : News h₀ L h' news) (hm : ∀ p ∈ more, h'.get? p.1 = some p.2 ∧ h.get? p.1 = none) : News h₀ L h' (news ++ more) := by
  intro p hp
  rcases List.mem_append.mp hp with hp | hp
  · exact N p hp
  · exact (news_none (o := p.2) F (News.nil (h := h')) (hm p hp).2 (hm p hp).1) p (.head _)
theorem fdiv_powz {prog : Program} {w : World} {A : Around} {E Q : Value → Shared → Prop} {s : Shared} {n : Nat} {z : Int} {t u : Tok} (hz : 0 ≤ z) (hk : z ≤ 1000) (h : Q (.int ((n / 64 ^ z.toNat : Nat) : Int) s.toks) { s with toks := s.toks + 1 }) : wpAny (model prog w) A (binaryOp .FloorDiv (.int (n : Int) t) (.int ((64 : Int) ^ z.toNat) u)) Q E s := by
  obtain ⟨k, rfl⟩ : ∃ k : Nat, z = (k : Int) := ⟨z.toNat, by omega⟩
  rw [Int.toNat_natCast] at h
  exact fdiv_pow (by omega) h
local macro_rules | `(tactic| walk_at "binaryOp FloorDiv int int") => `(tactic| (with_reducible refine fdiv_powz ?k1 ?k2 ?_; (case k1 => omega); (case k2 => omega)))
set_option maxHeartbeats 4000000 in
theorem reached_call : ∀ {w : World} {A : Around} {s : Shared} {p : Program} {loose : List Str} {mean : ExcName → Option Value} {mg mb : Str → Option Value} {a b : Addr} {vs us : List Value} {W S : List Nat} {Q E : Value → Shared → Prop},
    (hd.heap_39 w.params).In s.heap → Top p loose mean mg mb s.heap → A.depth < 880 → A.handled = none → A.units < 500 → s.heap.IsList a vs.toArray → IntsAre vs (nats W) → s.heap.IsList b us.toArray → IntsAre us (nats S) → (∀ n ∈ W, n < 2 ^ 40) → (∀ n ∈ S, n < 2 ^ 40) → W.length ≤ 1000 → S.length ≤ 1000 →
    (∀ h' tk r c ys tl, Grown s.heap h' → s.heap.get? r = none → h'.get? r = some (PySem.W.listOf ys.toArray c) → (∀ p ∈ tl, h'.get? p.1 = some p.2 ∧ s.heap.get? p.1 = none) → Pls tl (reached W S) ys → Q (.ref r) { s with heap := h', toks := tk }) →
    wpAny (model PySem.Challenge.rw_pg0056_01.row.prog w) A (call (.ref 66) [.ref a, .ref b]) Q E s := by
  k_fill
  intro w A s p loose mean mg mb a b vs us W S Q E X T hroom hh hun hla hia hlb hib hbW hbS hlenW hlenS hQ
  refine' call_kC (binds := [(Str.ofString "wanted", .ref a), (Str.ofString "seen", .ref b)]) X T.nolimit ?ho ?hcd ?hr ?hb ?hkd ?hnd ?_ ?c1 ?c2 ?c3
  case ho => k_is
  case hcd => k_is
  case hr => simp only [recursionLimit]; omega
  case hb => exact BindsTo.of_eq rfl
  case hkd => exact kindsX rfl
  case hnd => decide +kernel
  case c1 => rfl
  case c2 => rfl
  case c3 => rfl
  intro h₁ tk₁ cells F₀ N Y
  have hY := kc_five Y
  obtain ⟨o1, o2, o3, o4, o5, hE, d1, d2, d3, d4, d5⟩ := hY
  subst hE
  clear Y
  change o1.data = .cell none at d1
  change o2.data = .cell none at d2
  change o3.data = .cell none at d3
  change o4.data = .cell none at d4
  change o5.data = .cell (some (.ref b)) at d5
  obtain ⟨u0, F⟩ : ∃ u : Str → Option Value, Fr s.heap s.heap.objs.size h₁ (fun y => if y = Str.ofString "wanted" then some (.ref a) else u y) := ⟨_, pick1 (x1 := Str.ofString "wanted") F₀ rfl⟩
  clear F₀
  generalize hL : s.heap.objs.size = L at *
  repeat' (first | ((fail_if_success (with_reducible show wpAny _ _ (eval (PySem.Expr.ListComp _ _ _ _) _) _ _ _)); (fail_if_success (with_reducible show wpAny _ _ (compareOp _ (Value.ref _) (Value.ref _)) _ _ _)); (fail_if_success (with_reducible show wpAny _ _ (call (Value.ref _) _) _ _ _)); (fail_if_success (with_reducible show wpAny _ _ (binaryOp Operator.Add (Value.ref _) (Value.ref _)) _ _ _)); (fail_if_success (with_reducible show wpAny _ _ (inplaceOp Operator.Add (Value.ref _) (Value.ref _)) _ _ _)); (fail_if_success (with_reducible show wpAny _ _ (subscriptTail _ _ _ _) _ _ _)); (fail_if_success (with_reducible show wpAny _ _ (call (Value.builtin "len") _) _ _ _)); walk1; (try dsimp only)) | fail "x")
  refine' comp_eval (cl := []) ?h1 ?h2 ?h3 ?h4 ?_
  case h1 => rfl
  case h2 => rfl
  case h3 => decide
  case h4 => intro _; rfl
  repeat' (first | ((fail_if_success (with_reducible show wpAny _ _ (compareOp _ (Value.ref _) (Value.ref _)) _ _ _)); (fail_if_success (with_reducible show wpAny _ _ (call (Value.ref _) _) _ _ _)); (fail_if_success (with_reducible show wpAny _ _ (binaryOp Operator.Add (Value.ref _) (Value.ref _)) _ _ _)); (fail_if_success (with_reducible show wpAny _ _ (inplaceOp Operator.Add (Value.ref _) (Value.ref _)) _ _ _)); (fail_if_success (with_reducible show wpAny _ _ (subscriptTail _ _ _ _) _ _ _)); (fail_if_success (with_reducible show wpAny _ _ (call (Value.builtin "len") _) _ _ _)); walk1; (try dsimp only)) | fail "x")
  have X₁ := X.keeps F.keep
  have T₁ := T.keeps F.keep
  refine comp_list (vs := us) hh (hlb.at fun o e => F.keep _ o e) ?_ rfl (SzR S) ⟨rfl, .nil⟩ ?_ ?_ ?_
  · decide
  · rintro i ys tl ⟨_, hy⟩
    have := hy.length
    rw [nats_length, List.length_map, List.length_take] at this
    rw [sizeLine_eq]; omega
  · rintro C I D i v ys tl m h tk oI hC hv ⟨rfl, hy⟩ hoff F₃ N₃
    obtain ⟨_, t, rfl, hn⟩ := hib.at i v hv
    obtain ⟨n, rfl, hn'⟩ := nats_get hn
    have hnb := hbS n (List.mem_of_getElem? hn')
    clear F N
    repeat' (first | ((fail_if_success (with_reducible show wpAny _ _ (compareOp _ (Value.ref _) (Value.ref _)) _ _ _)); (fail_if_success (with_reducible show wpAny _ _ (call (Value.ref _) _) _ _ _)); (fail_if_success (with_reducible show wpAny _ _ (binaryOp Operator.Add (Value.ref _) (Value.ref _)) _ _ _)); (fail_if_success (with_reducible show wpAny _ _ (inplaceOp Operator.Add (Value.ref _) (Value.ref _)) _ _ _)); (fail_if_success (with_reducible show wpAny _ _ (subscriptTail _ _ _ _) _ _ _)); (fail_if_success (with_reducible show wpAny _ _ (call (Value.builtin "len") _) _ _ _)); walk1; (try dsimp only)) | fail "x")
    rename Fr _ _ _ _ => F₄
    rename News _ _ _ _ => N₄
    refine size_call (X₁.keeps F₄.keep) (T₁.keeps F₄.keep) (by show A.depth + 1 < 900; omega) hnb ?_
    intro h₃ tk₃ t₃ g₃
    replace F₄ := fr_grown F₄ g₃
    replace N₄ := news_grown N₄ g₃
    show EltEnd _ _ _ _ _ _ _ _ _ _
    refine ⟨_, _, _, [], rfl, F₄, N₄, (fun _ hp => nomatch hp), rfl, ?_⟩
    have e : (S.take (i + 1)).map sz = (S.take i).map sz ++ [sz n] := by rw [List.take_add_one, hn']; simp
    rw [e, nats_append]
    exact hy.append (.cons _ _ .nil)
  rintro C D m ys tl h tk ⟨rfl, hy⟩ hoff F₃ N₃
  refine post_none F₃ N₃ ?_
  intro h₄ g₄ hnew
  have hD := (hnew _ (List.mem_cons_self ..))
  have hD1 : D ≠ L + 1 + 1 + 1 + 1 + 1 := ne_of_get hD.2 (N.get (.head _))
  have hD2 : D ≠ L + 1 + 1 + 1 + 1 := ne_of_get hD.2 (N.get (.tail _ (.head _)))
  have hD3 : D ≠ L + 1 + 1 + 1 := ne_of_get hD.2 (N.get (.tail _ (.tail _ (.head _))))
  have hD4 : D ≠ L + 1 + 1 := ne_of_get hD.2 (N.get (.tail _ (.tail _ (.tail _ (.head _)))))
  have hD5 : D ≠ L + 1 := ne_of_get hD.2 (N.get (.tail _ (.tail _ (.tail _ (.tail _ (.head _))))))
  replace N := news_none F (news_grown N g₄) hD.2 hD.1
  replace F := fr_grown F g₄
  rw [List.take_of_length_le (by have := hib.length; rw [nats_length] at this; exact Nat.le_of_eq this.symm)] at hy
  have hsl : 1 ≤ (nats (S.map sz) ++ [0]).length := by simp
  clear F₃ N₃ hnew hD g₄ X₁ T₁ hoff
  dsimp only at N ⊢
  repeat' (first | ((fail_if_success (with_reducible show wpAny _ _ (exec (Stmt.While _ _ _ _) _) _ _ _)); (fail_if_success (with_reducible show wpAny _ _ (compareOp _ (Value.ref _) (Value.ref _)) _ _ _)); (fail_if_success (with_reducible show wpAny _ _ (call (Value.ref _) _) _ _ _)); (fail_if_success (with_reducible show wpAny _ _ (binaryOp Operator.Add (Value.ref _) (Value.ref _)) _ _ _)); (fail_if_success (with_reducible show wpAny _ _ (inplaceOp Operator.Add (Value.ref _) (Value.ref _)) _ _ _)); (fail_if_success (with_reducible show wpAny _ _ (subscriptTail _ _ _ _) _ _ _)); (fail_if_success (with_reducible show wpAny _ _ (call (Value.builtin "len") _) _ _ _)); walk1; (try dsimp only)) | fail "x")
  rename Fr _ _ _ _ => F₅
  rename News _ _ _ _ => N₅
  refine kmk_add_ints F₅ N₅ ⟨_, N₅.get (.tail _ (.head _)), rfl, _, rfl⟩ ⟨_, N₅.get (.head _), rfl, _, rfl⟩ hy (.cons _ _ .nil) ?_ ?_
  · intro Z zs h₆ F₆ N₆ hlt hz
    have hz' : IntsAre zs (nats (S.map sz ++ [0])) := by rw [nats_append]; exact hz
    have hZ1 : @LT.lt Nat _ (L + 1 + 1 + 1 + 1 + 1) Z := hlt _ (.tail _ (.tail _ (.head _)))
    replace N₆ : News s.heap L h₆ [(L + 1 + 1 + 1 + 1 + 1, o1), (L + 1 + 1 + 1 + 1, o2), (L + 1 + 1 + 1, o3), (L + 1 + 1, o4), (L + 1, o5), (Z, PySem.W.listOf zs.toArray 0)] := news_sub N₆ (by
      intro p hp; simp only [List.mem_cons, List.not_mem_nil, or_false] at hp ⊢
      rcases hp with h | h | h | h | h | h <;> simp [h])
    clear hz hlt hy F₅ N₅ hsl hD1 hD2 hD3 hD4 hD5
    dsimp only
    repeat' (first | ((fail_if_success (with_reducible show wpAny _ _ (exec (Stmt.While _ _ _ _) _) _ _ _)); (fail_if_success (with_reducible show wpAny _ _ (compareOp _ (Value.ref _) (Value.ref _)) _ _ _)); (fail_if_success (with_reducible show wpAny _ _ (call (Value.ref _) _) _ _ _)); (fail_if_success (with_reducible show wpAny _ _ (binaryOp Operator.Add (Value.ref _) (Value.ref _)) _ _ _)); (fail_if_success (with_reducible show wpAny _ _ (inplaceOp Operator.Add (Value.ref _) (Value.ref _)) _ _ _)); (fail_if_success (with_reducible show wpAny _ _ (subscriptTail _ _ _ _) _ _ _)); (fail_if_success (with_reducible show wpAny _ _ (call (Value.builtin "len") _) _ _ _)); walk1; (try dsimp only)) | fail "x")
    rename Fr _ _ _ _ => F₇
    rename News _ _ _ _ => N₇
    try simp only [List.cons_append, List.nil_append] at N₇
    clear d3
    rename _ = Data.cell (some (Value.ref Z)) => d3
    refine item_at (k := 0) (n := szAt S 0) ⟨_, N₇.get (.tail _ (.tail _ (.tail _ (.tail _ (.tail _ (.head _)))))), rfl, _, rfl⟩ hz' (sizes_at S (Nat.zero_le _)) (by omega) ?_
    intro t₇
    repeat' (first | ((fail_if_success (with_reducible show wpAny _ _ (exec (Stmt.While _ _ _ _) _) _ _ _)); (fail_if_success (with_reducible show wpAny _ _ (compareOp _ (Value.ref _) (Value.ref _)) _ _ _)); (fail_if_success (with_reducible show wpAny _ _ (call (Value.ref _) _) _ _ _)); (fail_if_success (with_reducible show wpAny _ _ (binaryOp Operator.Add (Value.ref _) (Value.ref _)) _ _ _)); (fail_if_success (with_reducible show wpAny _ _ (inplaceOp Operator.Add (Value.ref _) (Value.ref _)) _ _ _)); (fail_if_success (with_reducible show wpAny _ _ (subscriptTail _ _ _ _) _ _ _)); (fail_if_success (with_reducible show wpAny _ _ (call (Value.builtin "len") _) _ _ _)); walk1; (try dsimp only)) | fail "x")
    rename_i o3' tkz T0 _ hT0 P0 _ hP0 _ tk0 _ F₈ N₈
    have hZ2 : Off L Z := by refine ⟨?_, ?_, ?_, ?_, ?_⟩ <;> omega
    refine while_k (RcI s L a b Z zs W S) ?_ W.length ⟨_, _, 0, _, P0, 0, [.ref T0], [(T0, plo (0, szAt S 0) tkz t₇)], [(0, szAt S 0)], o1, o2, o3', o4, o5, _, _, _, _, rfl, pick3 (x1 := Str.ofString "k") (x2 := Str.ofString "places") (x3 := Str.ofString "wanted") F₈ rfl rfl rfl, ?_, d1, d2, d3, d4, d5, ?_, ?_, ?_, ?_, ?_, ?_, Nat.zero_le _, ?_, rfl⟩
    case refine_2 => exact news_sub N₈ (by
      intro p hp; simp only [List.mem_cons, List.not_mem_nil, or_false] at hp ⊢
      rcases hp with h | h | h | h | h | h | h | h <;> simp [h])
    case refine_3 => refine ⟨?_, ?_, ?_, ?_, ?_⟩ <;> omega
    case refine_4 => omega
    case refine_5 =>
      intro p hp
      rw [List.mem_singleton.mp hp]
      dsimp only
      refine ⟨⟨?_, ?_, ?_, ?_, ?_⟩, ?_, ?_⟩ <;> omega
    case refine_6 => exact .cons (.head _) .nil
    case refine_7 => intro p hp; rw [List.mem_singleton.mp hp]; exact valid_szAt (Nat.zero_le _)
    case refine_8 => simp
    case refine_9 => rw [List.drop_zero]; rfl
    clear F₈ N₈ d1 d2 d3 d4 d5 hT0 hP0
    rintro n' _ ⟨h₉, tk₉, k, tkk, P, c, ys, tl, ps, o1, o2, o3, o4, o5, v1, v2, v4, u, rfl, F, N, d1, d2, d3, d4, d5, hP, hPZ, htl, hps, hval, hlen, hk, hgo, rfl⟩
    repeat' (first | ((fail_if_success (with_reducible show wpAny _ _ (compareOp _ (Value.ref _) (Value.ref _)) _ _ _)); (fail_if_success (with_reducible show wpAny _ _ (call (Value.ref _) _) _ _ _)); (fail_if_success (with_reducible show wpAny _ _ (binaryOp Operator.Add (Value.ref _) (Value.ref _)) _ _ _)); (fail_if_success (with_reducible show wpAny _ _ (inplaceOp Operator.Add (Value.ref _) (Value.ref _)) _ _ _)); (fail_if_success (with_reducible show wpAny _ _ (subscriptTail _ _ _ _) _ _ _)); (fail_if_success (with_reducible show wpAny _ _ (call (Value.builtin "len") _) _ _ _)); walk1; (try dsimp only)) | fail "x")
    have hvl : vs.toArray.size = W.length := by have := hia.length; rw [nats_length] at this; simpa using this
    have hyl : ys.length = ps.length := hps.length
    refine len_list (hla.at fun o e => F.keep _ o e) (by rw [hvl]; omega) ?_
    rw [hvl]
    dsimp only
    repeat' (first | ((fail_if_success (with_reducible show wpAny _ _ (compareOp _ (Value.ref _) (Value.ref _)) _ _ _)); (fail_if_success (with_reducible show wpAny _ _ (call (Value.ref _) _) _ _ _)); (fail_if_success (with_reducible show wpAny _ _ (binaryOp Operator.Add (Value.ref _) (Value.ref _)) _ _ _)); (fail_if_success (with_reducible show wpAny _ _ (inplaceOp Operator.Add (Value.ref _) (Value.ref _)) _ _ _)); (fail_if_success (with_reducible show wpAny _ _ (subscriptTail _ _ _ _) _ _ _)); (fail_if_success (with_reducible show wpAny _ _ (call (Value.builtin "len") _) _ _ _)); walk1; (try dsimp only)) | fail "x")
    · rename Fr _ _ _ _ => F₁
      rename News _ _ _ _ => N₁
      refine ne_nil (ys := ys) ⟨_, N₁.get (.tail _ (.tail _ (.tail _ (.tail _ (.tail _ (.tail _ (.tail _ (.head _)))))))), rfl, _, rfl⟩ ⟨_, N₁.get (.head _), rfl, _, rfl⟩ (by simp only [units_in1, units_deeper, cLine]; omega) ?_
      replace N₁ := news_sub N₁ (fun p hp => List.Mem.tail _ hp)
      rw [hyl]
      repeat' (first | ((fail_if_success (with_reducible show wpAny _ _ (compareOp _ (Value.ref _) (Value.ref _)) _ _ _)); (fail_if_success (with_reducible show wpAny _ _ (call (Value.ref _) _) _ _ _)); (fail_if_success (with_reducible show wpAny _ _ (binaryOp Operator.Add (Value.ref _) (Value.ref _)) _ _ _)); (fail_if_success (with_reducible show wpAny _ _ (inplaceOp Operator.Add (Value.ref _) (Value.ref _)) _ _ _)); (fail_if_success (with_reducible show wpAny _ _ (subscriptTail _ _ _ _) _ _ _)); (fail_if_success (with_reducible show wpAny _ _ (call (Value.builtin "len") _) _ _ _)); walk1; (try dsimp only)) | fail "x")
      · have hkW : k < W.length := by omega
        have hWk : W[k]? = some W[k] := List.getElem?_eq_getElem hkW
        have hdrop : W.drop k = W[k] :: W.drop (k + 1) := List.drop_eq_getElem_cons hkW
        generalize W[k] = n at hWk hdrop
        have hn := hbW n (List.mem_of_getElem? hWk)
        obtain ⟨hP1, hP2, hP3, hP4, hP5⟩ := id hP
        refine item_at (hla.at fun o e => F₁.keep _ o e) hia hWk (by omega) ?_
        intro t₂
        repeat' (first | ((fail_if_success (with_reducible show wpAny _ _ (compareOp _ (Value.ref _) (Value.ref _)) _ _ _)); (fail_if_success (with_reducible show wpAny _ _ (call (Value.ref _) _) _ _ _)); (fail_if_success (with_reducible show wpAny _ _ (binaryOp Operator.Add (Value.ref _) (Value.ref _)) _ _ _)); (fail_if_success (with_reducible show wpAny _ _ (inplaceOp Operator.Add (Value.ref _) (Value.ref _)) _ _ _)); (fail_if_success (with_reducible show wpAny _ _ (subscriptTail _ _ _ _) _ _ _)); (fail_if_success (with_reducible show wpAny _ _ (call (Value.builtin "len") _) _ _ _)); walk1; (try dsimp only)) | fail "x")
        rename Fr _ _ _ _ => F₂
        rename News _ _ _ _ => N₂
        refine size_call (X.keeps F₂.keep) (T.keeps F₂.keep) (by show A.depth + 1 < 900; omega) hn ?_
        intro h₃ tk₃ t₃ g₃
        replace F₂ := fr_grown F₂ g₃
        replace N₂ := news_grown N₂ g₃
        have hs7 : sz n ≤ 7 := sz_le_of_lt (by omega) (by omega)
        have hs1 := sz_pos n
        clear d4
        rename _ = Data.cell (some (Value.int (n : Int) t₂)) => d4
        rename_i o4
        dsimp only
        repeat' (first | ((fail_if_success (with_reducible show wpAny _ _ (exec (Stmt.If _ _ _ _) _) _ _ _)); (fail_if_success (with_reducible show wpAny _ _ (compareOp _ (Value.ref _) (Value.ref _)) _ _ _)); (fail_if_success (with_reducible show wpAny _ _ (call (Value.ref _) _) _ _ _)); (fail_if_success (with_reducible show wpAny _ _ (binaryOp Operator.Add (Value.ref _) (Value.ref _)) _ _ _)); (fail_if_success (with_reducible show wpAny _ _ (inplaceOp Operator.Add (Value.ref _) (Value.ref _)) _ _ _)); (fail_if_success (with_reducible show wpAny _ _ (subscriptTail _ _ _ _) _ _ _)); (fail_if_success (with_reducible show wpAny _ _ (call (Value.builtin "len") _) _ _ _)); walk1; (try dsimp only)) | fail "x")
        rename Fr _ _ _ _ => F₃
        rename News _ _ _ _ => N₃
        clear d2
        rename _ = Data.cell (some (Value.int (sz n : Int) t₃)) => d2
        rename_i o2
        refine if_t (n % 64 = 46 ∧ (W.drop (k + 1)).take 2 = [46, 46]) F₃ N₃ ?_ ?_ ?_
        · repeat' (first | ((fail_if_success (with_reducible show wpAny _ _ (compareOp _ (Value.ref _) (Value.ref _)) _ _ _)); (fail_if_success (with_reducible show wpAny _ _ (call (Value.ref _) _) _ _ _)); (fail_if_success (with_reducible show wpAny _ _ (binaryOp Operator.Add (Value.ref _) (Value.ref _)) _ _ _)); (fail_if_success (with_reducible show wpAny _ _ (inplaceOp Operator.Add (Value.ref _) (Value.ref _)) _ _ _)); (fail_if_success (with_reducible show wpAny _ _ (subscriptTail _ _ _ _) _ _ _)); (fail_if_success (with_reducible show wpAny _ _ (call (Value.builtin "len") _) _ _ _)); walk1; (try dsimp only)) | fail "x")
          · refine' kmk_slice_ints (s := ⟨_, _, _, _, _⟩) (l := a) (vs := vs) (ns := nats W) (lo := some ((k : Int) + 1)) (hi := some ((k : Int) + 3)) (ms := nats ((W.drop (k + 1)).take 2)) ?sl1 ?sl2 ?sl3 ?sl4 ?sl5 hia ?sl6 rfl ?_ ?sl7 ?sl8 ?sl9
            case sl1 => exact F₃
            case sl2 => exact N₃
            case sl3 => exact hla.at fun o e => F₃.keep _ o e
            case sl4 => exact IsPart.int _ _
            case sl5 => exact IsPart.int _ _
            case sl6 => rw [← take_two hkW]; exact kmk_run (x := (k : Int) + 1) (y := (k : Int) + 3) hia (by omega) (by omega)
            case sl7 => with_unfolding_all rfl
            case sl8 => intro _; with_unfolding_all rfl
            case sl9 => rw [hvl, sizeLine_eq]; omega
            intro D₄ ws₄ h₄ F₄ N₄ hl₄ hi₄ _ _
            dsimp only
            repeat' (first | ((fail_if_success (with_reducible show wpAny _ _ (compareOp _ (Value.ref _) (Value.ref _)) _ _ _)); (fail_if_success (with_reducible show wpAny _ _ (call (Value.ref _) _) _ _ _)); (fail_if_success (with_reducible show wpAny _ _ (binaryOp Operator.Add (Value.ref _) (Value.ref _)) _ _ _)); (fail_if_success (with_reducible show wpAny _ _ (inplaceOp Operator.Add (Value.ref _) (Value.ref _)) _ _ _)); (fail_if_success (with_reducible show wpAny _ _ (subscriptTail _ _ _ _) _ _ _)); (fail_if_success (with_reducible show wpAny _ _ (call (Value.builtin "len") _) _ _ _)); walk1; (try dsimp only)) | fail "x")
            rename Fr _ _ _ _ => F₅
            rename News _ _ _ _ => N₅
            refine ke_eq_ints (xs := ws₄) ⟨_, N₅.get (.tail _ (.head _)), rfl, _, rfl⟩ ⟨_, N₅.get (.head _), rfl, _, rfl⟩ hi₄ (.cons _ _ (.cons _ _ .nil)) (by simp only [units_in1, units_deeper, cLine]; omega) ?_
            repeat' (first | ((fail_if_success (with_reducible show wpAny _ _ (compareOp _ (Value.ref _) (Value.ref _)) _ _ _)); (fail_if_success (with_reducible show wpAny _ _ (call (Value.ref _) _) _ _ _)); (fail_if_success (with_reducible show wpAny _ _ (binaryOp Operator.Add (Value.ref _) (Value.ref _)) _ _ _)); (fail_if_success (with_reducible show wpAny _ _ (inplaceOp Operator.Add (Value.ref _) (Value.ref _)) _ _ _)); (fail_if_success (with_reducible show wpAny _ _ (subscriptTail _ _ _ _) _ _ _)); (fail_if_success (with_reducible show wpAny _ _ (call (Value.builtin "len") _) _ _ _)); walk1; (try dsimp only)) | fail "x")
            · rename nats _ = _ => hq
              exact ⟨_, _, rfl, F₅, news_sub N₅ (fun p hp => .tail _ (.tail _ hp)), iff_of_true rfl ⟨by omega, nats_inj (b := [46, 46]) hq⟩⟩
            · rename ¬ nats _ = _ => hq
              exact ⟨_, _, rfl, F₅, news_sub N₅ (fun p hp => .tail _ (.tail _ hp)), iff_of_false (by simp) (fun x => hq (congrArg nats x.2))⟩
          · exact ⟨_, _, rfl, F₃, N₃, by simp; omega⟩
        · intro h₄ tk₄ F₄ N₄ hgap
          clear F₃ N₃
          have X₄ := X.keeps F₄.keep
          have T₄ := T.keeps F₄.keep
          have hc1 : h₄.IsCell (L + 1 + 1 + 1) (some (.ref Z)) := ⟨_, N₄.get (.tail _ (.tail _ (.head _))), d3⟩
          have hc2 : h₄.IsCell (L + 1 + 1 + 1 + 1) (some (.int (sz n : Int) t₃)) := ⟨_, N₄.get (.tail _ (.head _)), d2⟩
          have hc3 : h₄.IsCell (L + 1) (some (.ref b)) := ⟨_, N₄.get (.tail _ (.tail _ (.tail _ (.tail _ (.head _))))), d5⟩
          have hc4 : h₄.IsCell (L + 1 + 1) (some (.int (n : Int) t₂)) := ⟨_, N₄.get (.tail _ (.tail _ (.tail _ (.head _)))), d4⟩
          have hlP : h₄.IsList P ys.toArray := ⟨_, N₄.get (.tail _ (.tail _ (.tail _ (.tail _ (.tail _ (.tail _ (.head _))))))), rfl, _, rfl⟩
          have hlb₄ : h₄.IsList b us.toArray := hlb.at fun o e => F₄.keep _ o e
          have htup : ∀ {q : Pl} {t u : Tok} {x : Addr}, (x, plo q t u) ∈ tl → IsTup h₄ x #[.int (q.1 : Int) t, .int (q.2 : Int) u] := fun hm => ⟨_, N₄.get (.tail _ (.tail _ (.tail _ (.tail _ (.tail _ (.tail _ (.tail _ hm))))))), rfl, _, rfl⟩
          have hk46 : n % 64 = 46 ∧ (W.drop (k + 1)).take 2 = [46, 46] := hgap
          have hlen2 : k + 3 ≤ W.length := by
            have h1 := congrArg List.length hgap.2
            rw [List.length_take, List.length_drop] at h1
            simp at h1; omega
          repeat' (first | ((fail_if_success (with_reducible show wpAny _ _ (exec (Stmt.If _ _ _ _) _) _ _ _)); (fail_if_success (with_reducible show wpAny _ _ (compareOp _ (Value.ref _) (Value.ref _)) _ _ _)); (fail_if_success (with_reducible show wpAny _ _ (call (Value.ref _) _) _ _ _)); (fail_if_success (with_reducible show wpAny _ _ (binaryOp Operator.Add (Value.ref _) (Value.ref _)) _ _ _)); (fail_if_success (with_reducible show wpAny _ _ (inplaceOp Operator.Add (Value.ref _) (Value.ref _)) _ _ _)); (fail_if_success (with_reducible show wpAny _ _ (subscriptTail _ _ _ _) _ _ _)); (fail_if_success (with_reducible show wpAny _ _ (call (Value.builtin "len") _) _ _ _)); walk1; (try dsimp only)) | fail "x")
          refine wpAny_mono (Q := Mid s L a b Z k zs S (gapIn S n ps)) ?_ ?_ (fun _ _ x => x)
          · repeat' (first | ((fail_if_success (with_reducible show wpAny _ _ (exec (Stmt.Assign _ (PySem.Expr.ListComp _ _ _ _) _) _) _ _ _)); (fail_if_success (with_reducible show wpAny _ _ (compareOp _ (Value.ref _) (Value.ref _)) _ _ _)); (fail_if_success (with_reducible show wpAny _ _ (call (Value.ref _) _) _ _ _)); (fail_if_success (with_reducible show wpAny _ _ (binaryOp Operator.Add (Value.ref _) (Value.ref _)) _ _ _)); (fail_if_success (with_reducible show wpAny _ _ (inplaceOp Operator.Add (Value.ref _) (Value.ref _)) _ _ _)); (fail_if_success (with_reducible show wpAny _ _ (subscriptTail _ _ _ _) _ _ _)); (fail_if_success (with_reducible show wpAny _ _ (call (Value.builtin "len") _) _ _ _)); walk1; (try dsimp only)) | fail "x")
            · refine' comp_assign (cl := ?cl1) ?q1 ?q2 ?q3 ?q4 ?q5 ?_
              case q2 => rfl
              case q1 => rfl
              case q3 => rfl
              case q4 => decide
              case q5 => intro _; rfl
              repeat' (first | ((fail_if_success (with_reducible show wpAny _ _ (compareOp _ (Value.ref _) (Value.ref _)) _ _ _)); (fail_if_success (with_reducible show wpAny _ _ (call (Value.ref _) _) _ _ _)); (fail_if_success (with_reducible show wpAny _ _ (binaryOp Operator.Add (Value.ref _) (Value.ref _)) _ _ _)); (fail_if_success (with_reducible show wpAny _ _ (inplaceOp Operator.Add (Value.ref _) (Value.ref _)) _ _ _)); (fail_if_success (with_reducible show wpAny _ _ (subscriptTail _ _ _ _) _ _ _)); (fail_if_success (with_reducible show wpAny _ _ (call (Value.builtin "len") _) _ _ _)); walk1; (try dsimp only)) | fail "x")
              refine comp_list (vs := ys) hh hlP ?_ rfl (PlG S n ps) .nil ?_ ?_ ?_
              · decide
              · intro i ys' tl' hR
                have h1 := hR.length
                rw [List.length_map] at h1
                have h2 : ((ps.take i).filter (keepGap S n)).length ≤ (ps.take i).length := List.length_filter_le _ _
                rw [List.length_take] at h2
                rw [sizeLine_eq]; omega
              · rintro C I D i v ys' tl' m h tk oI hC hv hR hoff F₅ N₅
                obtain ⟨q, tq, uq, x, rfl, hq, hm⟩ := hps.at hv
                have hx := htup hm
                have hvq := hval q (List.mem_of_getElem? hq)
                obtain ⟨hq7, hqS⟩ := valid_le hbS hvq
                refine unpackN_ F₅ N₅ (F₅.tup hx) hh rfl rfl ?_
                intro h₆ F₆ N₆
                clear F₅ N₅
                repeat' (first | ((fail_if_success (with_reducible show wpAny _ _ (compareOp _ (Value.ref _) (Value.ref _)) _ _ _)); (fail_if_success (with_reducible show wpAny _ _ (call (Value.ref _) _) _ _ _)); (fail_if_success (with_reducible show wpAny _ _ (binaryOp Operator.Add (Value.ref _) (Value.ref _)) _ _ _)); (fail_if_success (with_reducible show wpAny _ _ (inplaceOp Operator.Add (Value.ref _) (Value.ref _)) _ _ _)); (fail_if_success (with_reducible show wpAny _ _ (subscriptTail _ _ _ _) _ _ _)); (fail_if_success (with_reducible show wpAny _ _ (call (Value.builtin "len") _) _ _ _)); walk1; (try dsimp only)) | fail "x")
                refine tests_one ?_
                have ht1 : ps.take (i + 1) = ps.take i ++ [q] := take_snoc hq
                repeat' (first | ((fail_if_success (with_reducible show wpAny _ _ (compareOp _ (Value.ref _) (Value.ref _)) _ _ _)); (fail_if_success (with_reducible show wpAny _ _ (call (Value.ref _) _) _ _ _)); (fail_if_success (with_reducible show wpAny _ _ (binaryOp Operator.Add (Value.ref _) (Value.ref _)) _ _ _)); (fail_if_success (with_reducible show wpAny _ _ (inplaceOp Operator.Add (Value.ref _) (Value.ref _)) _ _ _)); (fail_if_success (with_reducible show wpAny _ _ (subscriptTail _ _ _ _) _ _ _)); (fail_if_success (with_reducible show wpAny _ _ (call (Value.builtin "len") _) _ _ _)); walk1; (try dsimp only)) | fail "x")
                · rename Fr _ _ _ _ => F₇
                  rename News _ _ _ _ => N₇
                  have hqs : sz n ≤ q.2 := by omega
                  have hq1 : q.1 < S.length := by
                    rcases hvq with ⟨h1, _⟩ | ⟨_, h2⟩
                    · exact h1
                    · omega
                  have hSq : S[q.1]? = some (S.getD q.1 0) := by simp [hq1]
                  refine item_at (hlb₄.at fun o e => F₇.keep _ o e) hib hSq (by omega) ?_
                  intro t₈
                  have hzN : ((q.2 : Int) - (sz n : Int) + 1).toNat = q.2 - sz n + 1 := by omega
                  repeat' (first | ((fail_if_success (with_reducible show wpAny _ _ (compareOp _ (Value.ref _) (Value.ref _)) _ _ _)); (fail_if_success (with_reducible show wpAny _ _ (call (Value.ref _) _) _ _ _)); (fail_if_success (with_reducible show wpAny _ _ (binaryOp Operator.Add (Value.ref _) (Value.ref _)) _ _ _)); (fail_if_success (with_reducible show wpAny _ _ (inplaceOp Operator.Add (Value.ref _) (Value.ref _)) _ _ _)); (fail_if_success (with_reducible show wpAny _ _ (subscriptTail _ _ _ _) _ _ _)); (fail_if_success (with_reducible show wpAny _ _ (call (Value.builtin "len") _) _ _ _)); walk1; (try dsimp only)) | fail "x")
                  · rename ((_ : Nat) : Int) = ((_ : Nat) : Int) => hqn
                    rw [hzN] at hqn
                    have hkp : keepGap S n q = true := by simp only [keepGap, Bool.and_eq_true, decide_eq_true_eq]; omega
                    refine tested_true ?_
                    repeat' (first | ((fail_if_success (with_reducible show wpAny _ _ (compareOp _ (Value.ref _) (Value.ref _)) _ _ _)); (fail_if_success (with_reducible show wpAny _ _ (call (Value.ref _) _) _ _ _)); (fail_if_success (with_reducible show wpAny _ _ (binaryOp Operator.Add (Value.ref _) (Value.ref _)) _ _ _)); (fail_if_success (with_reducible show wpAny _ _ (inplaceOp Operator.Add (Value.ref _) (Value.ref _)) _ _ _)); (fail_if_success (with_reducible show wpAny _ _ (subscriptTail _ _ _ _) _ _ _)); (fail_if_success (with_reducible show wpAny _ _ (call (Value.builtin "len") _) _ _ _)); walk1; (try dsimp only)) | fail "x")
                    rename Fr _ _ _ _ => F₈
                    rename News _ _ _ _ => N₈
                    rename_i T' _ hlT
                    obtain ⟨hlI, hlD, hlt⟩ := hlT
                    rw [show (q.2 : Int) - (sz n : Int) + 1 = ((q.2 - sz n + 1 : Nat) : Int) by omega] at N₈
                    refine elt_tuple (q.1, q.2 - sz n + 1) F₈ N₈ hlI hlD hoff hR ?_
                    intro tl₂ h₂'
                    show Pls _ (((ps.take (i + 1)).filter (keepGap S n)).map _) _
                    rw [ht1, gapf_snoc, if_pos hkp]; exact h₂'
                  · rename ((_ : Nat) : Int) ≠ ((_ : Nat) : Int) => hqn
                    rw [hzN] at hqn
                    have hkp : ¬ keepGap S n q = true := by simp only [keepGap, Bool.and_eq_true, decide_eq_true_eq]; omega
                    refine tested_false ⟨_, _, _, tl', rfl, F₇, N₇, hoff, ?_⟩
                    show Pls tl' (((ps.take (i + 1)).filter (keepGap S n)).map _) ys'
                    rw [ht1, gapf_snoc, if_neg hkp, List.append_nil]; exact hR
                · rename Fr _ _ _ _ => F₇
                  rename News _ _ _ _ => N₇
                  have hkp : ¬ keepGap S n q = true := by simp only [keepGap, Bool.and_eq_true, decide_eq_true_eq]; omega
                  refine tested_false ⟨_, _, _, tl', rfl, F₇, N₇, hoff, ?_⟩
                  show Pls tl' (((ps.take (i + 1)).filter (keepGap S n)).map _) ys'
                  rw [ht1, gapf_snoc, if_neg hkp, List.append_nil]; exact hR
              · rintro C D m ys' tl' h tk hR hoff F₅ N₅
                refine post_assign F₅ N₅ F₄ N₄ rfl rfl ?_
                intro h₆ tk₆ F₆ N₆ hne
                have hgi : gapIn S n ps = (ps.filter (keepGap S n)).map (fun p => ((p.1, p.2 - sz n + 1) : Pl)) := by unfold gapIn; rw [if_pos (by omega)]
                have hR' : Pls tl' (gapIn S n ps) ys' := by
                  have : PlG S n ps ys.length ys' tl' := hR
                  unfold PlG at this
                  rw [hyl, List.take_length] at this
                  rw [hgi]; exact this
                clear F₅ N₅ F₄ N₄ hc1 hc2 hc3 hc4 hlP hlb₄ htup X₄ T₄ hR
                dsimp only at F₆ N₆ ⊢
                repeat' (first | ((fail_if_success (with_reducible show wpAny _ _ (compareOp _ (Value.ref _) (Value.ref _)) _ _ _)); (fail_if_success (with_reducible show wpAny _ _ (call (Value.ref _) _) _ _ _)); (fail_if_success (with_reducible show wpAny _ _ (binaryOp Operator.Add (Value.ref _) (Value.ref _)) _ _ _)); (fail_if_success (with_reducible show wpAny _ _ (inplaceOp Operator.Add (Value.ref _) (Value.ref _)) _ _ _)); (fail_if_success (with_reducible show wpAny _ _ (subscriptTail _ _ _ _) _ _ _)); (fail_if_success (with_reducible show wpAny _ _ (call (Value.builtin "len") _) _ _ _)); walk1; (try dsimp only)) | fail "x")
                have hne5 := fun p hp => hne p hp _ (.head _)
                have hne4 := fun p hp => hne p hp _ (.tail _ (.head _))
                have hne3 := fun p hp => hne p hp _ (.tail _ (.tail _ (.head _)))
                have hne2 := fun p hp => hne p hp _ (.tail _ (.tail _ (.tail _ (.head _))))
                have hne1 := fun p hp => hne p hp _ (.tail _ (.tail _ (.tail _ (.tail _ (.head _)))))
                have hne0 := fun p hp => hne p hp _ (.tail _ (.tail _ (.tail _ (.tail _ (.tail _ (.head _))))))
                have hlp : (gapIn S n ps).length ≤ ps.length := by rw [hgi, List.length_map]; exact List.length_filter_le _ _
                refine ⟨rfl, _, _, _, D, ys'.length, ys', tl', o1, o2, o3, o4, o5, _, _, _, _, rfl, pick3 (x1 := Str.ofString "k") (x2 := Str.ofString "places") (x3 := Str.ofString "wanted") F₆ rfl rfl rfl, news_sub N₆ (fun p hp => ?_), d1, d2, d3, d4, d5, ⟨hne1 _ (.head _), hne2 _ (.head _), hne3 _ (.head _), hne4 _ (.head _), hne5 _ (.head _)⟩, hne0 _ (.head _), fun p hp => ⟨⟨hne1 _ (.tail _ hp), hne2 _ (.tail _ hp), hne3 _ (.tail _ hp), hne4 _ (.tail _ hp), hne5 _ (.tail _ hp)⟩, hne0 _ (.tail _ hp), hoff p hp⟩, hR', gapIn_valid hval, by omega⟩
                simp only [List.mem_cons, List.mem_append] at hp ⊢
                rcases hp with h | h | h | h | h | h | h | h <;> simp [h]
            · refine ⟨rfl, _, _, _, P, c, ys, tl, o1, o2, o3, o4, o5, _, _, _, _, rfl, pick3 (x1 := Str.ofString "k") (x2 := Str.ofString "places") (x3 := Str.ofString "wanted") F₄ rfl rfl rfl, news_sub N₄ (fun p hp => hp), d1, d2, d3, d4, d5, hP, hPZ, htl, ?_, ?_, ?_⟩
              all_goals (have hgi : gapIn S n ps = ps := by unfold gapIn; rw [if_neg (by omega)])
              all_goals rw [hgi]
              · exact hps
              · exact hval
              · exact hlen
          · clear hc1 hc2 hc3 hc4 hlP hlb₄ htup X₄ T₄ F₄ N₄ d1 d2 d3 d4 d5 hP hPZ htl hps
            rintro _ _ ⟨rfl, h₅, tk₅, tkk, P, c, ys, tl, o1, o2, o3, o4, o5, v1, v2, v4, u, rfl, F₅, N₅, d1, d2, d3, d4, d5, hP, hPZ, htl, hps, hval', hlen'⟩
            dsimp only
            repeat' (first | ((fail_if_success (with_reducible show wpAny _ _ (exec (Stmt.If _ _ _ _) _) _ _ _)); (fail_if_success (with_reducible show wpAny _ _ (compareOp _ (Value.ref _) (Value.ref _)) _ _ _)); (fail_if_success (with_reducible show wpAny _ _ (call (Value.ref _) _) _ _ _)); (fail_if_success (with_reducible show wpAny _ _ (binaryOp Operator.Add (Value.ref _) (Value.ref _)) _ _ _)); (fail_if_success (with_reducible show wpAny _ _ (inplaceOp Operator.Add (Value.ref _) (Value.ref _)) _ _ _)); (fail_if_success (with_reducible show wpAny _ _ (subscriptTail _ _ _ _) _ _ _)); (fail_if_success (with_reducible show wpAny _ _ (call (Value.builtin "len") _) _ _ _)); walk1; (try dsimp only)) | fail "x")
            generalize hqs : gapIn S n ps = qs at *
            have hyl₅ : ys.length = qs.length := hps.length
            refine wpAny_mono (Q := Mid s L a b Z k zs S (gapOf S qs)) ?_ ?_ (fun _ _ x => x)
            · repeat' (first | ((fail_if_success (with_reducible show wpAny _ _ (compareOp _ (Value.ref _) (Value.ref _)) _ _ _)); (fail_if_success (with_reducible show wpAny _ _ (call (Value.ref _) _) _ _ _)); (fail_if_success (with_reducible show wpAny _ _ (binaryOp Operator.Add (Value.ref _) (Value.ref _)) _ _ _)); (fail_if_success (with_reducible show wpAny _ _ (inplaceOp Operator.Add (Value.ref _) (Value.ref _)) _ _ _)); (fail_if_success (with_reducible show wpAny _ _ (subscriptTail _ _ _ _) _ _ _)); (fail_if_success (with_reducible show wpAny _ _ (call (Value.builtin "len") _) _ _ _)); walk1; (try dsimp only)) | fail "x")
              rename Fr _ _ _ _ => F₆
              rename News _ _ _ _ => N₆
              refine ne_nil (ys := ys) ⟨_, N₆.get (.tail _ (.tail _ (.tail _ (.tail _ (.tail _ (.tail _ (.tail _ (.head _)))))))), rfl, _, rfl⟩ ⟨_, N₆.get (.head _), rfl, _, rfl⟩ (by simp only [units_in1, units_deeper, cLine]; omega) ?_
              replace N₆ := news_sub N₆ (fun p hp => List.Mem.tail _ hp)
              rw [hyl₅]
              repeat' (first | ((fail_if_success (with_reducible show wpAny _ _ (compareOp _ (Value.ref _) (Value.ref _)) _ _ _)); (fail_if_success (with_reducible show wpAny _ _ (call (Value.ref _) _) _ _ _)); (fail_if_success (with_reducible show wpAny _ _ (binaryOp Operator.Add (Value.ref _) (Value.ref _)) _ _ _)); (fail_if_success (with_reducible show wpAny _ _ (inplaceOp Operator.Add (Value.ref _) (Value.ref _)) _ _ _)); (fail_if_success (with_reducible show wpAny _ _ (subscriptTail _ _ _ _) _ _ _)); (fail_if_success (with_reducible show wpAny _ _ (call (Value.builtin "len") _) _ _ _)); walk1; (try dsimp only)) | fail "x")
              · rename _ ≠ 0 => hne0
                obtain ⟨p0, tq, uq, x0, qs', ys', hqe, hye, hm⟩ := hps.head hne0
                obtain ⟨hq7, hqS⟩ := valid_le hbS (hval' p0 (by rw [hqe]; exact .head _))
                refine item_listL (k := 0) (l := ys) (x := .ref x0) ⟨_, N₆.get (.tail _ (.tail _ (.tail _ (.tail _ (.tail _ (.tail _ (.head _))))))), rfl, _, rfl⟩ (by decide) (by decide) (by rw [hye]; rfl) ?_ (by with_unfolding_all rfl) (by intro _; with_unfolding_all rfl)
                try dsimp only
                refine unpackN_ F₆ N₆ ⟨_, N₆.get (.tail _ (.tail _ (.tail _ (.tail _ (.tail _ (.tail _ (.tail _ hm))))))), rfl, _, rfl⟩ hh rfl rfl ?_
                intro h₇ F₇ N₇
                clear F₆ N₆
                repeat' (first | ((fail_if_success (with_reducible show wpAny _ _ (exec (Stmt.Assign _ (PySem.Expr.ListComp _ _ _ _) _) _) _ _ _)); (fail_if_success (with_reducible show wpAny _ _ (compareOp _ (Value.ref _) (Value.ref _)) _ _ _)); (fail_if_success (with_reducible show wpAny _ _ (call (Value.ref _) _) _ _ _)); (fail_if_success (with_reducible show wpAny _ _ (binaryOp Operator.Add (Value.ref _) (Value.ref _)) _ _ _)); (fail_if_success (with_reducible show wpAny _ _ (inplaceOp Operator.Add (Value.ref _) (Value.ref _)) _ _ _)); (fail_if_success (with_reducible show wpAny _ _ (subscriptTail _ _ _ _) _ _ _)); (fail_if_success (with_reducible show wpAny _ _ (call (Value.builtin "len") _) _ _ _)); walk1; (try dsimp only)) | fail "x")
                clear d1
                rename_i o1n d1 h₈ F₈ N₈
                refine' comp_assign (cl := ?cl2) ?q1 ?q2 ?q3 ?q4 ?q5 ?_
                case q2 => rfl
                case q1 => rfl
                case q3 => rfl
                case q4 => decide
                case q5 => intro _; rfl
                repeat' (first | ((fail_if_success (with_reducible show wpAny _ _ (compareOp _ (Value.ref _) (Value.ref _)) _ _ _)); (fail_if_success (with_reducible show wpAny _ _ (call (Value.ref _) _) _ _ _)); (fail_if_success (with_reducible show wpAny _ _ (binaryOp Operator.Add (Value.ref _) (Value.ref _)) _ _ _)); (fail_if_success (with_reducible show wpAny _ _ (inplaceOp Operator.Add (Value.ref _) (Value.ref _)) _ _ _)); (fail_if_success (with_reducible show wpAny _ _ (subscriptTail _ _ _ _) _ _ _)); (fail_if_success (with_reducible show wpAny _ _ (call (Value.builtin "len") _) _ _ _)); walk1; (try dsimp only)) | fail "x")
                rename_i h₉ tk₉ t₁ u₁ v₁ hr F₉ N₉ g₉
                have X₉ := X.keeps F₉.keep
                have T₉ := T.keeps F₉.keep
                have hcF : h₉.IsCell (L + 1 + 1 + 1 + 1 + 1) (some (.int (p0.1 : Int) tq)) := ⟨_, N₉.get (.head _), d1⟩
                refine comp_range (n := p0.2) hh hr ?_ ?_ ?_ rfl (PlD p0) ⟨Nat.zero_le _, .nil⟩ ?_ ?_ ?_ (fun _ _ => rfl)
                · exact small_down (by omega) (by omega) (by omega) (by omega)
                · rw [rangeSize_downNat]; omega
                · decide
                · rintro i ys₂ tl₂ ⟨hi, hR⟩
                  have h1 := hR.length
                  rw [List.length_map, List.length_range] at h1
                  rw [sizeLine_eq]; omega
                · rintro C I D i t' ys₂ tl₂ m h tk oI hC hi ⟨hi', hR⟩ hoff F₁₀ N₁₀
                  rw [show (p0.2 : Int) + (i : Nat) * (-1) = ((p0.2 - i : Nat) : Int) by omega]
                  repeat' (first | ((fail_if_success (with_reducible show wpAny _ _ (compareOp _ (Value.ref _) (Value.ref _)) _ _ _)); (fail_if_success (with_reducible show wpAny _ _ (call (Value.ref _) _) _ _ _)); (fail_if_success (with_reducible show wpAny _ _ (binaryOp Operator.Add (Value.ref _) (Value.ref _)) _ _ _)); (fail_if_success (with_reducible show wpAny _ _ (inplaceOp Operator.Add (Value.ref _) (Value.ref _)) _ _ _)); (fail_if_success (with_reducible show wpAny _ _ (subscriptTail _ _ _ _) _ _ _)); (fail_if_success (with_reducible show wpAny _ _ (call (Value.builtin "len") _) _ _ _)); walk1; (try dsimp only)) | fail "x")
                  rename Fr _ _ _ _ => F₁₁
                  rename News _ _ _ _ => N₁₁
                  rename_i T' _ hlT
                  obtain ⟨hlI, hlD, hlt⟩ := hlT
                  refine elt_tuple (p0.1, p0.2 - i) F₁₁ N₁₁ hlI hlD hoff hR ?_
                  intro tl₃ h₃'
                  refine ⟨hi, ?_⟩
                  rw [List.range_succ, List.map_append]; exact h₃'
                · rintro C D m ys₂ tl₂ h tk ⟨_, hR⟩ hoff F₁₀ N₁₀
                  refine post_assign F₁₀ N₁₀ F₉ N₉ rfl rfl ?_
                  intro h₁₁ tk₁₁ F₁₁ N₁₁ hne
                  have hne5 := fun p hp => hne p hp _ (.head _)
                  have hne4 := fun p hp => hne p hp _ (.tail _ (.head _))
                  have hne3 := fun p hp => hne p hp _ (.tail _ (.tail _ (.head _)))
                  have hne2 := fun p hp => hne p hp _ (.tail _ (.tail _ (.tail _ (.head _))))
                  have hne1 := fun p hp => hne p hp _ (.tail _ (.tail _ (.tail _ (.tail _ (.head _)))))
                  have hne0' := fun p hp => hne p hp _ (.tail _ (.tail _ (.tail _ (.tail _ (.tail _ (.head _))))))
                  have hDo : Off L D := ⟨hne1 _ (.head _), hne2 _ (.head _), hne3 _ (.head _), hne4 _ (.head _), hne5 _ (.head _)⟩
                  have hDZ : D ≠ Z := hne0' _ (.head _)
                  have htl₂ : ∀ p ∈ tl₂, Off L p.1 ∧ @Ne Nat p.1 Z ∧ @Ne Nat p.1 D := fun p hp => ⟨⟨hne1 _ (.tail _ hp), hne2 _ (.tail _ hp), hne3 _ (.tail _ hp), hne4 _ (.tail _ hp), hne5 _ (.tail _ hp)⟩, hne0' _ (.tail _ hp), hoff p hp⟩
                  obtain ⟨u₂, F₁₂⟩ : ∃ u₂ : Str → Option Value, Fr s.heap L h₁₁ (fun y => if y = Str.ofString "k" then some (.int (k : Int) tkk) else if y = Str.ofString "places" then some (.ref D) else if y = Str.ofString "wanted" then some (.ref a) else u₂ y) := ⟨_, pick3 (x1 := Str.ofString "k") (x2 := Str.ofString "places") (x3 := Str.ofString "wanted") F₁₁ rfl rfl rfl⟩
                  have N₁₂ : News s.heap L h₁₁ ((L + 1 + 1 + 1 + 1 + 1, o1n) :: (L + 1 + 1 + 1 + 1, o2) :: (L + 1 + 1 + 1, o3) :: (L + 1 + 1, o4) :: (L + 1, o5) :: (Z, PySem.W.listOf zs.toArray 0) :: (D, PySem.W.listOf ys₂.toArray ys₂.length) :: tl₂) := news_sub N₁₁ (fun p hp => by
                    simp only [List.mem_cons, List.mem_append] at hp ⊢
                    rcases hp with h | h | h | h | h | h | h | h <;> simp [h])
                  have hR₂ : Pls tl₂ ((List.range p0.2).map fun j => ((p0.1, p0.2 - j) : Pl)) ys₂ := hR
                  (try clear hne); (try clear hne0'); (try clear hne1); (try clear hne2); (try clear hne3); (try clear hne4); (try clear hne5); (try clear F₁₁); (try clear N₁₁); (try clear F₁₀); (try clear N₁₀); (try clear F₉); (try clear N₉); (try clear hoff); (try clear hR); (try clear hcF); (try clear X₉); (try clear T₉); (try clear g₉); (try clear F₈); (try clear N₈); (try clear hr); (try clear htl); (try clear hm); (try clear hps); (try clear N₇); (try clear F₇)
                  dsimp only
                  repeat' (first | ((fail_if_success (with_reducible show wpAny _ _ (eval (PySem.Expr.ListComp _ _ _ _) _) _ _ _)); (fail_if_success (with_reducible show wpAny _ _ (compareOp _ (Value.ref _) (Value.ref _)) _ _ _)); (fail_if_success (with_reducible show wpAny _ _ (call (Value.ref _) _) _ _ _)); (fail_if_success (with_reducible show wpAny _ _ (binaryOp Operator.Add (Value.ref _) (Value.ref _)) _ _ _)); (fail_if_success (with_reducible show wpAny _ _ (inplaceOp Operator.Add (Value.ref _) (Value.ref _)) _ _ _)); (fail_if_success (with_reducible show wpAny _ _ (subscriptTail _ _ _ _) _ _ _)); (fail_if_success (with_reducible show wpAny _ _ (call (Value.builtin "len") _) _ _ _)); walk1; (try dsimp only)) | fail "x")
                  refine' comp2_eval (cl := ?cl3) ?q1 ?q2 ?q3 ?q4 ?_
                  case q2 => rfl
                  case q1 => rfl
                  case q3 => decide
                  case q4 => intro _; rfl
                  repeat' (first | ((fail_if_success (with_reducible show wpAny _ _ (compareOp _ (Value.ref _) (Value.ref _)) _ _ _)); (fail_if_success (with_reducible show wpAny _ _ (call (Value.ref _) _) _ _ _)); (fail_if_success (with_reducible show wpAny _ _ (binaryOp Operator.Add (Value.ref _) (Value.ref _)) _ _ _)); (fail_if_success (with_reducible show wpAny _ _ (inplaceOp Operator.Add (Value.ref _) (Value.ref _)) _ _ _)); (fail_if_success (with_reducible show wpAny _ _ (subscriptTail _ _ _ _) _ _ _)); (fail_if_success (with_reducible show wpAny _ _ (call (Value.builtin "len") _) _ _ _)); walk1; (try dsimp only)) | fail "x")
                  rename Fr _ _ _ _ => F₁₃
                  rename News _ _ _ _ => N₁₃
                  have hul : us.toArray.size = S.length := by have := hib.length; rw [nats_length] at this; simpa using this
                  refine len_list (hlb.at fun o e => F₁₃.keep _ o e) (by rw [hul]; omega) ?_
                  rw [hul]
                  try dsimp only
                  repeat' (first | ((fail_if_success (with_reducible show wpAny _ _ (compareOp _ (Value.ref _) (Value.ref _)) _ _ _)); (fail_if_success (with_reducible show wpAny _ _ (call (Value.ref _) _) _ _ _)); (fail_if_success (with_reducible show wpAny _ _ (binaryOp Operator.Add (Value.ref _) (Value.ref _)) _ _ _)); (fail_if_success (with_reducible show wpAny _ _ (inplaceOp Operator.Add (Value.ref _) (Value.ref _)) _ _ _)); (fail_if_success (with_reducible show wpAny _ _ (subscriptTail _ _ _ _) _ _ _)); (fail_if_success (with_reducible show wpAny _ _ (call (Value.builtin "len") _) _ _ _)); walk1; (try dsimp only)) | fail "x")
                  rename_i h₁₄ tk₁₄ t₃ u₃ v₃ hr F₁₄ N₁₄ g₁₄
                  (try clear F₁₃); (try clear N₁₃); (try clear F₁₂); (try clear N₁₂); (try clear g₁₄)
                  have X₁₄ := X.keeps F₁₄.keep
                  have T₁₄ := T.keeps F₁₄.keep
                  have hcZ : h₁₄.IsCell (L + 1 + 1 + 1) (some (.ref Z)) := ⟨_, N₁₄.get (.tail _ (.tail _ (.head _))), d3⟩
                  have hlZ : h₁₄.IsList Z zs.toArray := ⟨_, N₁₄.get (.tail _ (.tail _ (.tail _ (.tail _ (.tail _ (.head _)))))), rfl, _, rfl⟩
                  refine comp2_range (n := S.length - (p0.1 + 1)) hh hr ?_ ?_ ?_ rfl (fun _ _ => rfl) (PlI S p0.1) .nil ?_ ?_ (fun _ _ => rfl)
                  · exact small_one (by omega) (by omega) (by omega) (by omega)
                  · rw [rangeSize_nat]; omega
                  · decide
                  · rintro C I D₂ i t' ys₃ tl₃ m h tk oI hC hID hi hR hoff F₁₅ N₁₅
                    rw [show ((p0.1 : Int) + 1) + (i : Nat) * 1 = ((p0.1 + 1 + i : Nat) : Int) by omega]
                    have hs7' := szAt_le hbS (p0.1 + 1 + i)
                    repeat' (first | ((fail_if_success (with_reducible show wpAny _ _ (compareOp _ (Value.ref _) (Value.ref _)) _ _ _)); (fail_if_success (with_reducible show wpAny _ _ (call (Value.ref _) _) _ _ _)); (fail_if_success (with_reducible show wpAny _ _ (binaryOp Operator.Add (Value.ref _) (Value.ref _)) _ _ _)); (fail_if_success (with_reducible show wpAny _ _ (inplaceOp Operator.Add (Value.ref _) (Value.ref _)) _ _ _)); (fail_if_success (with_reducible show wpAny _ _ (subscriptTail _ _ _ _) _ _ _)); (fail_if_success (with_reducible show wpAny _ _ (call (Value.builtin "len") _) _ _ _)); walk1; (try dsimp only)) | fail "x")
                    rename Fr _ _ _ _ => F₁₆
                    refine item_at (hlZ.at fun o e => F₁₆.keep _ o e) hz' (sizes_at S (by omega)) (by omega) ?_
                    intro t₉
                    repeat' (first | ((fail_if_success (with_reducible show wpAny _ _ (compareOp _ (Value.ref _) (Value.ref _)) _ _ _)); (fail_if_success (with_reducible show wpAny _ _ (call (Value.ref _) _) _ _ _)); (fail_if_success (with_reducible show wpAny _ _ (binaryOp Operator.Add (Value.ref _) (Value.ref _)) _ _ _)); (fail_if_success (with_reducible show wpAny _ _ (inplaceOp Operator.Add (Value.ref _) (Value.ref _)) _ _ _)); (fail_if_success (with_reducible show wpAny _ _ (subscriptTail _ _ _ _) _ _ _)); (fail_if_success (with_reducible show wpAny _ _ (call (Value.builtin "len") _) _ _ _)); walk1; (try dsimp only)) | fail "x")
                    rename_i h₁₇ tk₁₇ t₄ u₄ v₄ hr₂ F₁₇ N₁₇ g₁₇
                    (try clear F₁₆); (try clear F₁₅); (try clear N₁₅); (try clear g₁₇)
                    refine in_range (n := szAt S (p0.1 + 1 + i)) rfl hh hr₂ ?_ ?_ rfl F₁₇ N₁₇ hoff hID F₁₇.ns.lt (fun _ _ => rfl) (PlJ S p0.1 i (.int ((p0.1 + 1 + i : Nat) : Int) t')) ⟨rfl, Nat.zero_le _, by rw [List.range_zero, List.map_nil, List.append_nil]; exact hR⟩ ?_ ?_ ?_
                    · exact small_down (by omega) (by omega) (by omega) (by omega)
                    · rw [rangeSize_downNat]; omega
                    · rintro j m₄ ys₄ tl₄ ⟨_, hj, hR₄⟩
                      have h1 := hR₄.length
                      have h2 := rowsPl_length hbS p0.1 i
                      rw [List.length_append, List.length_map, List.length_range] at h1
                      rw [sizeLine_eq]; omega
                    · rintro J j t'' ys₄ tl₄ m₄ h₁₈ tk₁₈ oJ hj ⟨hm₄, hj', hR₄⟩ hoff₄ F₁₈ N₁₈
                      have F₁₉ := pick1 F₁₈ hm₄
                      (try clear F₁₇); (try clear N₁₇); (try clear F₁₈)
                      rw [show ((szAt S (p0.1 + 1 + i) : Nat) : Int) + (j : Nat) * (-1) = ((szAt S (p0.1 + 1 + i) - j : Nat) : Int) by omega]
                      repeat' (first | ((fail_if_success (with_reducible show wpAny _ _ (compareOp _ (Value.ref _) (Value.ref _)) _ _ _)); (fail_if_success (with_reducible show wpAny _ _ (call (Value.ref _) _) _ _ _)); (fail_if_success (with_reducible show wpAny _ _ (binaryOp Operator.Add (Value.ref _) (Value.ref _)) _ _ _)); (fail_if_success (with_reducible show wpAny _ _ (inplaceOp Operator.Add (Value.ref _) (Value.ref _)) _ _ _)); (fail_if_success (with_reducible show wpAny _ _ (subscriptTail _ _ _ _) _ _ _)); (fail_if_success (with_reducible show wpAny _ _ (call (Value.builtin "len") _) _ _ _)); walk1; (try dsimp only)) | fail "x")
                      rename Fr _ _ _ _ => F₂₀
                      rename News _ _ _ _ => N₂₀
                      rename_i T' _ hlT
                      obtain ⟨hlJ, hlD, hlI, hlt⟩ := hlT
                      refine ⟨_, _, _, (T', plo (p0.1 + 1 + i, szAt S (p0.1 + 1 + i) - j) t' t'') :: tl₄, rfl, F₂₀, news_sub N₂₀ (fun p hp => ?_), fun p hp => ?_, rfl, hj, ?_⟩
                      · simp only [List.mem_cons] at hp ⊢
                        rcases hp with h | h | h | h | h <;> simp [h]
                      · rcases List.mem_cons.mp hp with rfl | hp
                        · exact ⟨Nat.ne_of_gt hlI, Nat.ne_of_gt hlD, Nat.ne_of_gt hlJ⟩
                        · exact hoff₄ p hp
                      · rw [List.range_succ, List.map_append, ← List.append_assoc]
                        exact Pls.app (.cons (.head _) .nil) (hR₄.sub fun p hp => .tail _ hp)
                    · rintro m₄ ys₄ tl₄ ⟨_, _, hR₄⟩
                      show Pls tl₄ (rowsPl S p0.1 (i + 1)) ys₄
                      rw [rowsPl_succ]; exact hR₄
                  · rintro C D₂ m ys₃ tl₃ h tk hR hoff F₁₅ N₁₅
                    refine post_none F₁₅ N₁₅ ?_
                    intro h₁₆ g₁₆ hnew
                    have F₁₆ := fr_grown F₁₄ g₁₆
                    have N₁₆ := news_join F₁₄ (news_grown N₁₄ g₁₆) hnew
                    have hdis : ∀ p ∈ (D₂, lst ys₃) :: tl₃, Off L p.1 ∧ @Ne Nat p.1 Z ∧ @Ne Nat p.1 D := fun p hp =>
                      ⟨⟨ne_of_get (hnew p hp).2 (N₁₄.get (.tail _ (.tail _ (.tail _ (.tail _ (.head _)))))), ne_of_get (hnew p hp).2 (N₁₄.get (.tail _ (.tail _ (.tail _ (.head _))))), ne_of_get (hnew p hp).2 (N₁₄.get (.tail _ (.tail _ (.head _)))), ne_of_get (hnew p hp).2 (N₁₄.get (.tail _ (.head _))), ne_of_get (hnew p hp).2 (N₁₄.get (.head _))⟩,
                        ne_of_get (hnew p hp).2 (N₁₄.get (.tail _ (.tail _ (.tail _ (.tail _ (.tail _ (.head _))))))), ne_of_get (hnew p hp).2 (N₁₄.get (.tail _ (.tail _ (.tail _ (.tail _ (.tail _ (.tail _ (.head _)))))))) ⟩
                    have hpost : ∀ p ∈ tl₂ ++ (D₂, lst ys₃) :: tl₃, Off L p.1 ∧ @Ne Nat p.1 Z ∧ @Ne Nat p.1 D := fun p hp => (List.mem_append.mp hp).elim (htl₂ p) (hdis p)
                    have hR₃ : Pls tl₃ (rowsPl S p0.1 (S.length - (p0.1 + 1))) ys₃ := hR
                    have hl2 := hR₂.length
                    have hl3 := hR₃.length
                    have hl4 := rowsPl_length hbS p0.1 (S.length - (p0.1 + 1))
                    rw [List.length_map, List.length_range] at hl2
                    obtain ⟨hDo1, hDo2, hDo3, hDo4, hDo5⟩ := id hDo
                    (try clear F₁₅); (try clear N₁₅); (try clear F₁₄); (try clear N₁₄); (try clear hnew); (try clear g₁₆); (try clear hR); (try clear hdis); (try clear hoff); (try clear hr); (try clear X₁₄); (try clear T₁₄); (try clear hcZ); (try clear hlZ)
                    dsimp only
                    repeat' (first | ((fail_if_success (with_reducible show wpAny _ _ (compareOp _ (Value.ref _) (Value.ref _)) _ _ _)); (fail_if_success (with_reducible show wpAny _ _ (call (Value.ref _) _) _ _ _)); (fail_if_success (with_reducible show wpAny _ _ (binaryOp Operator.Add (Value.ref _) (Value.ref _)) _ _ _)); (fail_if_success (with_reducible show wpAny _ _ (inplaceOp Operator.Add (Value.ref _) (Value.ref _)) _ _ _)); (fail_if_success (with_reducible show wpAny _ _ (subscriptTail _ _ _ _) _ _ _)); (fail_if_success (with_reducible show wpAny _ _ (call (Value.builtin "len") _) _ _ _)); walk1; (try dsimp only)) | fail "x")
                    refine iadd_K (D := D) (b := D₂) (its := ys₂.toArray) (n := ys₂.length) (its2 := ys₃.toArray) (n2 := ys₃.length) (pre := [(L + 1 + 1 + 1 + 1 + 1, o1n), (L + 1 + 1 + 1 + 1, o2), (L + 1 + 1 + 1, o3), (L + 1 + 1, o4), (L + 1, o5), (Z, PySem.W.listOf zs.toArray 0)]) (post := tl₂ ++ (D₂, lst ys₃) :: tl₃) F₁₆ N₁₆ (List.mem_append_right _ (.tail _ (List.mem_append_right _ (.head _)))) (fun p hp => ?_) (fun p hp => (hpost p hp).2.2) (by simp only [List.size_toArray]; omega) ?_
                    · simp only [List.mem_cons, List.not_mem_nil, or_false] at hp
                      rcases hp with rfl | rfl | rfl | rfl | rfl | rfl
                      · exact Ne.symm hDo5
                      · exact Ne.symm hDo4
                      · exact Ne.symm hDo3
                      · exact Ne.symm hDo2
                      · exact Ne.symm hDo1
                      · exact Ne.symm hDZ
                    intro h₁₇ c₂ F₁₇ N₁₇
                    (try clear F₁₆); (try clear N₁₆)
                    simp only [List.cons_append, List.nil_append] at N₁₇
                    generalize htl₄ : tl₂ ++ (D₂, lst ys₃) :: tl₃ = tl₄ at *
                    try dsimp only
                    repeat' (first | ((fail_if_success (with_reducible show wpAny _ _ (compareOp _ (Value.ref _) (Value.ref _)) _ _ _)); (fail_if_success (with_reducible show wpAny _ _ (call (Value.ref _) _) _ _ _)); (fail_if_success (with_reducible show wpAny _ _ (binaryOp Operator.Add (Value.ref _) (Value.ref _)) _ _ _)); (fail_if_success (with_reducible show wpAny _ _ (inplaceOp Operator.Add (Value.ref _) (Value.ref _)) _ _ _)); (fail_if_success (with_reducible show wpAny _ _ (subscriptTail _ _ _ _) _ _ _)); (fail_if_success (with_reducible show wpAny _ _ (call (Value.builtin "len") _) _ _ _)); walk1; (try dsimp only)) | fail "x")
                    rename Fr _ _ _ _ => F₁₈
                    refine len_list (hlb.at fun o e => F₁₈.keep _ o e) (by rw [hul]; omega) ?_
                    rw [hul]
                    try dsimp only
                    repeat' (first | ((fail_if_success (with_reducible show wpAny _ _ (call (Value.builtin "list.append") _) _ _ _)); (fail_if_success (with_reducible show wpAny _ _ (compareOp _ (Value.ref _) (Value.ref _)) _ _ _)); (fail_if_success (with_reducible show wpAny _ _ (call (Value.ref _) _) _ _ _)); (fail_if_success (with_reducible show wpAny _ _ (binaryOp Operator.Add (Value.ref _) (Value.ref _)) _ _ _)); (fail_if_success (with_reducible show wpAny _ _ (inplaceOp Operator.Add (Value.ref _) (Value.ref _)) _ _ _)); (fail_if_success (with_reducible show wpAny _ _ (subscriptTail _ _ _ _) _ _ _)); (fail_if_success (with_reducible show wpAny _ _ (call (Value.builtin "len") _) _ _ _)); walk1; (try dsimp only)) | fail "x")
                    rename Fr _ _ _ _ => F₁₉
                    rename News _ _ _ _ => N₁₉
                    rename_i T₂ _ hlT
                    obtain ⟨hT5, hT4, hT3, hT2, hT1, hTZ, hTD, hTt⟩ := hlT
                    (try clear F₁₈); (try clear F₁₇); (try clear N₁₇)
                    obtain ⟨tB, htB⟩ : ∃ tB : Nat, tB = tk + 1 + 1 := ⟨_, rfl⟩
                    obtain ⟨tA, htA⟩ : ∃ tA : Nat, tA = tk + 1 := ⟨_, rfl⟩
                    rw [← htB, ← htA] at N₁₉
                    have hrest : ∀ p ∈ (T₂, plo (S.length, 0) tA tB) :: (L + 1 + 1 + 1 + 1 + 1, o1n) :: (L + 1 + 1 + 1 + 1, o2) :: (L + 1 + 1 + 1, o3) :: (L + 1 + 1, o4) :: (L + 1, o5) :: (Z, PySem.W.listOf zs.toArray 0) :: tl₄, p.1 ≠ D := by
                      intro p hp
                      simp only [List.mem_cons] at hp
                      rcases hp with rfl | rfl | rfl | rfl | rfl | rfl | rfl | hp
                      · exact Nat.ne_of_gt hTD
                      · exact Ne.symm hDo5
                      · exact Ne.symm hDo4
                      · exact Ne.symm hDo3
                      · exact Ne.symm hDo2
                      · exact Ne.symm hDo1
                      · exact Ne.symm hDZ
                      · exact (hpost p hp).2.2
                    have N₂₀ : News s.heap L _ ((D, PySem.W.listOf (ys₂.toArray ++ ys₃.toArray) c₂) :: (T₂, plo (S.length, 0) tA tB) :: (L + 1 + 1 + 1 + 1 + 1, o1n) :: (L + 1 + 1 + 1 + 1, o2) :: (L + 1 + 1 + 1, o3) :: (L + 1 + 1, o4) :: (L + 1, o5) :: (Z, PySem.W.listOf zs.toArray 0) :: tl₄) := news_sub N₁₉ (fun p hp => by
                      simp only [List.mem_cons] at hp ⊢
                      rcases hp with h | h | h | h | h | h | h | h | h <;> simp [h])
                    refine append_K F₁₉ N₂₀ (Upd.head hrest) ?_ (by simp only [Array.size_append, List.size_toArray, sizeLine_eq]; omega)
                    intro h₂₁ F₂₁ N₂₁
                    (try clear F₁₉); (try clear N₁₉); (try clear N₂₀)
                    rw [show (ys₂.toArray ++ ys₃.toArray).push (Value.ref T₂) = (ys₂ ++ ys₃ ++ [Value.ref T₂]).toArray by simp] at N₂₁
                    try dsimp only
                    repeat' (first | ((fail_if_success (with_reducible show wpAny _ _ (compareOp _ (Value.ref _) (Value.ref _)) _ _ _)); (fail_if_success (with_reducible show wpAny _ _ (call (Value.ref _) _) _ _ _)); (fail_if_success (with_reducible show wpAny _ _ (binaryOp Operator.Add (Value.ref _) (Value.ref _)) _ _ _)); (fail_if_success (with_reducible show wpAny _ _ (inplaceOp Operator.Add (Value.ref _) (Value.ref _)) _ _ _)); (fail_if_success (with_reducible show wpAny _ _ (subscriptTail _ _ _ _) _ _ _)); (fail_if_success (with_reducible show wpAny _ _ (call (Value.builtin "len") _) _ _ _)); walk1; (try dsimp only)) | fail "x")
                    have hg : gapOf S qs = gapPl S p0 := by rw [hqe]; rfl
                    have hv0 : Valid S p0 := hval' p0 (by rw [hqe]; exact .head _)
                    rw [hg]
                    refine ⟨rfl, _, _, _, D, c₂ + 1, ys₂ ++ ys₃ ++ [.ref T₂], (T₂, plo (S.length, 0) tA tB) :: tl₄, o1n, o2, o3, o4, o5, _, _, _, _, rfl, pick3 (x1 := Str.ofString "k") (x2 := Str.ofString "places") (x3 := Str.ofString "wanted") F₂₁ rfl rfl rfl, news_sub N₂₁ (fun p hp => ?_), d1, d2, d3, d4, d5, hDo, hDZ, fun p hp => ?_, ?_, fun q hq => ((gapPl_mem hv0).mp hq).1, ?_⟩
                    · simp only [List.mem_cons] at hp ⊢
                      rcases hp with h | h | h | h | h | h | h | h | h <;> simp [h]
                    · rcases List.mem_cons.mp hp with rfl | hp
                      · exact ⟨⟨Nat.ne_of_gt hT1, Nat.ne_of_gt hT2, Nat.ne_of_gt hT3, Nat.ne_of_gt hT4, Nat.ne_of_gt hT5⟩, Nat.ne_of_gt hTZ, Nat.ne_of_gt hTD⟩
                      · exact hpost p hp
                    · rw [gapPl_rows]
                      have h2 : Pls tl₄ ((List.range p0.2).map fun j => ((p0.1, p0.2 - j) : Pl)) ys₂ := hR₂.sub fun p hp => by rw [← htl₄]; exact List.mem_append_left _ hp
                      have h3 : Pls tl₄ (rowsPl S p0.1 (S.length - (p0.1 + 1))) ys₃ := hR₃.sub fun p hp => by rw [← htl₄]; exact List.mem_append_right _ (.tail _ hp)
                      exact Pls.app (.cons (.head _) .nil) ((Pls.app h3 h2).sub fun p hp => .tail _ hp)
                    · rw [gapPl_rows, List.length_append, List.length_append, List.length_map, List.length_range, List.length_singleton]; omega
              · rename ¬ _ ≠ 0 => hne0
                have hqe : qs = [] := List.eq_nil_of_length_eq_zero (by omega)
                rw [hqe] at hps ⊢
                exact ⟨rfl, _, _, _, P, c, ys, tl, o1, o2, o3, o4, o5, _, _, _, _, rfl, pick3 (x1 := Str.ofString "k") (x2 := Str.ofString "places") (x3 := Str.ofString "wanted") F₆ rfl rfl rfl, N₆, d1, d2, d3, d4, d5, hP, hPZ, htl, hps, (fun p hp => nomatch hp), Nat.zero_le _⟩
            · clear d1 d2 d3 d4 d5 hP hPZ htl hps F₅ N₅
              rintro _ _ ⟨rfl, h₆, tk₆, tkk, P, c, ys, tl, o1, o2, o3, o4, o5, v1, v2, v4, u, rfl, F₆, N₆, d1, d2, d3, d4, d5, hP, hPZ, htl, hps, hval'', hlen''⟩
              dsimp only
              repeat' (first | ((fail_if_success (with_reducible show wpAny _ _ (compareOp _ (Value.ref _) (Value.ref _)) _ _ _)); (fail_if_success (with_reducible show wpAny _ _ (call (Value.ref _) _) _ _ _)); (fail_if_success (with_reducible show wpAny _ _ (binaryOp Operator.Add (Value.ref _) (Value.ref _)) _ _ _)); (fail_if_success (with_reducible show wpAny _ _ (inplaceOp Operator.Add (Value.ref _) (Value.ref _)) _ _ _)); (fail_if_success (with_reducible show wpAny _ _ (subscriptTail _ _ _ _) _ _ _)); (fail_if_success (with_reducible show wpAny _ _ (call (Value.builtin "len") _) _ _ _)); walk1; (try dsimp only)) | fail "x")
              rename Fr _ _ _ _ => F₇
              rename News _ _ _ _ => N₇
              have hgo' : reachGo S (W.drop (k + 3)) (gapOf S qs) = reached W S := by
                rw [← hgo, hdrop, reachGo, if_pos hgap, List.drop_drop, hqs]
              refine ⟨W.length - (k + 3), by omega, _, _, k + 3, _, P, c, ys, tl, gapOf S qs, o1, o2, o3, o4, o5, _, _, _, _, rfl, pick3 (x1 := Str.ofString "k") (x2 := Str.ofString "places") (x3 := Str.ofString "wanted") F₇ rfl rfl rfl, N₇, d1, d2, d3, d4, d5, hP, hPZ, htl, hps, hval'', hlen'', by omega, hgo', rfl⟩
        · intro h₄ tk₄ F₄ N₄ hgap
          clear F₃ N₃
          have X₄ := X.keeps F₄.keep
          have T₄ := T.keeps F₄.keep
          repeat' (first | ((fail_if_success (with_reducible show wpAny _ _ (exec (Stmt.Assign _ (PySem.Expr.ListComp _ _ _ _) _) _) _ _ _)); (fail_if_success (with_reducible show wpAny _ _ (compareOp _ (Value.ref _) (Value.ref _)) _ _ _)); (fail_if_success (with_reducible show wpAny _ _ (call (Value.ref _) _) _ _ _)); (fail_if_success (with_reducible show wpAny _ _ (binaryOp Operator.Add (Value.ref _) (Value.ref _)) _ _ _)); (fail_if_success (with_reducible show wpAny _ _ (inplaceOp Operator.Add (Value.ref _) (Value.ref _)) _ _ _)); (fail_if_success (with_reducible show wpAny _ _ (subscriptTail _ _ _ _) _ _ _)); (fail_if_success (with_reducible show wpAny _ _ (call (Value.builtin "len") _) _ _ _)); walk1; (try dsimp only)) | fail "x")
          refine' comp_assign (cl := [(Str.ofString "sizes", L + 1 + 1 + 1), (Str.ofString "size", L + 1 + 1 + 1 + 1), (Str.ofString "seen", L + 1), (Str.ofString "number", L + 1 + 1)]) ?q1 ?q2 ?q3 ?q4 ?q5 ?_
          case q1 => rfl
          case q2 => rfl
          case q3 => rfl
          case q4 => decide
          case q5 => intro _; rfl
          repeat' (first | ((fail_if_success (with_reducible show wpAny _ _ (compareOp _ (Value.ref _) (Value.ref _)) _ _ _)); (fail_if_success (with_reducible show wpAny _ _ (call (Value.ref _) _) _ _ _)); (fail_if_success (with_reducible show wpAny _ _ (binaryOp Operator.Add (Value.ref _) (Value.ref _)) _ _ _)); (fail_if_success (with_reducible show wpAny _ _ (inplaceOp Operator.Add (Value.ref _) (Value.ref _)) _ _ _)); (fail_if_success (with_reducible show wpAny _ _ (subscriptTail _ _ _ _) _ _ _)); (fail_if_success (with_reducible show wpAny _ _ (call (Value.builtin "len") _) _ _ _)); walk1; (try dsimp only)) | fail "x")
          have hc1 : h₄.IsCell (L + 1 + 1 + 1) (some (.ref Z)) := ⟨_, N₄.get (.tail _ (.tail _ (.head _))), d3⟩
          have hc2 : h₄.IsCell (L + 1 + 1 + 1 + 1) (some (.int (sz n : Int) t₃)) := ⟨_, N₄.get (.tail _ (.head _)), d2⟩
          have hc3 : h₄.IsCell (L + 1) (some (.ref b)) := ⟨_, N₄.get (.tail _ (.tail _ (.tail _ (.tail _ (.head _))))), d5⟩
          have hc4 : h₄.IsCell (L + 1 + 1) (some (.int (n : Int) t₂)) := ⟨_, N₄.get (.tail _ (.tail _ (.tail _ (.head _)))), d4⟩
          have hlP : h₄.IsList P ys.toArray := ⟨_, N₄.get (.tail _ (.tail _ (.tail _ (.tail _ (.tail _ (.tail _ (.head _))))))), rfl, _, rfl⟩
          have hlZ : h₄.IsList Z zs.toArray := ⟨_, N₄.get (.tail _ (.tail _ (.tail _ (.tail _ (.tail _ (.head _)))))), rfl, _, rfl⟩
          have hlb₄ : h₄.IsList b us.toArray := hlb.at fun o e => F₄.keep _ o e
          have htup : ∀ {q : Pl} {t u : Tok} {x : Addr}, (x, plo q t u) ∈ tl → IsTup h₄ x #[.int (q.1 : Int) t, .int (q.2 : Int) u] := fun hm => ⟨_, N₄.get (.tail _ (.tail _ (.tail _ (.tail _ (.tail _ (.tail _ (.tail _ hm))))))), rfl, _, rfl⟩
          refine comp_list (vs := ys) hh hlP ?_ rfl (PlR S n ps) .nil ?_ ?_ ?_
          · decide
          · intro i ys' tl' hR
            have h1 := hR.length
            have h2 : (plainIn S n (ps.take i)).length ≤ (ps.take i).length := by unfold plainIn; rw [List.length_map]; exact List.length_filter_le _ _
            rw [List.length_take] at h2
            rw [sizeLine_eq]; omega
          · rintro C I D i v ys' tl' m h tk oI hC hv hR hoff F₅ N₅
            obtain ⟨q, tq, uq, x, rfl, hq, hm⟩ := hps.at hv
            have hx := htup hm
            have hvq := hval q (List.mem_of_getElem? hq)
            refine unpackN_ F₅ N₅ (F₅.tup hx) hh rfl rfl ?_
            intro h₆ F₆ N₆
            clear F₅ N₅
            repeat' (first | ((fail_if_success (with_reducible show wpAny _ _ (compareOp _ (Value.ref _) (Value.ref _)) _ _ _)); (fail_if_success (with_reducible show wpAny _ _ (call (Value.ref _) _) _ _ _)); (fail_if_success (with_reducible show wpAny _ _ (binaryOp Operator.Add (Value.ref _) (Value.ref _)) _ _ _)); (fail_if_success (with_reducible show wpAny _ _ (inplaceOp Operator.Add (Value.ref _) (Value.ref _)) _ _ _)); (fail_if_success (with_reducible show wpAny _ _ (subscriptTail _ _ _ _) _ _ _)); (fail_if_success (with_reducible show wpAny _ _ (call (Value.builtin "len") _) _ _ _)); walk1; (try dsimp only)) | fail "x")
            refine tests_one ?_
            have ht1 : ps.take (i + 1) = ps.take i ++ [q] := take_snoc hq
            repeat' (first | ((fail_if_success (with_reducible show wpAny _ _ (compareOp _ (Value.ref _) (Value.ref _)) _ _ _)); (fail_if_success (with_reducible show wpAny _ _ (call (Value.ref _) _) _ _ _)); (fail_if_success (with_reducible show wpAny _ _ (binaryOp Operator.Add (Value.ref _) (Value.ref _)) _ _ _)); (fail_if_success (with_reducible show wpAny _ _ (inplaceOp Operator.Add (Value.ref _) (Value.ref _)) _ _ _)); (fail_if_success (with_reducible show wpAny _ _ (subscriptTail _ _ _ _) _ _ _)); (fail_if_success (with_reducible show wpAny _ _ (call (Value.builtin "len") _) _ _ _)); walk1; (try dsimp only)) | fail "x")
            · rename Fr _ _ _ _ => F₇
              rename News _ _ _ _ => N₇
              rename (q.snd : Int) = _ => hqs
              have hq1 : q.1 < S.length := by
                rcases hvq with ⟨h1, _⟩ | ⟨_, h2⟩
                · exact h1
                · omega
              have hSq : S[q.1]? = some (S.getD q.1 0) := by simp [hq1]
              refine item_at (hlb₄.at fun o e => F₇.keep _ o e) hib hSq (by omega) ?_
              intro t₈
              repeat' (first | ((fail_if_success (with_reducible show wpAny _ _ (compareOp _ (Value.ref _) (Value.ref _)) _ _ _)); (fail_if_success (with_reducible show wpAny _ _ (call (Value.ref _) _) _ _ _)); (fail_if_success (with_reducible show wpAny _ _ (binaryOp Operator.Add (Value.ref _) (Value.ref _)) _ _ _)); (fail_if_success (with_reducible show wpAny _ _ (inplaceOp Operator.Add (Value.ref _) (Value.ref _)) _ _ _)); (fail_if_success (with_reducible show wpAny _ _ (subscriptTail _ _ _ _) _ _ _)); (fail_if_success (with_reducible show wpAny _ _ (call (Value.builtin "len") _) _ _ _)); walk1; (try dsimp only)) | fail "x")
              · rename ((_ : Nat) : Int) = (n : Int) => hqn
                have hkp : keepPlain S n q = true := by simp only [keepPlain, Bool.and_eq_true, decide_eq_true_eq]; omega
                refine tested_true ?_
                repeat' (first | ((fail_if_success (with_reducible show wpAny _ _ (compareOp _ (Value.ref _) (Value.ref _)) _ _ _)); (fail_if_success (with_reducible show wpAny _ _ (call (Value.ref _) _) _ _ _)); (fail_if_success (with_reducible show wpAny _ _ (binaryOp Operator.Add (Value.ref _) (Value.ref _)) _ _ _)); (fail_if_success (with_reducible show wpAny _ _ (inplaceOp Operator.Add (Value.ref _) (Value.ref _)) _ _ _)); (fail_if_success (with_reducible show wpAny _ _ (subscriptTail _ _ _ _) _ _ _)); (fail_if_success (with_reducible show wpAny _ _ (call (Value.builtin "len") _) _ _ _)); walk1; (try dsimp only)) | fail "x")
                refine item_atz (k := q.1 + 1) (by omega) (hlZ.at fun o e => F₇.keep _ o e) hz' (sizes_at S hq1) (by omega) ?_
                intro t₉
                repeat' (first | ((fail_if_success (with_reducible show wpAny _ _ (compareOp _ (Value.ref _) (Value.ref _)) _ _ _)); (fail_if_success (with_reducible show wpAny _ _ (call (Value.ref _) _) _ _ _)); (fail_if_success (with_reducible show wpAny _ _ (binaryOp Operator.Add (Value.ref _) (Value.ref _)) _ _ _)); (fail_if_success (with_reducible show wpAny _ _ (inplaceOp Operator.Add (Value.ref _) (Value.ref _)) _ _ _)); (fail_if_success (with_reducible show wpAny _ _ (subscriptTail _ _ _ _) _ _ _)); (fail_if_success (with_reducible show wpAny _ _ (call (Value.builtin "len") _) _ _ _)); walk1; (try dsimp only)) | fail "x")
                rename Fr _ _ _ _ => F₈
                rename News _ _ _ _ => N₈
                rename_i T' _ hlT
                obtain ⟨hlI, hlD, hlt⟩ := hlT
                refine elt_tuple (q.1 + 1, szAt S (q.1 + 1)) F₈ N₈ hlI hlD hoff hR ?_
                intro tl₂ h₂'
                show Pls _ (plainIn S n (ps.take (i + 1))) _
                rw [ht1, plainIn_snoc, if_pos hkp]; exact h₂'
              · rename ((_ : Nat) : Int) ≠ (n : Int) => hqn
                have hkp : ¬ keepPlain S n q = true := by simp only [keepPlain, Bool.and_eq_true, decide_eq_true_eq]; omega
                refine tested_false ⟨_, _, _, tl', rfl, F₇, N₇, hoff, ?_⟩
                show Pls tl' (plainIn S n (ps.take (i + 1))) ys'
                rw [ht1, plainIn_snoc, if_neg hkp, List.append_nil]; exact hR
            · rename Fr _ _ _ _ => F₇
              rename News _ _ _ _ => N₇
              rename (q.snd : Int) ≠ _ => hqs
              have hkp : ¬ keepPlain S n q = true := by simp only [keepPlain, Bool.and_eq_true, decide_eq_true_eq]; omega
              refine tested_false ⟨_, _, _, tl', rfl, F₇, N₇, hoff, ?_⟩
              show Pls tl' (plainIn S n (ps.take (i + 1))) ys'
              rw [ht1, plainIn_snoc, if_neg hkp, List.append_nil]; exact hR
          · rintro C D m ys' tl' h tk hR hoff F₅ N₅
            refine post_assign F₅ N₅ F₄ N₄ rfl rfl ?_
            intro h₆ tk₆ F₆ N₆ hne
            have hR' : Pls tl' (plainIn S n ps) ys' := by
              have : PlR S n ps ys.length ys' tl' := hR
              unfold PlR at this
              rwa [hyl, List.take_length] at this
            clear F₅ N₅ F₄ N₄ hc1 hc2 hc3 hc4 hlP hlZ hlb₄ htup X₄ T₄ hR
            dsimp only at F₆ N₆ ⊢
            repeat' (first | ((fail_if_success (with_reducible show wpAny _ _ (compareOp _ (Value.ref _) (Value.ref _)) _ _ _)); (fail_if_success (with_reducible show wpAny _ _ (call (Value.ref _) _) _ _ _)); (fail_if_success (with_reducible show wpAny _ _ (binaryOp Operator.Add (Value.ref _) (Value.ref _)) _ _ _)); (fail_if_success (with_reducible show wpAny _ _ (inplaceOp Operator.Add (Value.ref _) (Value.ref _)) _ _ _)); (fail_if_success (with_reducible show wpAny _ _ (subscriptTail _ _ _ _) _ _ _)); (fail_if_success (with_reducible show wpAny _ _ (call (Value.builtin "len") _) _ _ _)); walk1; (try dsimp only)) | fail "x")
            rename Fr _ _ _ _ => F₇
            rename News _ _ _ _ => N₇
            have hne5 := fun p hp => hne p hp _ (.head _)
            have hne4 := fun p hp => hne p hp _ (.tail _ (.head _))
            have hne3 := fun p hp => hne p hp _ (.tail _ (.tail _ (.head _)))
            have hne2 := fun p hp => hne p hp _ (.tail _ (.tail _ (.tail _ (.head _))))
            have hne1 := fun p hp => hne p hp _ (.tail _ (.tail _ (.tail _ (.tail _ (.head _)))))
            have hne0 := fun p hp => hne p hp _ (.tail _ (.tail _ (.tail _ (.tail _ (.tail _ (.head _))))))
            have hgo' : reachGo S (W.drop (k + 1)) (plainIn S n ps) = reached W S := by
              rw [← hgo, hdrop, reachGo, if_neg hgap]
            have hlp : (plainIn S n ps).length ≤ ps.length := by unfold plainIn; rw [List.length_map]; exact List.length_filter_le _ _
            refine ⟨W.length - (k + 1), by omega, _, _, k + 1, _, D, ys'.length, ys', tl', plainIn S n ps, o1, o2, o3, o4, o5, _, _, _, _, rfl, pick3 (x1 := Str.ofString "k") (x2 := Str.ofString "places") (x3 := Str.ofString "wanted") F₇ rfl rfl rfl, news_sub N₇ (fun p hp => ?_), d1, d2, d3, d4, d5, ⟨hne1 _ (.head _), hne2 _ (.head _), hne3 _ (.head _), hne4 _ (.head _), hne5 _ (.head _)⟩, hne0 _ (.head _), fun p hp => ⟨⟨hne1 _ (.tail _ hp), hne2 _ (.tail _ hp), hne3 _ (.tail _ hp), hne4 _ (.tail _ hp), hne5 _ (.tail _ hp)⟩, hne0 _ (.tail _ hp), hoff p hp⟩, hR', plainIn_valid hval, by omega, by omega, hgo', rfl⟩
            simp only [List.mem_cons, List.mem_append] at hp ⊢
            rcases hp with h | h | h | h | h | h | h | h <;> simp [h]
      · have hps0 : ps = [] := List.eq_nil_of_length_eq_zero (by omega)
        subst hps0
        rw [reachGo_nil S _ _ (Nat.le_refl _)] at hgo
        refine hQ _ _ _ c ys tl F₁.keep (N₁.fresh (.tail _ (.tail _ (.tail _ (.tail _ (.tail _ (.tail _ (.head _)))))))) (N₁.get (.tail _ (.tail _ (.tail _ (.tail _ (.tail _ (.tail _ (.head _)))))))) (fun p hp => ?_) (hgo ▸ hps)
        have hm := List.Mem.tail (L + 1 + 1 + 1 + 1 + 1, o1) (.tail (L + 1 + 1 + 1 + 1, o2) (.tail (L + 1 + 1 + 1, o3) (.tail (L + 1 + 1, o4) (.tail (L + 1, o5) (.tail (Z, PySem.W.listOf zs.toArray 0) (.tail (P, PySem.W.listOf ys.toArray c) hp))))))
        exact ⟨N₁.get hm, N₁.fresh hm⟩
    · have hkW : k = W.length := by omega
      subst hkW
      rw [List.drop_length, reachGo] at hgo
      refine hQ _ _ _ c ys tl F.keep (N.fresh (.tail _ (.tail _ (.tail _ (.tail _ (.tail _ (.tail _ (.head _)))))))) (N.get (.tail _ (.tail _ (.tail _ (.tail _ (.tail _ (.tail _ (.head _)))))))) (fun p hp => ?_) (hgo ▸ hps)
      have hm := List.Mem.tail (L + 1 + 1 + 1 + 1 + 1, o1) (.tail (L + 1 + 1 + 1 + 1, o2) (.tail (L + 1 + 1 + 1, o3) (.tail (L + 1 + 1, o4) (.tail (L + 1, o5) (.tail (Z, PySem.W.listOf zs.toArray 0) (.tail (P, PySem.W.listOf ys.toArray c) hp))))))
      exact ⟨N.get hm, N.fresh hm⟩
  · rw [nats_length, List.length_map, sizeLine_eq]; simp; omega
end

end Mine
end

section
open PySem PySem.Builtin PySem.Builtin.Str PySem.W PyProof.Rows
set_option maxRecDepth 100000
namespace Mine
theorem fromIndex_nat (n a : Nat) : fromIndex n (a : Int) = a := by
  unfold fromIndex
  rw [if_neg (by omega)]; omega
theorem gives_find4 (x y : PySem.Str) (a b : Nat) (t u v v' : Tok) (hb : b ≤ x.length) :
    Gives («str.find» ⟨[.str x t, .str y u, .int (a : Int) v, .int (b : Int) v'], []⟩) (.int (match occurrences x y a b 1 with | k :: _ => (k : Int) | [] => -1)) := by
  show Gives (match occurrences x y (fromIndex x.length a) (min (fromIndex x.length b) x.length) 1 with | k :: _ => retInt k | [] => (do rule "str.find.not-found"; retInt (-1))) _
  rw [fromIndex_nat, fromIndex_nat, Nat.min_eq_left hb]
  cases occurrences x y a b 1 with
  | nil => exact .rule (.of_eq rfl)
  | cons k _ => exact .of_eq rfl
theorem args_find4 (a b c d : Value) : argsOk "str.find" ⟨[a, b, c, d], []⟩ := by unfold argsOk; kernel_rfl
section
variable {prog : Program} {w : World} {A : Around} {E Q : Value → Shared → Prop} {s : Shared}
theorem find4 {x y : PySem.Str} {a b : Nat} {t u v v' : Tok} (hb : b ≤ x.length) (hq : Q (.int (match findIn (cs x) (cs y) a b with | some i => (i : Int) | none => -1) s.toks) { s with toks := s.toks + 1 }) :
    wpAny (model prog w) A (call (.builtin "str.find") [.str x t, .str y u, .int (a : Int) v, .int (b : Int) v']) Q E s := by
  refine call_gives F.slot_str_find (typeIs_str _ _ _) F.entry_str_find (args_find4 _ _ _ _) (gives_find4 x y a b t u v v' hb) ?_
  rcases find_iff x y a b with ⟨h1, h2⟩ | ⟨i, r, h1, h2⟩
  · rw [h2] at hq; rw [h1]; exact hq
  · rw [h2] at hq; rw [h1]; exact hq
theorem item_last {value slice : PySem.Expr} {l : Addr} {vs : List Value} {x : Value} {c : Nat} {u : Tok} (hl : s.heap.get? l = some (W.listOf (vs ++ [x]).toArray c)) (hlen : vs.length ≤ 1000000) (h : Q x s)
    (hs : subscripted slice false (.ref l) (.int (-1) u) = operate [.ref l, .int (-1) u] (getItem (.ref l) (.int (-1) u)) := by with_unfolding_all rfl) :
    wpAny (model prog w) A (subscriptTail value slice (.ref l) (.int (-1) u)) Q E s := by
  have hL : s.heap.IsList l (vs ++ [x]).toArray := ⟨_, hl, rfl, _, rfl⟩
  have e : ((-1 : Int) + ((vs ++ [x]).toArray.size : Int)).toNat = vs.length := by simp; omega
  refine tail_any hL.typeIs PySem.slot_list_getitem.lookup (wpAny_getItem_list_neg hL (by decide) (by simp; omega) (by decide) ?_ h) hs
  rw [e]; simp
end
end Mine
end

section
open PySem PySem.W PyProof.Rows
set_option maxRecDepth 100000
namespace Mine
theorem pick4 {h₀ h : Heap} {L : Addr} {m : Str → Option Value} {x1 x2 x3 x4 : Str} {v1 v2 v3 v4 : Value} (F : Fr h₀ L h m) (h1 : m x1 = some v1) (h2 : m x2 = some v2) (h3 : m x3 = some v3) (h4 : m x4 = some v4) :
    Fr h₀ L h (fun y => if y = x1 then some v1 else if y = x2 then some v2 else if y = x3 then some v3 else if y = x4 then some v4 else m y) := by
  refine fr_eq F fun y => ?_
  by_cases a : y = x1
  · rw [if_pos a, a, h1]
  · rw [if_neg a]
    by_cases b : y = x2
    · rw [if_pos b, b, h2]
    · rw [if_neg b]
      by_cases c : y = x3
      · rw [if_pos c, c, h3]
      · rw [if_neg c]
        by_cases d : y = x4
        · rw [if_pos d, d, h4]
        · rw [if_neg d]
theorem seq_zero (n : Nat) : seqIndex? 0 (n + 1) = some 0 := by simp [seqIndex?]
theorem seq_last (n : Nat) : seqIndex? (-1) (n + 1) = some n := by
  have e : (-1 : Int) + ((n + 1 : Nat) : Int) = (n : Int) := by omega
  simp only [seqIndex?, show ((-1 : Int) < 0) = True from by simp, if_true, e]
  rw [if_pos (by simp; omega)]; simp
theorem pieces_len : ∀ (k : Nat) (p : List Nat), p.length ≤ k → (pieces p).length ≤ p.length + 1
  | _, [], _ => by rw [pieces_nil]; simp
  | 0, _ :: _, h => by simp at h
  | k + 1, c :: p, h => by
    simp only [List.length_cons] at h ⊢
    rcases gap_cases c p with ⟨q, rfl, rfl⟩ | hg
    · simp only [List.length_cons] at h ⊢
      have := pieces_len k q (by omega)
      rw [pieces_gap, List.length_cons]; omega
    · have := pieces_len k p (by omega)
      rw [pieces_plain hg]
      cases hq : pieces p with
      | nil => simp [consHead]
      | cons a b => rw [hq] at this; simp only [consHead, List.length_cons] at this ⊢; omega
theorem strs_unsnoc : ∀ {ms : List Str} {wl : Str} {vs : List Value}, StrsAre vs (ms ++ [wl]) → ∃ vms t, vs = vms ++ [.str wl t] ∧ StrsAre vms ms
  | [], _, _, .cons _ t .nil => ⟨[], t, rfl, .nil⟩
  | m :: ms, wl, _, .cons _ t r => by
    obtain ⟨vms, t', rfl, h⟩ := strs_unsnoc r
    exact ⟨_ :: vms, t', rfl, .cons _ _ h⟩
theorem getD_last (ms : List Str) (wl : Str) : (ms ++ [wl]).getD (-1 + (((ms ++ [wl]).length : Nat) : Int)).toNat Str.empty = wl := by
  have e : (-1 + (((ms ++ [wl]).length : Nat) : Int)).toNat = ms.length := by simp; omega
  rw [e]; simp
theorem strs_at : ∀ {vs : List Value} {xs : List Str}, StrsAre vs xs → ∀ (i : Nat) (v : Value), vs[i]? = some v → ∃ x t, v = .str x t ∧ xs[i]? = some x
  | _, _, .nil, i, v, h => by simp at h
  | _, _, .cons y t r, 0, v, h => by simp at h; exact ⟨y, t, h.symm, rfl⟩
  | _, _, .cons y t r, i + 1, v, h => by
    simp only [List.getElem?_cons_succ] at h ⊢
    exact strs_at r i v h
theorem erase_last : ∀ (l : List Value) (a : Value), (l ++ [a]).eraseIdx l.length = l
  | [], _ => rfl
  | x :: l, a => by
    show x :: (l ++ [a]).eraseIdx l.length = _
    rw [erase_last l a]
abbrev ellFr (y : Str) (u : Tok) (D : Addr) (a b : Nat) (ta tb : Tok) (m : Str → Option Value) : Str → Option Value := fun z =>
  if z = Str.ofString "got" then some (.str y u) else if z = Str.ofString "ws" then some (.ref D) else if z = Str.ofString "startpos" then some (.int (a : Int) ta) else if z = Str.ofString "endpos" then some (.int (b : Int) tb) else m z
noncomputable def EllJ (y : Str) (u : Tok) (D : Addr) (b : Nat) (tb : Tok) (vs : List Value) (c : Nat) (xs : List Str) (g : Bool) (i : Nat) (m : Str → Option Value) (nx : List (Addr × Obj)) : Prop :=
  ∃ a ta m', nx = [(D, W.listOf vs.toArray c)] ∧ g = gr (cs y) ((xs.drop i).map cs) a b ∧ a ≤ y.length ∧ m = ellFr y u D a b ta tb m'
noncomputable def EllMid (s : Shared) (y : Str) (u : Tok) (D : Addr) (V : Bool) (f : Flow) (s' : Shared) : Prop :=
  match f with
  | .next => ∃ h tk xs a vs c m ta tb, s' = { s with heap := h, toks := tk } ∧ Fr s.heap s.heap.objs.size h (ellFr y u D a y.length ta tb m) ∧ News s.heap s.heap.objs.size h [(D, W.listOf (List.toArray vs) c)] ∧ StrsAre vs xs ∧
      V = ellC (cs y) (xs.map cs) a ∧ xs ≠ [] ∧ a ≤ y.length ∧ (∀ z ∈ xs, z.length ≤ 100000) ∧ xs.length ≤ 200000
  | .ret v => v = .bool false ∧ V = false ∧ ∃ h tk, s' = { s with heap := h, toks := tk } ∧ Grown s.heap h
  | _ => False
noncomputable def EllMid2 (s : Shared) (y : Str) (u : Tok) (D : Addr) (V : Bool) (f : Flow) (s' : Shared) : Prop :=
  match f with
  | .next => ∃ h tk xs a b vs c m ta tb, s' = { s with heap := h, toks := tk } ∧ Fr s.heap s.heap.objs.size h (ellFr y u D a b ta tb m) ∧ News s.heap s.heap.objs.size h [(D, W.listOf (List.toArray vs) c)] ∧ StrsAre vs xs ∧
      V = (if b < a then false else gr (cs y) (xs.map cs) a b) ∧ a ≤ y.length ∧ b ≤ y.length ∧ (∀ z ∈ xs, z.length ≤ 100000) ∧ xs.length ≤ 200000
  | .ret v => v = .bool false ∧ V = false ∧ ∃ h tk, s' = { s with heap := h, toks := tk } ∧ Grown s.heap h
  | _ => False
set_option maxHeartbeats 4000000 in
theorem ell_call : ∀ {w : World} {A : Around} {s : Shared} {p : Program} {loose : List Str} {mean : ExcName → Option Value} {mg mb : Str → Option Value} {x y : Str} {t u : Tok} {Q E : Value → Shared → Prop},
    (hd.heap_39 w.params).In s.heap → Top p loose mean mg mb s.heap → A.depth < 880 → A.handled = none → x.length ≤ 100000 → y.length ≤ 100000 →
    (∀ h' tk b, Grown s.heap h' → (b = true ↔ run (cs x) (cs y) []) → Q (.bool b) { s with heap := h', toks := tk }) →
    wpAny (model PySem.Challenge.rw_pg0056_01.row.prog w) A (call (.ref 21) [.str x t, .str y u]) Q E s := by
  k_fill
  intro w A s p loose mean mg mb x y t u Q E X T hroom hh hx hy hQ
  obtain ⟨hdl, dp, fr, gd, un⟩ := A
  dsimp only at hh hroom
  subst hh
  refine' call_k0 (binds := [(Str.ofString "want", .str x t), (Str.ofString "got", .str y u)]) X T.nolimit ?ho ?hcd ?hr ?hb ?hl ?_ ?c1 ?c2 ?c3 ?c4
  case ho => k_is
  case hcd => k_is
  case hr => simp only [recursionLimit]; omega
  case hb => exact BindsTo.of_eq rfl
  case hl => exact locs rfl
  case c1 => rfl
  case c2 => rfl
  case c3 => rfl
  case c4 => decide
  intro h₁ F
  have N : News s.heap s.heap.objs.size h₁ [] := News.nil
  repeat' (first | (fail_if_success (with_reducible show wpAny _ _ (exec (Stmt.Assign [PySem.Expr.Name (Str.ofString "w") _] _ _) _) _ _ _)); walk1; (try dsimp only) | fail "x")
  · rename _ = true => hno
    have hno' : ¬ has3 (cs x) := fun h => by
      have := (has_iff x).mpr h
      rw [hno] at this; exact absurd this (by decide)
    refine hQ _ _ _ F.keep ?_
    rw [← ell_free hno', beq_iff_eq]
    constructor
    · rintro rfl; rfl
    · intro e
      obtain ⟨a⟩ := x
      obtain ⟨b⟩ := y
      exact congrArg Str.mk (Array.toList_inj.mp e)
  · rename_i hocc _ l _ _ hlook hstrs hlens hlist _ _ h2 tk₀ D' _ l1 _ _ h₅ F₅ N₅
    have hyes : has3 (cs x) := (has_iff x).mp (by rw [hocc]; rfl)
    have hsplit := split_pieces x hyes
    rw [← hlook] at hsplit
    have hV : ellB (cs y) (pieces (cs x)) = true ↔ run (cs x) (cs y) [] := ell_has hyes
    rw [← hsplit] at hV
    generalize hxs : l.map (·.1) = xs at *
    have hlen2 : 2 ≤ xs.length := by rw [← hxs, List.length_map]; omega
    have F₆ := pick4 (x1 := Str.ofString "got") (x2 := Str.ofString "ws") (x3 := Str.ofString "startpos") (x4 := Str.ofString "endpos") F₅ rfl rfl rfl rfl
    have N₆ := news_sub (news' := [(h₁.objs.size, W.listOf (strValues l).toArray 0)]) N₅ (fun p hp => by rw [List.mem_singleton.mp hp]; exact List.Mem.tail _ (List.Mem.head _))
    generalize h₁.objs.size = D at *
    generalize strValues l = vs at *
    clear F₅ N₅ hlist
    obtain ⟨w0, r, rfl⟩ : ∃ w0 r, xs = w0 :: r := by
      cases xs with
      | nil => simp at hlen2
      | cons w0 r => exact ⟨w0, r, rfl⟩
    obtain ⟨t0, vs, rfl, hr⟩ : ∃ t0 vs', vs = .str w0 t0 :: vs' ∧ StrsAre vs' r := by
      cases hstrs with
      | cons _ t0 hr => exact ⟨t0, _, rfl, hr⟩
    have hall : ∀ z ∈ w0 :: r, z.length ≤ 100000 := fun z hz => Nat.le_trans (hlens z hz) hx
    have hw0 : w0.length ≤ 100000 := hall _ (List.Mem.head _)
    have hxl : (w0 :: r).length ≤ 200000 := by
      have h1 := congrArg List.length hsplit
      rw [List.length_map] at h1
      have h2 := pieces_len _ (cs x) (Nat.le_refl _)
      rw [len_cs] at hx
      omega
    have hvl := strs_len hr
    clear hlook hlens hxs h2
    generalize hVV : ellB (cs y) ((w0 :: r).map cs) = V at *
    repeat' (first | (fail_if_success (with_reducible show wpAny _ _ (exec (Stmt.If _ _ _ _) _) _ _ _)); walk1; (try dsimp only) | fail "x")
    rename Fr _ _ _ _ => F₇
    rw [show (w0 :: r).getD (Int.toNat 0) Str.empty = w0 from rfl] at F₇
    refine wpAny_mono (Q := EllMid s y u D V) ?_ ?_ (fun _ _ x => x)
    · repeat' (walk1; (try dsimp only))
      · rename_i F₈ N₈
        rename (_ : Int) ≠ 0 => hne
        rename Txt.startswith _ _ = _ => hst
        refine delItem_head F₈ N₈ (fun _ hp => nomatch hp) (by decide +kernel) (k := 0) (by simpa using seq_zero vs.length) ?_ ?_
        · intro h₉ F₉ N₉
          dsimp only
          repeat' (walk1; (try dsimp only))
          have hst' := (starts_iff y w0).mp hst
          have hne' : cs w0 ≠ [] := by intro e; apply hne; rw [len_cs, e]; rfl
          refine ⟨_, _, r, w0.length, vs, _, _, _, _, rfl, pick4 (x1 := Str.ofString "got") (x2 := Str.ofString "ws") (x3 := Str.ofString "startpos") (x4 := Str.ofString "endpos") F₉ rfl rfl rfl rfl, N₉, hr, ?_, ?_, ?_, fun z hz => hall z (List.mem_cons_of_mem _ hz), ?_⟩
          · rw [← hVV, List.map_cons, ellB, if_pos hne', if_pos hst', ← len_cs]
          · intro e; rw [e] at hlen2; simp at hlen2
          · rw [len_cs, len_cs]; exact hst'.1
          · rw [List.length_cons] at hxl; omega
        · simp only [List.size_toArray, List.length_cons] at hxl ⊢
          rw [sizeLine_eq]; omega
      · rename (_ : Int) ≠ 0 => hne
        rename Txt.startswith _ _ = _ => hst
        refine ⟨rfl, ?_, _, _, rfl, F₇.keep⟩
        have hne' : cs w0 ≠ [] := by intro e; apply hne; rw [len_cs, e]; rfl
        have hst' : ¬ _ := fun q => by rw [(starts_iff y w0).mpr q] at hst; exact absurd hst (by decide)
        rw [← hVV, List.map_cons, ellB, if_pos hne', if_neg hst']
      · rename (_ : Int) = 0 => he
        have he' : cs w0 = [] := List.eq_nil_of_length_eq_zero (by rw [← len_cs]; omega)
        rename News _ _ _ _ => N₇
        refine ⟨_, _, w0 :: r, 0, .str w0 t0 :: vs, _, _, _, _, rfl, pick4 (x1 := Str.ofString "got") (x2 := Str.ofString "ws") (x3 := Str.ofString "startpos") (x4 := Str.ofString "endpos") F₇ rfl rfl rfl rfl, N₇, .cons _ _ hr, ?_, by simp, Nat.zero_le _, hall, hxl⟩
        rw [← hVV, List.map_cons, ellB, if_neg (by rw [he']; simp)]
    · intro f s' hm
      cases f with
      | brk => exact hm.elim
      | cont => exact hm.elim
      | ret v =>
        obtain ⟨rfl, e, h, tk, rfl, g⟩ := hm
        exact hQ _ _ _ g (by rw [← hV, e])
      | next =>
        obtain ⟨h, tk, xs, a, vs, c, m, ta, tb, rfl, F₁, N₁, hstr, hVe, hxne, hal, hall, hxl⟩ := hm
        clear F₇
        obtain ⟨ms, wl, rfl⟩ : ∃ ms wl, xs = ms ++ [wl] := ⟨xs.dropLast, xs.getLast hxne, (List.dropLast_concat_getLast hxne).symm⟩
        obtain ⟨vms, tl, rfl, hms⟩ := strs_unsnoc hstr
        have hvl := strs_len hms
        have hml : ms.length ≤ 200000 := by rw [List.length_append] at hxl; omega
        have hwl : wl.length ≤ 100000 := hall wl (by simp)
        dsimp only
        repeat' (first | (fail_if_success (with_reducible show wpAny _ _ (exec (Stmt.If _ _ _ _) _) _ _ _)); walk1; (try dsimp only) | fail "x")
        rename Fr _ _ _ _ => F₂
        rename News _ _ _ _ => N₂
        rw [getD_last] at F₂
        have hlastD : ((ms ++ [wl]).map cs).getLastD [] = cs wl := by simp
        have hdrop : ((ms ++ [wl]).map cs).dropLast = ms.map cs := by simp
        refine wpAny_mono (Q := EllMid2 s y u D V) ?_ ?_ (fun _ _ x => x)
        · repeat' (walk1; (try dsimp only))
          · rename_i F₈ N₈
            rename (_ : Int) ≠ 0 => hne
            rename Txt.endswith _ _ = _ => hst
            refine delItem_head F₈ N₈ (fun _ hp => nomatch hp) (by decide +kernel) (k := vms.length) (by simpa using seq_last vms.length) ?_ ?_
            · intro h₉ F₉ N₉
              dsimp only
              repeat' (walk1; (try dsimp only))
              have hst' := (ends_iff y wl).mp hst
              have hne' : cs wl ≠ [] := by intro e; apply hne; rw [len_cs, e]; rfl
              have hle : wl.length ≤ y.length := by rw [len_cs, len_cs]; exact hst'.1
              have esub : (y.length : Int) - (wl.length : Int) = ((y.length - wl.length : Nat) : Int) := by omega
              rw [esub] at F₉
              have ee := erase_last vms (.str wl tl)
              rw [show (vms ++ [Value.str wl tl]).toArray.toList = vms ++ [Value.str wl tl] from rfl, ee] at N₉
              refine ⟨_, _, ms, a, y.length - wl.length, vms, _, _, _, _, rfl, pick4 (x1 := Str.ofString "got") (x2 := Str.ofString "ws") (x3 := Str.ofString "startpos") (x4 := Str.ofString "endpos") F₉ rfl rfl rfl rfl, N₉, hms, ?_, hal, Nat.sub_le _ _, fun z hz => hall z (by simp [hz]), by omega⟩
              rw [hVe, ellC, hlastD, hdrop, if_pos hne', if_pos hst', len_cs, len_cs]
            · simp only [List.size_toArray, List.length_append, List.length_singleton] at hxl ⊢
              rw [sizeLine_eq]; omega
          · rename (_ : Int) ≠ 0 => hne
            rename Txt.endswith _ _ = _ => hst
            refine ⟨rfl, ?_, _, _, rfl, F₂.keep⟩
            have hne' : cs wl ≠ [] := by intro e; apply hne; rw [len_cs, e]; rfl
            have hst' : ¬ _ := fun q => by rw [(ends_iff y wl).mpr q] at hst; exact absurd hst (by decide)
            rw [hVe, ellC, hlastD, if_pos hne', if_neg hst']
          · rename (_ : Int) = 0 => he
            have he' : cs wl = [] := List.eq_nil_of_length_eq_zero (by rw [← len_cs]; omega)
            refine ⟨_, _, ms ++ [wl], a, y.length, vms ++ [.str wl tl], _, _, _, _, rfl, pick4 (x1 := Str.ofString "got") (x2 := Str.ofString "ws") (x3 := Str.ofString "startpos") (x4 := Str.ofString "endpos") F₂ rfl rfl rfl rfl, N₂, hstr, ?_, hal, Nat.le_refl _, hall, hxl⟩
            rw [hVe, ellC, hlastD, if_neg (by rw [he']; simp), len_cs]
        · intro f s' hm
          cases f with
          | brk => exact hm.elim
          | cont => exact hm.elim
          | ret v =>
            obtain ⟨rfl, e, h, tk, rfl, g⟩ := hm
            exact hQ _ _ _ g (by rw [← hV, e])
          | next =>
            obtain ⟨h, tk, xs, a, b, vs, c, m, ta, tb, rfl, F₁, N₁, hstr, hVe, hal, hbl, hall, hxl⟩ := hm
            clear F₂ N₂
            dsimp only
            repeat' (first | (fail_if_success (with_reducible show wpAny _ _ (exec (Stmt.For _ _ _ _ _) _) _ _ _)); walk1; (try dsimp only) | fail "x")
            · rename (_ : Int) < _ => hlt
              refine hQ _ _ _ F₁.keep ?_
              rw [← hV, hVe, if_pos (by omega)]
            · rename ¬ (_ : Int) < _ => hlt
              rw [if_neg (by omega)] at hVe
              refine for_k ?_
              repeat' (walk1; (try dsimp only))
              refine for_list (vs := vs) (EllJ y u D b tb vs c xs V) rfl F₁ N₁ ⟨a, ta, m, rfl, hVe, hal, rfl⟩ ?_ ?_ ?_
              · rintro i m' nx h' ⟨_, _, _, rfl, _⟩ F' N'
                exact ⟨_, N'.get (List.Mem.head _), rfl, _, rfl⟩
              · rintro i v m' nx h' tk' oI hv ⟨a', ta', m'', rfl, hg, ha', rfl⟩ hnI F' N'
                simp only [List.cons_append, List.nil_append] at N'
                clear F₁ N₁
                obtain ⟨wi, ti, rfl, hwi⟩ := strs_at hstr i v hv
                have hdr : xs.drop i = wi :: xs.drop (i + 1) := by
                  have := List.getElem?_eq_some_iff.mp hwi
                  obtain ⟨hlt', e⟩ := this
                  rw [List.drop_eq_getElem_cons hlt', e]
                rw [hdr, List.map_cons, gr] at hg
                have hwl : wi.length ≤ 100000 := hall wi (List.mem_of_getElem? hwi)
                repeat' (walk1; (try dsimp only))
                refine find4 hbl ?_
                dsimp only
                cases hf : findIn (cs y) (cs wi) a' b with
                | none =>
                  rw [hf] at hg
                  dsimp only at hg ⊢
                  repeat' (walk1; (try dsimp only))
                  · rename Fr _ _ _ _ => F₃
                    exact hQ _ _ _ F₃.keep (by rw [← hV, hg])
                | some j =>
                  rw [hf] at hg
                  have hj := (findIn_some.mp hf).1.2.1
                  rw [← len_cs] at hj hg
                  dsimp only at hg ⊢
                  repeat' (walk1; (try dsimp only))
                  rename Fr _ _ _ _ => F₃
                  rename News _ _ _ _ => N₃
                  refine ⟨_, _, _, [(D, W.listOf vs.toArray c)], rfl, pick4 (x1 := Str.ofString "got") (x2 := Str.ofString "ws") (x3 := Str.ofString "startpos") (x4 := Str.ofString "endpos") F₃ rfl rfl rfl rfl, N₃, hnI, j + wi.length, _, _, rfl, hg, by omega, rfl⟩
              · rintro m' nx h' tk' ⟨a', ta', m'', rfl, hg, ha', rfl⟩ F' N'
                clear F₁ N₁
                repeat' (walk1; (try dsimp only))
                refine hQ _ _ _ F'.keep ?_
                rw [← hV, hg, List.drop_eq_nil_of_le (by rw [strs_len hstr]; exact Nat.le_refl _)]
                rfl
  · rename_i hocc _ l _ _ hlook _ _ _ _ _ _ _ _ _ _
    have hyes : has3 (cs x) := (has_iff x).mp (by rw [hocc]; rfl)
    have hsplit := split_pieces x hyes
    have h1 := pieces_has hyes
    have h2 := congrArg List.length hlook
    rw [← hsplit, List.length_map] at h1
    rw [List.length_map] at h2
    rename ¬ (_ ≤ _) => hlt
    have h3 : (Txt.split x dots).length = (Txt.split x (Str.ofString "...")).length := rfl
    exact hlt (by omega)
end Mine
end

section
open PySem PySem.W PyProof.Rows
set_option maxRecDepth 100000
namespace Mine
noncomputable def deed (x : Nat) : List Nat × List Nat :=
  let low := x / 8 % 4096
  let high := x / 32768 % 4096
  if x % 8 = 0 then ([low % 64], [low % 64])
  else if x % 8 = 1 then ([64 * low + high % 64], [64 * low + high % 64])
  else if x % 8 = 2 then ([64 * low + 46, 46, 46], [4096 * low + high, high % 64])
  else if x % 8 = 3 then ([46, 46, 46, low], [(high + 1) * 64 ^ sz low + low])
  else if x % 8 = 4 then ([], [low])
  else if x % 8 = 5 then ([46], [])
  else if x % 8 = 6 then ([46], [46])
  else ([46, 46, 46], [])
theorem deed_0 {x : Nat} (h : x % 8 = 0) : deed x = ([(x / 8 % 4096) % 64], [(x / 8 % 4096) % 64]) := by simp [deed, h]
theorem deed_1 {x : Nat} (h : x % 8 = 1) : deed x = ([64 * (x / 8 % 4096) + (x / 32768 % 4096) % 64], [64 * (x / 8 % 4096) + (x / 32768 % 4096) % 64]) := by simp [deed, h]
theorem deed_2 {x : Nat} (h : x % 8 = 2) : deed x = ([64 * (x / 8 % 4096) + 46, 46, 46], [4096 * (x / 8 % 4096) + (x / 32768 % 4096), (x / 32768 % 4096) % 64]) := by simp [deed, h]
theorem deed_3 {x : Nat} (h : x % 8 = 3) : deed x = ([46, 46, 46, (x / 8 % 4096)], [((x / 32768 % 4096) + 1) * 64 ^ sz (x / 8 % 4096) + (x / 8 % 4096)]) := by simp [deed, h]
theorem deed_4 {x : Nat} (h : x % 8 = 4) : deed x = ([], [(x / 8 % 4096)]) := by simp [deed, h]
theorem deed_5 {x : Nat} (h : x % 8 = 5) : deed x = ([46], []) := by simp [deed, h]
theorem deed_6 {x : Nat} (h : x % 8 = 6) : deed x = ([46], [46]) := by simp [deed, h]
theorem deed_7 {x : Nat} (h : x % 8 = 7) : deed x = ([46, 46, 46], []) := by simp [deed, h]
theorem ints_cons {z : Int} {n : Nat} {t : Tok} {vs : List Value} {ns : List Nat} (e : z = (n : Int)) (r : IntsAre vs (nats ns)) : IntsAre (.int z t :: vs) (nats (n :: ns)) := by
  subst e; exact .cons _ _ r
set_option maxHeartbeats 4000000 in
theorem deed_call : ∀ {w : World} {A : Around} {s : Shared} {p : Program} {loose : List Str} {mean : ExcName → Option Value} {mg mb : Str → Option Value} {x : Nat} {t : Tok} {Q E : Value → Shared → Prop},
    (hd.heap_39 w.params).In s.heap → Top p loose mean mg mb s.heap → A.depth < 890 → A.handled = none → x < 2 ^ 64 →
    (∀ h' tk r a b ws vs c d, Grown s.heap h' → s.heap.get? a = none → s.heap.get? b = none → s.heap.get? r = none → h'.get? r = some { cls := Value.type "tuple", data := Data.seq #[Value.ref a, Value.ref b] } → h'.get? a = some (W.listOf ws c) → h'.get? b = some (W.listOf vs d) → IntsAre ws.toList (nats (deed x).1) → IntsAre vs.toList (nats (deed x).2) → Q (.ref r) { s with heap := h', toks := tk }) →
    wpAny (model PySem.Challenge.rw_pg0056_01.row.prog w) A (call (.ref 61) [.int x t]) Q E s := by
  k_fill
  intro w A s p loose mean mg mb x t Q E X T hroom hh hx hQ
  refine' call_k0 (binds := [(Str.ofString "x", .int x t)]) X T.nolimit ?ho ?hcd ?hr ?hb ?hl ?_ ?c1 ?c2 ?c3 ?c4
  case ho => k_is
  case hcd => k_is
  case hr => simp only [recursionLimit]; omega
  case hb => exact BindsTo.of_eq rfl
  case hl => exact locs rfl
  case c1 => rfl
  case c2 => rfl
  case c3 => rfl
  case c4 => decide
  intro h₁ F
  have N : News s.heap s.heap.objs.size h₁ [] := News.nil
  have e1 : (x : Int).fmod 8 = ((x % 8 : Nat) : Int) := fmod_nat x 8
  have e2 : ((x : Int).fdiv 8).fmod 4096 = ((x / 8 % 4096 : Nat) : Int) := by rw [show (x : Int).fdiv 8 = _ from fdiv_nat x 8]; exact fmod_nat _ 4096
  have e3 : ((x : Int).fdiv 32768).fmod 4096 = ((x / 32768 % 4096 : Nat) : Int) := by rw [show (x : Int).fdiv 32768 = _ from fdiv_nat x 32768]; exact fmod_nat _ 4096
  have e4 : ∀ n : Nat, (n : Int).fmod 64 = ((n % 64 : Nat) : Int) := fun n => fmod_nat n 64
  have hs2 : sz (x / 8 % 4096) ≤ 2 := sz_le_of_lt (by omega) (by omega)
  have hs1 := sz_pos (x / 8 % 4096)
  repeat' (walk1; (try dsimp only))
  all_goals (try simp only [e1, e2, e3, e4] at *)
  all_goals (rename Fr _ _ _ _ => F₁; rename News _ _ _ _ => N₁)
  · have hk : x % 8 = 0 := by omega
    refine hQ _ _ _ _ _ _ _ _ _ F₁.keep (N₁.fresh (.tail _ (.tail _ (.head _)))) (N₁.fresh (.tail _ (.head _))) (N₁.fresh (.head _)) (N₁.get (.head _)) (N₁.get (.tail _ (.tail _ (.head _)))) (N₁.get (.tail _ (.head _))) ?_ ?_
    all_goals rw [deed_0 hk]
    all_goals (repeat' (first | exact .nil | refine ints_cons ?_ ?_))
    all_goals (first | rfl | omega)
  · have hk : x % 8 = 1 := by omega
    refine hQ _ _ _ _ _ _ _ _ _ F₁.keep (N₁.fresh (.tail _ (.tail _ (.head _)))) (N₁.fresh (.tail _ (.head _))) (N₁.fresh (.head _)) (N₁.get (.head _)) (N₁.get (.tail _ (.tail _ (.head _)))) (N₁.get (.tail _ (.head _))) ?_ ?_
    all_goals rw [deed_1 hk]
    all_goals (repeat' (first | exact .nil | refine ints_cons ?_ ?_))
    all_goals (first | rfl | omega)
  · have hk : x % 8 = 2 := by omega
    refine hQ _ _ _ _ _ _ _ _ _ F₁.keep (N₁.fresh (.tail _ (.tail _ (.head _)))) (N₁.fresh (.tail _ (.head _))) (N₁.fresh (.head _)) (N₁.get (.head _)) (N₁.get (.tail _ (.tail _ (.head _)))) (N₁.get (.tail _ (.head _))) ?_ ?_
    all_goals rw [deed_2 hk]
    all_goals (repeat' (first | exact .nil | refine ints_cons ?_ ?_))
    all_goals (first | rfl | omega)
  · refine size_call (X.keeps F₁.keep) (T.keeps F₁.keep) (by show A.depth + 1 < 900; omega) (by omega) ?_
    intro h₃ tk₃ t₃ g₃
    replace F₁ := fr_grown F₁ g₃
    replace N₁ := news_grown N₁ g₃
    dsimp only
    repeat' (walk1; (try dsimp only))

    rename Fr _ _ _ _ => F₁
    rename News _ _ _ _ => N₁
    have hk : x % 8 = 3 := by omega
    refine hQ _ _ _ _ _ _ _ _ _ F₁.keep (N₁.fresh (.tail _ (.tail _ (.head _)))) (N₁.fresh (.tail _ (.head _))) (N₁.fresh (.head _)) (N₁.get (.head _)) (N₁.get (.tail _ (.tail _ (.head _)))) (N₁.get (.tail _ (.head _))) ?_ ?_
    all_goals rw [deed_3 hk]
    all_goals (repeat' (first | exact .nil | refine ints_cons ?_ ?_))
    all_goals (first | rfl | (rw [pow64]; simp))
  · have hk : x % 8 = 4 := by omega
    refine hQ _ _ _ _ _ _ _ _ _ F₁.keep (N₁.fresh (.tail _ (.tail _ (.head _)))) (N₁.fresh (.tail _ (.head _))) (N₁.fresh (.head _)) (N₁.get (.head _)) (N₁.get (.tail _ (.tail _ (.head _)))) (N₁.get (.tail _ (.head _))) ?_ ?_
    all_goals rw [deed_4 hk]
    all_goals (repeat' (first | exact .nil | refine ints_cons ?_ ?_))
    all_goals (first | rfl | omega)
  · have hk : x % 8 = 5 := by omega
    refine hQ _ _ _ _ _ _ _ _ _ F₁.keep (N₁.fresh (.tail _ (.tail _ (.head _)))) (N₁.fresh (.tail _ (.head _))) (N₁.fresh (.head _)) (N₁.get (.head _)) (N₁.get (.tail _ (.tail _ (.head _)))) (N₁.get (.tail _ (.head _))) ?_ ?_
    all_goals rw [deed_5 hk]
    all_goals (repeat' (first | exact .nil | refine ints_cons ?_ ?_))
    all_goals (first | rfl | omega)
  · have hk : x % 8 = 6 := by omega
    refine hQ _ _ _ _ _ _ _ _ _ F₁.keep (N₁.fresh (.tail _ (.tail _ (.head _)))) (N₁.fresh (.tail _ (.head _))) (N₁.fresh (.head _)) (N₁.get (.head _)) (N₁.get (.tail _ (.tail _ (.head _)))) (N₁.get (.tail _ (.head _))) ?_ ?_
    all_goals rw [deed_6 hk]
    all_goals (repeat' (first | exact .nil | refine ints_cons ?_ ?_))
    all_goals (first | rfl | omega)
  · have hk : x % 8 = 7 := by omega
    refine hQ _ _ _ _ _ _ _ _ _ F₁.keep (N₁.fresh (.tail _ (.tail _ (.head _)))) (N₁.fresh (.tail _ (.head _))) (N₁.fresh (.head _)) (N₁.get (.head _)) (N₁.get (.tail _ (.tail _ (.head _)))) (N₁.get (.tail _ (.head _))) ?_ ?_
    all_goals rw [deed_7 hk]
    all_goals (repeat' (first | exact .nil | refine ints_cons ?_ ?_))
    all_goals (first | rfl | omega)
end Mine
end

section
open PySem PySem.Calls PySem.W PyProof.Rows PySem.SeqAt
set_option maxRecDepth 100000
namespace Mine
noncomputable def wN (xs : List Nat) : List Nat := xs.flatMap fun x => (deed x).1
noncomputable def sN (xs : List Nat) : List Nat := xs.flatMap fun x => (deed x).2
noncomputable def frAt (xs : List Nat) (j : Nat) : Pl := ((wN (xs.take j)).length, (sN (xs.take j)).length)
noncomputable def frK (xs : List Nat) (i : Nat) : List Pl := (List.range (i + 1)).map (frAt xs)
theorem frK_succ (xs : List Nat) (i : Nat) : frK xs (i + 1) = frK xs i ++ [frAt xs (i + 1)] := by
  unfold frK
  rw [List.range_succ, List.map_append]; rfl
theorem wN_snoc (l : List Nat) (x : Nat) : wN (l ++ [x]) = wN l ++ (deed x).1 := by simp [wN]
theorem sN_snoc (l : List Nat) (x : Nat) : sN (l ++ [x]) = sN l ++ (deed x).2 := by simp [sN]
theorem deed_ok {x : Nat} : ((deed x).1.length ≤ 4 ∧ (deed x).2.length ≤ 2) ∧ (∀ n ∈ (deed x).1, n < 2 ^ 40) ∧ (∀ n ∈ (deed x).2, n < 2 ^ 40) := by
  have hs : sz (x / 8 % 4096) ≤ 2 := sz_le_of_lt (by omega) (by omega)
  have hp : 64 ^ sz (x / 8 % 4096) ≤ 64 ^ 2 := Nat.pow_le_pow_right (by omega) hs
  have hq : (x / 32768 % 4096 + 1) * 64 ^ sz (x / 8 % 4096) ≤ 4096 * 64 ^ 2 := Nat.mul_le_mul (by omega) hp
  have hlow : x / 8 % 4096 < 4096 := by omega
  have hhigh : x / 32768 % 4096 < 4096 := by omega
  generalize hA : (x / 32768 % 4096 + 1) * 64 ^ sz (x / 8 % 4096) = A at *
  have h8 : x % 8 = 0 ∨ x % 8 = 1 ∨ x % 8 = 2 ∨ x % 8 = 3 ∨ x % 8 = 4 ∨ x % 8 = 5 ∨ x % 8 = 6 ∨ x % 8 = 7 := by omega
  rcases h8 with h | h | h | h | h | h | h | h
  · rw [deed_0 h]; simp; omega
  · rw [deed_1 h]; simp; omega
  · rw [deed_2 h]; simp; omega
  · rw [deed_3 h, hA]; simp; omega
  · rw [deed_4 h]; simp; omega
  · rw [deed_5 h]; simp
  · rw [deed_6 h]; simp
  · rw [deed_7 h]; simp
theorem wN_len (xs : List Nat) : (wN xs).length ≤ 4 * xs.length := by
  induction xs with
  | nil => simp [wN]
  | cons x xs ih =>
    have h := (deed_ok (x := x)).1.1
    have e : wN (x :: xs) = (deed x).1 ++ wN xs := by simp [wN]
    rw [e, List.length_append, List.length_cons]; omega
theorem sN_len (xs : List Nat) : (sN xs).length ≤ 2 * xs.length := by
  induction xs with
  | nil => simp [sN]
  | cons x xs ih =>
    have h := (deed_ok (x := x)).1.2
    have e : sN (x :: xs) = (deed x).2 ++ sN xs := by simp [sN]
    rw [e, List.length_append, List.length_cons]; omega
theorem wN_lt (xs : List Nat) : ∀ n ∈ wN xs, n < 2 ^ 40 := by
  intro n h
  obtain ⟨x, _, h⟩ := List.mem_flatMap.mp h
  exact (deed_ok (x := x)).2.1 n h
theorem sN_lt (xs : List Nat) : ∀ n ∈ sN xs, n < 2 ^ 40 := by
  intro n h
  obtain ⟨x, _, h⟩ := List.mem_flatMap.mp h
  exact (deed_ok (x := x)).2.2 n h
theorem wN_take (xs : List Nat) (j : Nat) : (wN (xs.take j)).length ≤ (wN xs).length := by
  have e : wN xs = wN (xs.take j) ++ wN (xs.drop j) := by
    unfold wN
    rw [← List.flatMap_append, List.take_append_drop]
  rw [e, List.length_append]; omega
theorem sN_take (xs : List Nat) (j : Nat) : (sN (xs.take j)).length ≤ (sN xs).length := by
  have e : sN xs = sN (xs.take j) ++ sN (xs.drop j) := by
    unfold sN
    rw [← List.flatMap_append, List.take_append_drop]
  rw [e, List.length_append]; omega
theorem frK_mem {xs : List Nat} {i : Nat} {p : Pl} (h : p ∈ frK xs i) : p.1 ≤ (wN xs).length ∧ p.2 ≤ (sN xs).length := by
  obtain ⟨j, _, rfl⟩ := List.mem_map.mp h
  exact ⟨wN_take xs j, sN_take xs j⟩
noncomputable def xOf (z : Int) : Nat := (z.fmod (2 ^ 64)).toNat
theorem xOf_eq (z : Int) : z.fmod (2 ^ 64) = ((xOf z : Nat) : Int) := by
  unfold xOf
  rw [Int.fmod_eq_emod_of_nonneg _ (by decide)]
  have := Int.emod_nonneg z (show (2 ^ 64 : Int) ≠ 0 by decide)
  omega
theorem xOf_lt (z : Int) : xOf z < 2 ^ 64 := by
  have h := xOf_eq z
  rw [Int.fmod_eq_emod_of_nonneg _ (by decide)] at h
  have := Int.emod_lt_of_pos z (show (0 : Int) < 2 ^ 64 by decide)
  omega
noncomputable def LpJ (l : Addr) (us : List Value) (xs : List Nat) (i : Nat) (m : Str → Option Value) (nx : List (Addr × Obj)) : Prop :=
  ∃ (aw as af : Addr) (cw cs cf : Nat) (ws ss fs : List Value) (tl : List (Addr × Obj)) (u : Str → Option Value),
    nx = (aw, W.listOf ws.toArray cw) :: (as, W.listOf ss.toArray cs) :: (af, W.listOf fs.toArray cf) :: (l, W.listOf us.toArray 0) :: tl ∧
    IntsAre ws (nats (wN (xs.take i))) ∧ IntsAre ss (nats (sN (xs.take i))) ∧ Pls tl (frK xs i) fs ∧
    @Ne Nat af aw ∧ @Ne Nat af as ∧ @Ne Nat af l ∧ (∀ p ∈ tl, @Ne Nat p.1 af) ∧
    m = fun y => if y = Str.ofString "wanted" then some (.ref aw) else if y = Str.ofString "seen" then some (.ref as) else if y = Str.ofString "fronts" then some (.ref af) else u y
/-- an int is had, the frame and the ledger as they were -/
noncomputable def ValEnd (h₀ : Heap) (L : Addr) (m : Str → Option Value) (news : List (Addr × Obj)) (s : Shared) (z : Int) (v : Value) (s' : Shared) : Prop :=
  ∃ h tk t, s' = { s with heap := h, toks := tk } ∧ Fr h₀ L h m ∧ News h₀ L h news ∧ v = .int z t
theorem val_cut {prog : Program} {w : World} {A : Around} {E Q : Value → Shared → Prop} {s s₁ : Shared} {e : PySem.Expr} {env : Env} {h₀ : Heap} {L : Addr} {m : Str → Option Value} {news : List (Addr × Obj)} (z : Int) (F : Fr h₀ L s₁.heap m) (N : News h₀ L s₁.heap news)
    (h1 : wpAny (model prog w) A (eval e env) (ValEnd h₀ L m news s z) (fun _ _ => False) s₁) (h2 : ∀ h tk t, Fr h₀ L h m → News h₀ L h news → Q (.int z t) { s with heap := h, toks := tk }) : wpAny (model prog w) A (eval e env) Q E s₁ := by
  refine wpAny_mono h1 ?_ fun _ _ x => x.elim
  rintro _ _ ⟨h, tk, t, rfl, F', N', rfl⟩
  exact h2 h tk t F' N'
theorem nats_take (S : List Nat) (k : Nat) : (nats S).take k = nats (S.take k) := by simp [nats, List.map_take]
theorem ints_upto {vs : List Value} {S : List Nat} (h : IntsAre vs (nats S)) (k : Nat) : IntsAre (slicePick vs.toArray none (some (k : Int)) none).toList (nats (S.take k)) := by
  have := kmk_upto (y := (k : Int)) h (by omega)
  rw [Int.toNat_natCast, nats_take] at this
  exact this
/-- the ends of the seen: a text and a place each -/
inductive Eds (tl : List (Addr × Obj)) (S : List Nat) : List Nat → List Value → Prop
  | nil : Eds tl S [] []
  | cons {k : Nat} {t u v : Tok} {x : Str} {a b : Addr} {ks : List Nat} {ys : List Value} : (a, plo (k, szAt S k) t u) ∈ tl →
      (b, ({ cls := .type "tuple", data := .seq #[.str x v, .ref a] } : Obj)) ∈ tl → cs x = octs (S.take k) → k ≤ S.length → Eds tl S ks ys → Eds tl S (k :: ks) (.ref b :: ys)
theorem Eds.sub {tl tl' : List (Addr × Obj)} {S : List Nat} (h : ∀ p ∈ tl, p ∈ tl') : ∀ {ks : List Nat} {ys : List Value}, Eds tl S ks ys → Eds tl' S ks ys
  | _, _, .nil => .nil
  | _, _, .cons m n e l r => .cons (h _ m) (h _ n) e l (r.sub h)
theorem Eds.app {tl : List (Addr × Obj)} {S : List Nat} {qs : List Nat} {zs : List Value} (h : Eds tl S qs zs) : ∀ {ks : List Nat} {ys : List Value}, Eds tl S ks ys → Eds tl S (ks ++ qs) (ys ++ zs)
  | _, _, .nil => h
  | _, _, .cons m n e l r => .cons m n e l (h.app r)
theorem Eds.at {tl : List (Addr × Obj)} {S : List Nat} : ∀ {ks : List Nat} {ys : List Value} {i : Nat} {v : Value}, Eds tl S ks ys → ys[i]? = some v →
    ∃ (k : Nat) (t u w : Tok) (x : Str) (a b : Addr), v = .ref b ∧ (a, plo (k, szAt S k) t u) ∈ tl ∧ (b, ({ cls := .type "tuple", data := .seq #[.str x w, .ref a] } : Obj)) ∈ tl ∧ cs x = octs (S.take k) ∧ k ≤ S.length
  | _, _, 0, _, .cons m n e l _, h => ⟨_, _, _, _, _, _, _, (Option.some.inj h).symm, m, n, e, l⟩
  | _, _, i + 1, _, .cons _ _ _ _ r, h => r.at (i := i) h
theorem Eds.length {tl : List (Addr × Obj)} {S : List Nat} : ∀ {ks : List Nat} {ys : List Value}, Eds tl S ks ys → ys.length = ks.length
  | _, _, .nil => rfl
  | _, _, .cons _ _ _ _ r => congrArg (· + 1) r.length
noncomputable def LpE (aw as af ae : Addr) (cw cs cf : Nat) (ws ss fs : List Value) (tl : List (Addr × Obj)) (S : List Nat) (fr : List Pl) (i : Nat) (m : Str → Option Value) (nx : List (Addr × Obj)) : Prop :=
  ∃ (ce : Nat) (es : List Value) (tl2 : List (Addr × Obj)) (u : Str → Option Value),
    nx = (ae, W.listOf es.toArray ce) :: (aw, W.listOf ws.toArray cw) :: (as, W.listOf ss.toArray cs) :: (af, W.listOf fs.toArray cf) :: tl2 ∧
    (∀ p ∈ tl, p ∈ tl2) ∧ (∀ p ∈ tl2, @Ne Nat p.1 ae) ∧ Eds tl2 S ((fr.take i).map (·.2)) es ∧
    m = fun y => if y = Str.ofString "ends" then some (.ref ae) else if y = Str.ofString "wanted" then some (.ref aw) else if y = Str.ofString "seen" then some (.ref as) else if y = Str.ofString "fronts" then some (.ref af) else u y
theorem pick5 {h₀ h : Heap} {L : Addr} {m : Str → Option Value} {x1 x2 x3 x4 x5 : Str} {v1 v2 v3 v4 v5 : Value} (F : Fr h₀ L h m) (h1 : m x1 = some v1) (h2 : m x2 = some v2) (h3 : m x3 = some v3) (h4 : m x4 = some v4) (h5 : m x5 = some v5) :
    Fr h₀ L h (fun y => if y = x1 then some v1 else if y = x2 then some v2 else if y = x3 then some v3 else if y = x4 then some v4 else if y = x5 then some v5 else m y) := by
  refine fr_eq F fun y => ?_
  by_cases a : y = x1
  · rw [if_pos a, a, h1]
  · rw [if_neg a]
    by_cases b : y = x2
    · rw [if_pos b, b, h2]
    · rw [if_neg b]
      by_cases c : y = x3
      · rw [if_pos c, c, h3]
      · rw [if_neg c]
        by_cases d : y = x4
        · rw [if_pos d, d, h4]
        · rw [if_neg d]
          by_cases e : y = x5
          · rw [if_pos e, e, h5]
          · rw [if_neg e]
noncomputable def LpO (aw as ae : Addr) (LG : List (Addr × Obj)) (_ : Nat) (m : Str → Option Value) (nx : List (Addr × Obj)) : Prop :=
  nx = LG ∧ ∃ (u : Str → Option Value), m = fun y => if y = Str.ofString "ends" then some (.ref ae) else if y = Str.ofString "wanted" then some (.ref aw) else if y = Str.ofString "seen" then some (.ref as) else u y
noncomputable def LpI (pat : Str) (tp : Tok) (r aw as ae : Addr) (LG : List (Addr × Obj)) (_ : Nat) (m : Str → Option Value) (nx : List (Addr × Obj)) : Prop :=
  nx = LG ∧ ∃ (u : Str → Option Value), m = fun y => if y = Str.ofString "pattern" then some (.str pat tp) else if y = Str.ofString "places" then some (.ref r) else if y = Str.ofString "ends" then some (.ref ae) else if y = Str.ofString "wanted" then some (.ref aw) else if y = Str.ofString "seen" then some (.ref as) else u y
theorem text_len {x : Str} {l : List Nat} {k : Nat} (h : cs x = octs (l.take k)) (hb : ∀ n ∈ l, n < 2 ^ 40) (hl : l.length ≤ 1000) : x.length ≤ 100000 := by
  rw [len_cs, h]
  have h1 : (octs (l.take k)).length ≤ 7 * (l.take k).length := octs_len (fun m hm => by have := hb m (List.mem_of_mem_take hm); omega) (by omega)
  rw [List.length_take] at h1
  omega
/-- a place sought in a list of places -/
theorem tup_eqAt {A : Around} {s : Shared} {a b : Addr} {p q : Pl} {t u t' u' : Tok} (ha : s.heap.get? a = some (plo q t u)) (hb : s.heap.get? b = some (plo p t' u')) (hu : A.units < cLine) : EqAt A s (.ref a) (.ref b) (decide (q = p)) := by
  by_cases hab : a = b
  · subst hab
    rw [ha] at hb
    have e := Option.some.inj hb
    simp only [plo, Obj.mk.injEq, Data.seq.injEq, Array.mk.injEq, List.cons.injEq, Value.int.injEq] at e
    have e1 : q.1 = p.1 := by omega
    have e2 : q.2 = p.2 := by omega
    have : q = p := Prod.ext e1 e2
    subst this
    rw [decide_eq_true rfl]
    exact EqAt.same _
  · have h := RcAt.tuples (A := A) (s := s) (l := a) (b := b) (items := #[.int (q.1 : Int) t, .int (q.2 : Int) u]) (items2 := #[.int (p.1 : Int) t', .int (p.2 : Int) u']) (e := fun j => if j = 0 then ((q.1 : Int) == (p.1 : Int)) else ((q.2 : Int) == (p.2 : Int))) ⟨_, ha, rfl, _, rfl⟩ ⟨_, hb, rfl, _, rfl⟩ hu ?_
    · have e : ((List.range (min (#[Value.int (q.1 : Int) t, .int (q.2 : Int) u] : Array Value).size (#[Value.int (p.1 : Int) t', .int (p.2 : Int) u'] : Array Value).size)).all (fun j => if j = 0 then ((q.1 : Int) == (p.1 : Int)) else ((q.2 : Int) == (p.2 : Int))) && (#[Value.int (q.1 : Int) t, .int (q.2 : Int) u] : Array Value).size == (#[Value.int (p.1 : Int) t', .int (p.2 : Int) u'] : Array Value).size) = decide (q = p) := by
        show ((List.range 2).all _ && true) = _
        rw [Bool.and_true, Bool.eq_iff_iff]
        simp only [List.range_succ, List.range_zero, List.nil_append, List.cons_append, List.all_cons, List.all_nil, Bool.and_true, Bool.and_eq_true, decide_eq_true_eq]
        simp
        constructor
        · rintro ⟨h1, h2⟩; exact Prod.ext (by omega) (by omega)
        · rintro rfl; exact ⟨rfl, rfl⟩
      rw [e] at h
      exact EqAt.of_refs hab h
    · intro j h1 h2
      match j, h1, h2 with
      | 0, _, _ => exact EqAt.int_int _ _ _ _
      | 1, _, _ => exact EqAt.int_int _ _ _ _
open Classical in
theorem in_places {prog : Program} {w : World} {A : Around} {E Q : Value → Shared → Prop} {s : Shared} {P b : Addr} {ys : List Value} {ps : List Pl} {tl : List (Addr × Obj)} {p : Pl} {t u : Tok} (hl : s.heap.IsList P ys.toArray) (hp : Pls tl ps ys)
    (htl : ∀ x ∈ tl, s.heap.get? x.1 = some x.2) (hb : s.heap.get? b = some (plo p t u)) (hu : A.in1.units < cLine) (h : ∀ r, (r = true ↔ p ∈ ps) → Q (.bool r) s) : wpAny (model prog w) A (compareOp .In (.ref b) (.ref P)) Q E s := by
  refine in_listAt (fun y => decide (∃ (a : Addr) (q : Pl) (t u : Tok), y = .ref a ∧ s.heap.get? a = some (plo q t u) ∧ q = p)) hl ?_ (h _ ?_)
  · intro y hy
    have hy : y ∈ ys := by simpa using hy
    obtain ⟨i, hi⟩ := List.getElem?_of_mem hy
    obtain ⟨q, t', u', a, rfl, _, hm⟩ := hp.at hi
    have ha := htl _ hm
    have e : decide (∃ (a' : Addr) (q : Pl) (t u : Tok), Value.ref a = .ref a' ∧ s.heap.get? a' = some (plo q t u) ∧ q = p) = decide (q = p) := by
      rw [Bool.eq_iff_iff, decide_eq_true_eq, decide_eq_true_eq]
      constructor
      · rintro ⟨a', q', t2, u2, e1, e2, rfl⟩
        have e1 : a = a' := by injection e1
        subst e1
        rw [ha] at e2
        have e := Option.some.inj e2
        simp only [plo, Obj.mk.injEq, Data.seq.injEq, Array.mk.injEq, List.cons.injEq, Value.int.injEq] at e
        exact Prod.ext (by omega) (by omega)
      · rintro rfl; exact ⟨a, _, _, _, rfl, ha, rfl⟩
    rw [e]
    exact tup_eqAt ha hb hu
  · simp only [List.any_toArray, List.any_eq_true, decide_eq_true_eq]
    constructor
    · rintro ⟨y, hy, a, q, t', u', rfl, ha, rfl⟩
      obtain ⟨i, hi⟩ := List.getElem?_of_mem hy
      obtain ⟨q', t2, u2, a', e1, hq, hm⟩ := hp.at hi
      have e1 : a = a' := by injection e1
      subst e1
      have := htl _ hm
      rw [ha] at this
      have e := Option.some.inj this
      simp only [plo, Obj.mk.injEq, Data.seq.injEq, Array.mk.injEq, List.cons.injEq, Value.int.injEq] at e
      have : q = q' := Prod.ext (by omega) (by omega)
      subst this
      exact List.mem_of_getElem? hq
    · intro hm
      clear h hl
      induction hp with
      | nil => cases hm
      | @cons q t' u' a ps ys hm' _ ih =>
        rcases List.mem_cons.mp hm with rfl | hm
        · exact ⟨_, .head _, a, _, _, _, rfl, htl _ hm', rfl⟩
        · obtain ⟨y, hy, h⟩ := ih hm
          exact ⟨y, .tail _ hy, h⟩
end Mine
end

section
open PySem PySem.Calls PySem.W PyProof.Rows
set_option maxRecDepth 100000
namespace Mine
noncomputable def LawEnd (s : Shared) (fl : Flow) (s' : Shared) : Prop := fl = .ret (.bool true) ∧ ∃ h tk m, s' = { s with heap := h, toks := tk } ∧ Fr s.heap s.heap.objs.size h m
set_option maxHeartbeats 4000000 in
theorem law_holds : PySem.Challenge.rw_pg0056_01.Holds := hd (by
  k_go0
  all_goals (try k_fold)
  try dsimp only
  rename Shared => s
  rename World => w
  rename Fr _ _ _ _ => F
  rename News _ _ _ _ => N
  rename Frag.In _ _ => X
  rename Top _ _ _ _ _ _ => T
  rename Below _ _ _ _ => B
  rename IntsAre _ _ => hia
  rename Heap.IsList _ _ _ => hla
  refine wpAny_mono (Q := LawEnd s) (E := fun _ _ => False) ?_ ?_ (fun _ _ x => x.elim)
  · rename List Int => ns
    rename List Value => vs
    have hlen : ns.length ≤ 63 := by omega
    rename Heap => h₁
    rename Addr => a
    replace B : Below callerA s.heap [] s.heap := B
    repeat' (first | ((fail_if_success (with_reducible show wpAny _ _ (exec (Stmt.For _ _ _ _ _) _) _ _ _)); (fail_if_success (with_reducible show wpAny _ _ (compareOp _ (Value.ref _) (Value.ref _)) _ _ _)); (fail_if_success (with_reducible show wpAny _ _ (call (Value.ref _) _) _ _ _)); (fail_if_success (with_reducible show wpAny _ _ (binaryOp Operator.Add (Value.ref _) (Value.ref _)) _ _ _)); (fail_if_success (with_reducible show wpAny _ _ (inplaceOp Operator.Add (Value.ref _) (Value.ref _)) _ _ _)); (fail_if_success (with_reducible show wpAny _ _ (subscriptTail _ _ _ _) _ _ _)); (fail_if_success (with_reducible show wpAny _ _ (call (Value.builtin "len") _) _ _ _)); walk1; (try dsimp only)) | fail "x")
    rename Fr _ _ _ _ => F₁
    rename News _ _ _ _ => N₁
    rename_i aw hw₁ _ hw₂ tk₁ as hw₃ _ hw₄ tk₂ T₁ hw₅ lT₁ af hw₆ laf h₂
    refine for_k ?_
    repeat' (first | ((fail_if_success (with_reducible show wpAny _ _ (compareOp _ (Value.ref _) (Value.ref _)) _ _ _)); (fail_if_success (with_reducible show wpAny _ _ (call (Value.ref _) _) _ _ _)); (fail_if_success (with_reducible show wpAny _ _ (binaryOp Operator.Add (Value.ref _) (Value.ref _)) _ _ _)); (fail_if_success (with_reducible show wpAny _ _ (inplaceOp Operator.Add (Value.ref _) (Value.ref _)) _ _ _)); (fail_if_success (with_reducible show wpAny _ _ (subscriptTail _ _ _ _) _ _ _)); (fail_if_success (with_reducible show wpAny _ _ (call (Value.builtin "len") _) _ _ _)); walk1; (try dsimp only)) | fail "x")
    refine' kmk_slice_ints (s := ⟨_, _, _, _, _⟩) (l := a) (vs := vs) (ns := ns) (lo := none) (hi := some 3) (ms := ns.take 3) ?sl1 ?sl2 ?sl3 ?sl4 ?sl5 hia ?sl6 rfl ?_ ?sl7 ?sl8 ?sl9
    case sl1 => exact F₁
    case sl2 => exact N₁
    case sl3 => exact hla.at fun o e => F₁.keep _ o e
    case sl4 => exact IsPart.none
    case sl5 => exact IsPart.int _ _
    case sl6 => exact kmk_upto (y := 3) hia (by decide)
    case sl7 => with_unfolding_all rfl
    case sl8 => intro _; with_unfolding_all rfl
    case sl9 => rw [List.size_toArray, hia.length, sizeLine_eq]; omega
    intro D₃ ws₃ h₃ F₃ N₃ hl₃ hi₃ _ _
    try dsimp only
    repeat' (first | ((fail_if_success (with_reducible show wpAny _ _ (compareOp _ (Value.ref _) (Value.ref _)) _ _ _)); (fail_if_success (with_reducible show wpAny _ _ (call (Value.ref _) _) _ _ _)); (fail_if_success (with_reducible show wpAny _ _ (binaryOp Operator.Add (Value.ref _) (Value.ref _)) _ _ _)); (fail_if_success (with_reducible show wpAny _ _ (inplaceOp Operator.Add (Value.ref _) (Value.ref _)) _ _ _)); (fail_if_success (with_reducible show wpAny _ _ (subscriptTail _ _ _ _) _ _ _)); (fail_if_success (with_reducible show wpAny _ _ (call (Value.builtin "len") _) _ _ _)); walk1; (try dsimp only)) | fail "x")
    rename Fr _ _ _ _ => F₄
    rename News _ _ _ _ => N₄
    refine kmk_add_ints F₄ N₄ ⟨_, N₄.get (.tail _ (.head _)), rfl, _, rfl⟩ ⟨_, N₄.get (.head _), rfl, _, rfl⟩ hi₃ (.cons _ _ (.cons _ _ .nil)) ?_ (by rw [List.length_take, sizeLine_eq]; simp; omega)
    intro l us h₅ F₅ N₅ hlt₅ hus
    generalize hzs : ns.take 3 ++ [26, 563] = zs at hus
    have hzl : zs.length ≤ 5 := by rw [← hzs, List.length_append, List.length_take]; simp; omega
    generalize hxs : zs.map xOf = xs
    have hxl : xs.length = zs.length := by rw [← hxs, List.length_map]
    have hT₁af : @Ne Nat T₁ af := by omega
    have hlaf : @Ne Nat af l := Nat.ne_of_lt (hlt₅ _ (.tail _ (.tail _ (.head _))))
    obtain ⟨u₅, F₆⟩ : ∃ u : Str → Option Value, Fr s.heap s.heap.objs.size h₅ (fun y => if y = Str.ofString "wanted" then some (.ref aw) else if y = Str.ofString "seen" then some (.ref as) else if y = Str.ofString "fronts" then some (.ref af) else u y) := ⟨_, pick3 (x1 := Str.ofString "wanted") (x2 := Str.ofString "seen") (x3 := Str.ofString "fronts") F₅ rfl rfl rfl⟩
    have N₆ : News s.heap s.heap.objs.size h₅ ((aw, W.listOf ([] : List Value).toArray 0) :: (as, W.listOf ([] : List Value).toArray 0) :: (af, W.listOf [Value.ref T₁].toArray 0) :: (l, W.listOf us.toArray 0) :: [(T₁, plo (0, 0) tk₂ (tk₂ + 1))]) := news_sub N₅ (fun p hp => by
      simp only [List.mem_cons, List.not_mem_nil, or_false] at hp ⊢
      rcases hp with h | h | h | h | h <;> simp [h])
    have haf1 : @Ne Nat af aw := by omega
    have haf2 : @Ne Nat af as := by omega
    (try clear F₅); (try clear N₅); (try clear F₄); (try clear N₄); (try clear F₃); (try clear N₃); (try clear F₁); (try clear N₁); (try clear hl₃); (try clear hlt₅); (try clear lT₁); (try clear laf); (try clear hi₃)
    refine for_list (vs := us) (LpJ l us xs) rfl F₆ N₆ ⟨aw, as, af, 0, 0, 0, [], [], [.ref T₁], _, _, rfl, .nil, .nil, .cons (.head _) .nil, haf1, haf2, hlaf, ?_, rfl⟩ ?_ ?_ ?_
    · intro p hp; rw [List.mem_singleton.mp hp]; exact hT₁af
    · rintro i m nx h ⟨aw, as, af, cw, cs, cf, ws, ss, fs, tl, u, rfl, _⟩ F N
      exact ⟨_, N.get (.tail _ (.tail _ (.tail _ (.head _)))), rfl, _, rfl⟩
    · rintro i v m nx h₇ tk₇ oI hv ⟨aw, as, af, cw, cs, cf, ws, ss, fs, tl, u, rfl, hws, hss, hfs, haw, has, hal, htl, rfl⟩ hnI F₇ N₇
      (try clear F₆); (try clear N₆); (try clear haf1); (try clear haf2); (try clear hT₁af); (try clear hlaf)
      obtain ⟨z, tz, rfl, hz⟩ := hus.at i v hv
      have hxi : xs[i]? = some (xOf z) := by rw [← hxs, List.getElem?_map, hz]; rfl
      simp only [List.cons_append] at N₇
      repeat' (first | ((fail_if_success (with_reducible show wpAny _ _ (compareOp _ (Value.ref _) (Value.ref _)) _ _ _)); (fail_if_success (with_reducible show wpAny _ _ (call (Value.ref _) _) _ _ _)); (fail_if_success (with_reducible show wpAny _ _ (binaryOp Operator.Add (Value.ref _) (Value.ref _)) _ _ _)); (fail_if_success (with_reducible show wpAny _ _ (inplaceOp Operator.Add (Value.ref _) (Value.ref _)) _ _ _)); (fail_if_success (with_reducible show wpAny _ _ (subscriptTail _ _ _ _) _ _ _)); (fail_if_success (with_reducible show wpAny _ _ (call (Value.builtin "len") _) _ _ _)); walk1; (try dsimp only)) | fail "x")
      rename Fr _ _ _ _ => F₈
      rename News _ _ _ _ => N₈
      rw [show z.fmod (2 ^ Int.toNat 64) = ((xOf z : Nat) : Int) from xOf_eq z]
      refine deed_call (X.keeps F₈.keep) (T.keeps F₈.keep) (by show callerA.depth + 1 < 890; decide) rfl (xOf_lt z) ?_
      intro h₉ tk₉ r am ao wsm wso cm co g₉ hma hmo hmr er ea eb him hio
      obtain ⟨wm, rfl⟩ : ∃ wm : List Value, wsm = wm.toArray := ⟨wsm.toList, by simp⟩
      obtain ⟨wo, rfl⟩ : ∃ wo : List Value, wso = wo.toArray := ⟨wso.toList, by simp⟩
      have N₉ := news_join F₈ (news_grown N₈ g₉) (more := [(r, ({ cls := Value.type "tuple", data := Data.seq #[Value.ref am, Value.ref ao] } : Obj)), (am, W.listOf wm.toArray cm), (ao, W.listOf wo.toArray co)]) (fun p hp => by
        simp only [List.mem_cons, List.not_mem_nil, or_false] at hp
        rcases hp with rfl | rfl | rfl
        · exact ⟨er, hmr⟩
        · exact ⟨ea, hma⟩
        · exact ⟨eb, hmo⟩)
      have F₉ := fr_grown F₈ g₉
      simp only [List.cons_append, List.append_assoc, List.nil_append] at N₉
      have hmaf : @Ne Nat am af := ne_of_get hma (N₈.get (.tail _ (.tail _ (.head _))))
      have hoaf : @Ne Nat ao af := ne_of_get hmo (N₈.get (.tail _ (.tail _ (.head _))))
      try dsimp only
      refine unpackN_ F₉ N₉ ⟨_, er, rfl, _, rfl⟩ rfl rfl rfl ?_
      intro h₁₀ F₁₀ N₁₀
      replace N₁₀ : News s.heap s.heap.objs.size h₁₀ ((aw, W.listOf ws.toArray cw) :: (as, W.listOf ss.toArray cs) :: (af, W.listOf fs.toArray cf) :: (l, W.listOf us.toArray 0) :: (am, W.listOf wm.toArray cm) :: (ao, W.listOf wo.toArray co) :: (h₅.objs.size, oI) :: tl) := news_sub N₁₀ (fun p hp => by
        simp only [List.mem_cons, List.mem_append, List.not_mem_nil, or_false] at hp ⊢
        rcases hp with h | h | h | h | h | h | h | h <;> simp [h])
      (try clear F₉); (try clear N₉); (try clear F₈); (try clear N₈); (try clear F₇); (try clear N₇); (try clear er); (try clear ea); (try clear eb); (try clear hma); (try clear hmo); (try clear hmr); (try clear g₉)
      repeat' (first | ((fail_if_success (with_reducible show wpAny _ _ (compareOp _ (Value.ref _) (Value.ref _)) _ _ _)); (fail_if_success (with_reducible show wpAny _ _ (call (Value.ref _) _) _ _ _)); (fail_if_success (with_reducible show wpAny _ _ (binaryOp Operator.Add (Value.ref _) (Value.ref _)) _ _ _)); (fail_if_success (with_reducible show wpAny _ _ (inplaceOp Operator.Add (Value.ref _) (Value.ref _)) _ _ _)); (fail_if_success (with_reducible show wpAny _ _ (subscriptTail _ _ _ _) _ _ _)); (fail_if_success (with_reducible show wpAny _ _ (call (Value.builtin "len") _) _ _ _)); walk1; (try dsimp only)) | fail "x")
      have htk : xs.take (i + 1) = xs.take i ++ [xOf z] := by rw [List.take_add_one, hxi]; rfl
      have hwn : wN (xs.take (i + 1)) = wN (xs.take i) ++ (deed (xOf z)).1 := by rw [htk, wN_snoc]
      have hsn : sN (xs.take (i + 1)) = sN (xs.take i) ++ (deed (xOf z)).2 := by rw [htk, sN_snoc]
      have hwl : (wN (xs.take (i + 1))).length ≤ 20 := by have h1 := wN_take xs (i + 1); have h2 := wN_len xs; omega
      have hsl : (sN (xs.take (i + 1))).length ≤ 10 := by have h1 := sN_take xs (i + 1); have h2 := sN_len xs; omega
      rename Fr _ _ _ _ => F₁₁
      rename News _ _ _ _ => N₁₁
      refine kmk_add_ints F₁₁ N₁₁ ⟨_, N₁₁.get (.head _), rfl, _, rfl⟩ ⟨_, N₁₁.get (.tail _ (.tail _ (.tail _ (.tail _ (.head _))))), rfl, _, rfl⟩ hws him ?_ (by rw [hwn, List.length_append] at hwl; rw [nats_length, nats_length, sizeLine_eq]; omega)
      intro aw' ws' h₁₂ F₁₂ N₁₂ hlt₁₂ hws'
      rw [← nats_append, ← hwn] at hws'
      have hw1 : @LT.lt Nat _ af aw' := hlt₁₂ _ (.tail _ (.tail _ (.head _)))
      have hw2 : @LT.lt Nat _ h₅.objs.size aw' := hlt₁₂ (h₅.objs.size, oI) (.tail _ (.tail _ (.tail _ (.tail _ (.tail _ (.tail _ (.head _)))))))
      (try clear F₁₁); (try clear N₁₁); (try clear F₁₀); (try clear N₁₀); (try clear hlt₁₂)
      try dsimp only
      repeat' (first | ((fail_if_success (with_reducible show wpAny _ _ (compareOp _ (Value.ref _) (Value.ref _)) _ _ _)); (fail_if_success (with_reducible show wpAny _ _ (call (Value.ref _) _) _ _ _)); (fail_if_success (with_reducible show wpAny _ _ (binaryOp Operator.Add (Value.ref _) (Value.ref _)) _ _ _)); (fail_if_success (with_reducible show wpAny _ _ (inplaceOp Operator.Add (Value.ref _) (Value.ref _)) _ _ _)); (fail_if_success (with_reducible show wpAny _ _ (subscriptTail _ _ _ _) _ _ _)); (fail_if_success (with_reducible show wpAny _ _ (call (Value.builtin "len") _) _ _ _)); walk1; (try dsimp only)) | fail "x")
      rename Fr _ _ _ _ => F₁₃
      rename News _ _ _ _ => N₁₃
      refine kmk_add_ints F₁₃ N₁₃ ⟨_, N₁₃.get (.tail _ (.tail _ (.head _))), rfl, _, rfl⟩ ⟨_, N₁₃.get (.tail _ (.tail _ (.tail _ (.tail _ (.tail _ (.tail _ (.head _))))))), rfl, _, rfl⟩ hss hio ?_ (by rw [hsn, List.length_append] at hsl; rw [nats_length, nats_length, sizeLine_eq]; omega)
      intro as' ss' h₁₄ F₁₄ N₁₄ hlt₁₄ hss'
      rw [← nats_append, ← hsn] at hss'
      have hs1 : @LT.lt Nat _ af as' := hlt₁₄ _ (.tail _ (.tail _ (.tail _ (.head _))))
      have hs2 : @LT.lt Nat _ h₅.objs.size as' := hlt₁₄ (h₅.objs.size, oI) (.tail _ (.tail _ (.tail _ (.tail _ (.tail _ (.tail _ (.tail _ (.head _))))))))
      have N₁₅ : News s.heap s.heap.objs.size h₁₄ ((aw', W.listOf ws'.toArray 0) :: (as', W.listOf ss'.toArray 0) :: (af, W.listOf fs.toArray cf) :: (l, W.listOf us.toArray 0) :: (h₅.objs.size, oI) :: tl) := news_sub N₁₄ (fun p hp => by
        simp only [List.mem_cons] at hp ⊢
        rcases hp with h | h | h | h | h | h <;> simp [h])
      (try clear F₁₃); (try clear N₁₃); (try clear F₁₂); (try clear N₁₂); (try clear hlt₁₄); (try clear N₁₄)
      try dsimp only
      repeat' (first | ((fail_if_success (with_reducible show wpAny _ _ (compareOp _ (Value.ref _) (Value.ref _)) _ _ _)); (fail_if_success (with_reducible show wpAny _ _ (call (Value.ref _) _) _ _ _)); (fail_if_success (with_reducible show wpAny _ _ (binaryOp Operator.Add (Value.ref _) (Value.ref _)) _ _ _)); (fail_if_success (with_reducible show wpAny _ _ (inplaceOp Operator.Add (Value.ref _) (Value.ref _)) _ _ _)); (fail_if_success (with_reducible show wpAny _ _ (subscriptTail _ _ _ _) _ _ _)); (fail_if_success (with_reducible show wpAny _ _ (call (Value.builtin "len") _) _ _ _)); walk1; (try dsimp only)) | fail "x")
      have hwz : ws'.toArray.size = (wN (xs.take (i + 1))).length := by rw [List.size_toArray, hws'.length, nats_length]
      have hsz : ss'.toArray.size = (sN (xs.take (i + 1))).length := by rw [List.size_toArray, hss'.length, nats_length]
      rename News _ _ _ _ => N₁₆
      refine len_list (items := ws'.toArray) ⟨_, N₁₆.get (.head _), rfl, _, rfl⟩ (by rw [hwz]; omega) ?_
      rw [hwz]
      try dsimp only
      repeat' (first | ((fail_if_success (with_reducible show wpAny _ _ (compareOp _ (Value.ref _) (Value.ref _)) _ _ _)); (fail_if_success (with_reducible show wpAny _ _ (call (Value.ref _) _) _ _ _)); (fail_if_success (with_reducible show wpAny _ _ (binaryOp Operator.Add (Value.ref _) (Value.ref _)) _ _ _)); (fail_if_success (with_reducible show wpAny _ _ (inplaceOp Operator.Add (Value.ref _) (Value.ref _)) _ _ _)); (fail_if_success (with_reducible show wpAny _ _ (subscriptTail _ _ _ _) _ _ _)); (fail_if_success (with_reducible show wpAny _ _ (call (Value.builtin "len") _) _ _ _)); walk1; (try dsimp only)) | fail "x")
      rename News _ _ _ _ => N₁₇
      refine len_list (items := ss'.toArray) ⟨_, N₁₇.get (.tail _ (.head _)), rfl, _, rfl⟩ (by rw [hsz]; omega) ?_
      rw [hsz]
      try dsimp only
      repeat' (first | ((fail_if_success (with_reducible show wpAny _ _ (call (Value.builtin "list.append") _) _ _ _)); (fail_if_success (with_reducible show wpAny _ _ (compareOp _ (Value.ref _) (Value.ref _)) _ _ _)); (fail_if_success (with_reducible show wpAny _ _ (call (Value.ref _) _) _ _ _)); (fail_if_success (with_reducible show wpAny _ _ (binaryOp Operator.Add (Value.ref _) (Value.ref _)) _ _ _)); (fail_if_success (with_reducible show wpAny _ _ (inplaceOp Operator.Add (Value.ref _) (Value.ref _)) _ _ _)); (fail_if_success (with_reducible show wpAny _ _ (subscriptTail _ _ _ _) _ _ _)); (fail_if_success (with_reducible show wpAny _ _ (call (Value.builtin "len") _) _ _ _)); walk1; (try dsimp only)) | fail "x")
      rename Fr _ _ _ _ => F₁₈
      rename News _ _ _ _ => N₁₈
      rename_i T₂ _ lT₂
      obtain ⟨_, _, lTaf, lTl, lTI, lTt⟩ := lT₂
      obtain ⟨tB, htB⟩ : ∃ tB : Nat, tB = tk + 1 + 1 + 1 := ⟨_, rfl⟩
      obtain ⟨tA, htA⟩ : ∃ tA : Nat, tA = tk + 1 := ⟨_, rfl⟩
      rw [← htB, ← htA] at N₁₈
      have hafI : @Ne Nat af h₅.objs.size := hnI _ (.tail _ (.tail _ (.head _)))
      have hlI : @Ne Nat l h₅.objs.size := hnI _ (.tail _ (.tail _ (.tail _ (.head _))))
      have htI : ∀ p ∈ tl, @Ne Nat p.1 h₅.objs.size := fun p hp => hnI p (.tail _ (.tail _ (.tail _ (.tail _ hp))))
      have N₁₉ : News s.heap s.heap.objs.size _ ((af, W.listOf fs.toArray cf) :: (aw', W.listOf ws'.toArray 0) :: (as', W.listOf ss'.toArray 0) :: (l, W.listOf us.toArray 0) :: (T₂, plo (frAt xs (i + 1)) tA tB) :: (h₅.objs.size, oI) :: tl) := news_sub N₁₈ (fun p hp => by
        simp only [List.mem_cons] at hp ⊢
        rcases hp with h | h | h | h | h | h | h <;> simp [h, frAt])
      have hrest : ∀ p ∈ (aw', W.listOf ws'.toArray 0) :: (as', W.listOf ss'.toArray 0) :: (l, W.listOf us.toArray 0) :: (T₂, plo (frAt xs (i + 1)) tA tB) :: (h₅.objs.size, oI) :: tl, p.1 ≠ af := by
        intro p hp
        simp only [List.mem_cons] at hp
        rcases hp with rfl | rfl | rfl | rfl | rfl | hp
        · exact Nat.ne_of_gt hw1
        · exact Nat.ne_of_gt hs1
        · exact Ne.symm hal
        · exact Nat.ne_of_gt lTaf
        · exact Ne.symm hafI
        · exact htl p hp
      have hfl : fs.length = i + 1 := by rw [hfs.length, frK, List.length_map, List.length_range]
      have hix : i < xs.length := (List.getElem?_eq_some_iff.mp hxi).1
      have hwI : @Ne Nat aw' h₅.objs.size := Nat.ne_of_gt hw2
      have hsI : @Ne Nat as' h₅.objs.size := Nat.ne_of_gt hs2
      refine append_K F₁₈ N₁₉ (Upd.head hrest) ?_ (by rw [List.size_toArray, sizeLine_eq]; omega)
      intro h₂₁ F₂₁ N₂₁
      (try clear F₁₈); (try clear N₁₈); (try clear N₁₉)
      rw [show fs.toArray.push (Value.ref T₂) = (fs ++ [Value.ref T₂]).toArray by simp] at N₂₁
      try dsimp only
      repeat' (first | ((fail_if_success (with_reducible show wpAny _ _ (compareOp _ (Value.ref _) (Value.ref _)) _ _ _)); (fail_if_success (with_reducible show wpAny _ _ (call (Value.ref _) _) _ _ _)); (fail_if_success (with_reducible show wpAny _ _ (binaryOp Operator.Add (Value.ref _) (Value.ref _)) _ _ _)); (fail_if_success (with_reducible show wpAny _ _ (inplaceOp Operator.Add (Value.ref _) (Value.ref _)) _ _ _)); (fail_if_success (with_reducible show wpAny _ _ (subscriptTail _ _ _ _) _ _ _)); (fail_if_success (with_reducible show wpAny _ _ (call (Value.builtin "len") _) _ _ _)); walk1; (try dsimp only)) | fail "x")
      refine ⟨_, _, _, (aw', W.listOf ws'.toArray 0) :: (as', W.listOf ss'.toArray 0) :: (af, W.listOf (fs ++ [Value.ref T₂]).toArray (cf + 1)) :: (l, W.listOf us.toArray 0) :: (T₂, plo (frAt xs (i + 1)) tA tB) :: tl, rfl, pick3 (x1 := Str.ofString "wanted") (x2 := Str.ofString "seen") (x3 := Str.ofString "fronts") F₂₁ rfl rfl rfl, news_sub N₂₁ (fun p hp => ?_), fun p hp => ?_, aw', as', af, 0, 0, cf + 1, ws', ss', fs ++ [Value.ref T₂], (T₂, plo (frAt xs (i + 1)) tA tB) :: tl, _, rfl, hws', hss', ?_, ?_, ?_, hal, fun p hp => ?_, rfl⟩
      · simp only [List.mem_cons, List.mem_append, List.not_mem_nil, or_false] at hp ⊢
        rcases hp with (h | h | h | h | h | h) | h <;> simp [h]
      · simp only [List.mem_cons] at hp
        rcases hp with rfl | rfl | rfl | rfl | rfl | hp
        · exact hwI
        · exact hsI
        · exact hafI
        · exact hlI
        · exact Nat.ne_of_gt lTI
        · exact htI p hp
      · rw [frK_succ]
        exact Pls.app (.cons (.head _) .nil) (hfs.sub fun p hp => .tail _ hp)
      · exact Nat.ne_of_lt hw1
      · exact Nat.ne_of_lt hs1
      · rcases List.mem_cons.mp hp with rfl | hp
        · exact Nat.ne_of_gt lTaf
        · exact htl p hp
    · rintro m nx h₇ tk₇ ⟨aw, as, af, cw, cs, cf, ws, ss, fs, tl, u, rfl, hws, hss, hfs, haw, has, hal, htl, rfl⟩ F₇ N₇
      replace F₇ : Fr s.heap s.heap.objs.size h₇ _ := F₇
      replace N₇ : News s.heap s.heap.objs.size h₇ _ := N₇
      have hul : us.length = xs.length := by rw [hus.length, hxl]
      rw [hul, List.take_length] at hws hss
      rw [hul] at hfs
      have hWlt := wN_lt xs
      have hSlt := sN_lt xs
      have hWl : (wN xs).length ≤ 20 := by have := wN_len xs; omega
      have hSl : (sN xs).length ≤ 10 := by have := sN_len xs; omega
      have hfm : ∀ p ∈ frK xs xs.length, p.1 ≤ (wN xs).length ∧ p.2 ≤ (sN xs).length := fun p hp => frK_mem hp
      have hfrl : (frK xs xs.length).length ≤ 6 := by rw [frK, List.length_map, List.length_range]; omega
      generalize wN xs = WN at *
      generalize sN xs = S at *
      generalize frK xs xs.length = fr at *
      (try clear F₆); (try clear N₆); (try clear haf1); (try clear haf2); (try clear hT₁af); (try clear hlaf); (try clear haw); (try clear has); (try clear hal); (try clear htl)
      try dsimp only
      repeat' (first | ((fail_if_success (with_reducible show wpAny _ _ (compareOp _ (Value.ref _) (Value.ref _)) _ _ _)); (fail_if_success (with_reducible show wpAny _ _ (call (Value.ref _) _) _ _ _)); (fail_if_success (with_reducible show wpAny _ _ (binaryOp Operator.Add (Value.ref _) (Value.ref _)) _ _ _)); (fail_if_success (with_reducible show wpAny _ _ (inplaceOp Operator.Add (Value.ref _) (Value.ref _)) _ _ _)); (fail_if_success (with_reducible show wpAny _ _ (subscriptTail _ _ _ _) _ _ _)); (fail_if_success (with_reducible show wpAny _ _ (call (Value.builtin "len") _) _ _ _)); walk1; (try dsimp only)) | fail "x")
      refine octets_call (ns := WN) (X.keeps F₇.keep) (T.keeps F₇.keep) (by show callerA.depth + 1 < 890; decide) rfl ⟨_, N₇.get (.head _), rfl, _, rfl⟩ hws hWlt (by omega) ?_
      intro h₈ tk₈ r₁ ws₁ c₁ g₈ hr₁ er₁ hi₁
      have F₈ := fr_grown F₇ g₈
      have N₈ := news_none F₇ (news_grown N₇ g₈) hr₁ er₁
      (try clear F₇); (try clear N₇); (try clear g₈); (try clear hr₁); (try clear er₁)
      try dsimp only
      repeat' (first | ((fail_if_success (with_reducible show wpAny _ _ (compareOp _ (Value.ref _) (Value.ref _)) _ _ _)); (fail_if_success (with_reducible show wpAny _ _ (call (Value.ref _) _) _ _ _)); (fail_if_success (with_reducible show wpAny _ _ (binaryOp Operator.Add (Value.ref _) (Value.ref _)) _ _ _)); (fail_if_success (with_reducible show wpAny _ _ (inplaceOp Operator.Add (Value.ref _) (Value.ref _)) _ _ _)); (fail_if_success (with_reducible show wpAny _ _ (subscriptTail _ _ _ _) _ _ _)); (fail_if_success (with_reducible show wpAny _ _ (call (Value.builtin "len") _) _ _ _)); walk1; (try dsimp only)) | fail "x")
      refine read_call (ns := WN) B F₈ X X N₈ T T (Around.frames_deeper B.stack) rfl (by show callerA.depth + 1 < 880; decide) rfl hi₁ hWlt (by omega) ?_
      intro h₉ tk₉ r₂ ws₂ c₂ F₉ N₉ hi₂
      (try clear F₈); (try clear N₈)
      try dsimp only
      repeat' (first | ((fail_if_success (with_reducible show wpAny _ _ (compareOp _ (Value.ref _) (Value.ref _)) _ _ _)); (fail_if_success (with_reducible show wpAny _ _ (call (Value.ref _) _) _ _ _)); (fail_if_success (with_reducible show wpAny _ _ (binaryOp Operator.Add (Value.ref _) (Value.ref _)) _ _ _)); (fail_if_success (with_reducible show wpAny _ _ (inplaceOp Operator.Add (Value.ref _) (Value.ref _)) _ _ _)); (fail_if_success (with_reducible show wpAny _ _ (subscriptTail _ _ _ _) _ _ _)); (fail_if_success (with_reducible show wpAny _ _ (call (Value.builtin "len") _) _ _ _)); walk1; (try dsimp only)) | fail "x")
      rename Fr _ _ _ _ => F₁₀
      rename News _ _ _ _ => N₁₀
      refine ke_ne_ints (xs := ws₂.toList) (ys := ws) (ns := nats WN) (ms := nats WN) ⟨_, N₁₀.get (.head _), rfl, _, rfl⟩ ⟨_, N₁₀.get (.tail _ (.tail _ (.head _))), rfl, _, rfl⟩ hi₂ hws (by simp only [units_deeper, cLine]; decide) ?_
      rw [show (!decide (nats WN = nats WN)) = false by simp]
      replace N₁₀ := news_sub N₁₀ (fun p hp => List.Mem.tail _ (List.Mem.tail _ hp))
      try dsimp only
      repeat' (first | ((fail_if_success (with_reducible show wpAny _ _ (compareOp _ (Value.ref _) (Value.ref _)) _ _ _)); (fail_if_success (with_reducible show wpAny _ _ (call (Value.ref _) _) _ _ _)); (fail_if_success (with_reducible show wpAny _ _ (binaryOp Operator.Add (Value.ref _) (Value.ref _)) _ _ _)); (fail_if_success (with_reducible show wpAny _ _ (inplaceOp Operator.Add (Value.ref _) (Value.ref _)) _ _ _)); (fail_if_success (with_reducible show wpAny _ _ (subscriptTail _ _ _ _) _ _ _)); (fail_if_success (with_reducible show wpAny _ _ (call (Value.builtin "len") _) _ _ _)); walk1; (try dsimp only)) | fail "x")
      refine octets_call (ns := S) (X.keeps F₁₀.keep) (T.keeps F₁₀.keep) (by show callerA.depth + 1 < 890; decide) rfl ⟨_, N₁₀.get (.tail _ (.head _)), rfl, _, rfl⟩ hss hSlt (by omega) ?_
      intro h₁₁ tk₁₁ r₃ ws₃ c₃ g₁₁ hr₃ er₃ hi₃
      have F₁₁ := fr_grown F₁₀ g₁₁
      have N₁₁ := news_none F₁₀ (news_grown N₁₀ g₁₁) hr₃ er₃
      (try clear F₁₀); (try clear N₁₀); (try clear g₁₁); (try clear hr₃); (try clear er₃)
      try dsimp only
      repeat' (first | ((fail_if_success (with_reducible show wpAny _ _ (compareOp _ (Value.ref _) (Value.ref _)) _ _ _)); (fail_if_success (with_reducible show wpAny _ _ (call (Value.ref _) _) _ _ _)); (fail_if_success (with_reducible show wpAny _ _ (binaryOp Operator.Add (Value.ref _) (Value.ref _)) _ _ _)); (fail_if_success (with_reducible show wpAny _ _ (inplaceOp Operator.Add (Value.ref _) (Value.ref _)) _ _ _)); (fail_if_success (with_reducible show wpAny _ _ (subscriptTail _ _ _ _) _ _ _)); (fail_if_success (with_reducible show wpAny _ _ (call (Value.builtin "len") _) _ _ _)); walk1; (try dsimp only)) | fail "x")
      refine read_call (ns := S) B F₁₁ X X N₁₁ T T (Around.frames_deeper B.stack) rfl (by show callerA.depth + 1 < 880; decide) rfl hi₃ hSlt (by omega) ?_
      intro h₁₂ tk₁₂ r₄ ws₄ c₄ F₁₂ N₁₂ hi₄
      (try clear F₁₁); (try clear N₁₁)
      try dsimp only
      repeat' (first | ((fail_if_success (with_reducible show wpAny _ _ (compareOp _ (Value.ref _) (Value.ref _)) _ _ _)); (fail_if_success (with_reducible show wpAny _ _ (call (Value.ref _) _) _ _ _)); (fail_if_success (with_reducible show wpAny _ _ (binaryOp Operator.Add (Value.ref _) (Value.ref _)) _ _ _)); (fail_if_success (with_reducible show wpAny _ _ (inplaceOp Operator.Add (Value.ref _) (Value.ref _)) _ _ _)); (fail_if_success (with_reducible show wpAny _ _ (subscriptTail _ _ _ _) _ _ _)); (fail_if_success (with_reducible show wpAny _ _ (call (Value.builtin "len") _) _ _ _)); walk1; (try dsimp only)) | fail "x")
      rename Fr _ _ _ _ => F₁₃
      rename News _ _ _ _ => N₁₃
      refine ke_ne_ints (xs := ws₄.toList) (ys := ss) (ns := nats S) (ms := nats S) ⟨_, N₁₃.get (.head _), rfl, _, rfl⟩ ⟨_, N₁₃.get (.tail _ (.tail _ (.tail _ (.head _)))), rfl, _, rfl⟩ hi₄ hss (by simp only [units_deeper, cLine]; decide) ?_
      rw [show (!decide (nats S = nats S)) = false by simp]
      replace N₁₃ := news_sub N₁₃ (fun p hp => List.Mem.tail _ (List.Mem.tail _ hp))
      try dsimp only
      repeat' (first | ((fail_if_success (with_reducible show wpAny _ _ (exec (Stmt.For _ _ _ _ _) _) _ _ _)); (fail_if_success (with_reducible show wpAny _ _ (compareOp _ (Value.ref _) (Value.ref _)) _ _ _)); (fail_if_success (with_reducible show wpAny _ _ (call (Value.ref _) _) _ _ _)); (fail_if_success (with_reducible show wpAny _ _ (binaryOp Operator.Add (Value.ref _) (Value.ref _)) _ _ _)); (fail_if_success (with_reducible show wpAny _ _ (inplaceOp Operator.Add (Value.ref _) (Value.ref _)) _ _ _)); (fail_if_success (with_reducible show wpAny _ _ (subscriptTail _ _ _ _) _ _ _)); (fail_if_success (with_reducible show wpAny _ _ (call (Value.builtin "len") _) _ _ _)); walk1; (try dsimp only)) | fail "x")
      rename Fr _ _ _ _ => F₁₄
      rename News _ _ _ _ => N₁₄
      rename_i ae _ lae h₁₅
      obtain ⟨lae1, lae2, lae3, lae4, lae5⟩ := lae
      have htl : ∀ p ∈ tl, @Ne Nat p.1 ae := fun p hp => Nat.ne_of_lt (kst_ltOf lae5 p hp)
      refine for_k ?_
      repeat' (first | ((fail_if_success (with_reducible show wpAny _ _ (compareOp _ (Value.ref _) (Value.ref _)) _ _ _)); (fail_if_success (with_reducible show wpAny _ _ (call (Value.ref _) _) _ _ _)); (fail_if_success (with_reducible show wpAny _ _ (binaryOp Operator.Add (Value.ref _) (Value.ref _)) _ _ _)); (fail_if_success (with_reducible show wpAny _ _ (inplaceOp Operator.Add (Value.ref _) (Value.ref _)) _ _ _)); (fail_if_success (with_reducible show wpAny _ _ (subscriptTail _ _ _ _) _ _ _)); (fail_if_success (with_reducible show wpAny _ _ (call (Value.builtin "len") _) _ _ _)); walk1; (try dsimp only)) | fail "x")
      obtain ⟨u₁₄, F₁₅⟩ : ∃ u : Str → Option Value, Fr s.heap s.heap.objs.size _ (fun y => if y = Str.ofString "ends" then some (.ref ae) else if y = Str.ofString "wanted" then some (.ref aw) else if y = Str.ofString "seen" then some (.ref as) else if y = Str.ofString "fronts" then some (.ref af) else u y) := ⟨_, pick4 (x1 := Str.ofString "ends") (x2 := Str.ofString "wanted") (x3 := Str.ofString "seen") (x4 := Str.ofString "fronts") F₁₄ rfl rfl rfl rfl⟩
      have N₁₅ : News s.heap s.heap.objs.size _ ((ae, W.listOf ([] : List Value).toArray 0) :: (aw, W.listOf ws.toArray cw) :: (as, W.listOf ss.toArray cs) :: (af, W.listOf fs.toArray cf) :: tl) := news_sub N₁₄ (fun p hp => by
        simp only [List.mem_cons] at hp ⊢
        rcases hp with h | h | h | h | h <;> simp [h])
      (try clear F₁₄); (try clear N₁₄); (try clear F₁₃); (try clear N₁₃)
      refine for_list (vs := fs) (LpE aw as af ae cw cs cf ws ss fs tl S fr) rfl F₁₅ N₁₅ ⟨0, [], tl, _, rfl, fun _ h => h, htl, .nil, rfl⟩ ?_ ?_ ?_
      · rintro i m nx h ⟨ce, es, tl2, u, rfl, _⟩ F N
        exact ⟨_, N.get (.tail _ (.tail _ (.tail _ (.head _)))), rfl, _, rfl⟩
      · rintro i v m nx h₁₆ tk₁₆ oI hv ⟨ce, es, tl2, u, rfl, htl2, hae, hes, rfl⟩ hnI F₁₆ N₁₆
        (try clear F₁₅); (try clear N₁₅)
        obtain ⟨q, tq, uq, x0, rfl, hq, hm⟩ := hfs.at hv
        obtain ⟨hq1, hq2⟩ := hfm q (List.mem_of_getElem? hq)
        simp only [List.cons_append] at N₁₆
        refine unpackN_ F₁₆ N₁₆ ⟨_, N₁₆.get (.tail _ (.tail _ (.tail _ (.tail _ (List.mem_append_left _ (htl2 _ hm)))))), rfl, _, rfl⟩ rfl rfl rfl ?_
        intro h₁₇ F₁₇ N₁₇
        (try clear F₁₆); (try clear N₁₆)
        replace F₁₇ : Fr s.heap s.heap.objs.size h₁₇ _ := F₁₇
        replace N₁₇ : News s.heap s.heap.objs.size h₁₇ _ := N₁₇
        repeat' (first | ((fail_if_success (with_reducible show wpAny _ _ (compareOp _ (Value.ref _) (Value.ref _)) _ _ _)); (fail_if_success (with_reducible show wpAny _ _ (call (Value.ref _) _) _ _ _)); (fail_if_success (with_reducible show wpAny _ _ (binaryOp Operator.Add (Value.ref _) (Value.ref _)) _ _ _)); (fail_if_success (with_reducible show wpAny _ _ (inplaceOp Operator.Add (Value.ref _) (Value.ref _)) _ _ _)); (fail_if_success (with_reducible show wpAny _ _ (subscriptTail _ _ _ _) _ _ _)); (fail_if_success (with_reducible show wpAny _ _ (call (Value.builtin "len") _) _ _ _)); walk1; (try dsimp only)) | fail "x")
        rename Fr _ _ _ _ => F₁₈
        rename News _ _ _ _ => N₁₈
        refine' kmk_slice_ints (s := ⟨_, _, _, _, _⟩) (l := as) (vs := ss) (ns := nats S) (lo := none) (hi := some (q.2 : Int)) (ms := nats (S.take q.2)) ?sm1 ?sm2 ?sm3 ?sm4 ?sm5 hss ?sm6 rfl ?_ ?sm7 ?sm8 ?sm9
        case sm1 => exact F₁₈
        case sm2 => exact N₁₈
        case sm3 => exact ⟨_, N₁₈.get (.tail _ (.tail _ (.head _))), rfl, _, rfl⟩
        case sm4 => exact IsPart.none
        case sm5 => exact IsPart.int _ _
        case sm6 => exact ints_upto hss q.2
        case sm7 => with_unfolding_all rfl
        case sm8 => intro _; with_unfolding_all rfl
        case sm9 => rw [List.size_toArray, hss.length, nats_length, sizeLine_eq]; omega
        intro D₁₉ ws₁₉ h₁₉ F₁₉ N₁₉ _ hi₁₉ _ _
        try dsimp only
        repeat' (first | ((fail_if_success (with_reducible show wpAny _ _ (compareOp _ (Value.ref _) (Value.ref _)) _ _ _)); (fail_if_success (with_reducible show wpAny _ _ (call (Value.ref _) _) _ _ _)); (fail_if_success (with_reducible show wpAny _ _ (binaryOp Operator.Add (Value.ref _) (Value.ref _)) _ _ _)); (fail_if_success (with_reducible show wpAny _ _ (inplaceOp Operator.Add (Value.ref _) (Value.ref _)) _ _ _)); (fail_if_success (with_reducible show wpAny _ _ (subscriptTail _ _ _ _) _ _ _)); (fail_if_success (with_reducible show wpAny _ _ (call (Value.builtin "len") _) _ _ _)); walk1; (try dsimp only)) | fail "x")
        refine signs_call (ns := S.take q.2) (X.keeps F₁₉.keep) (T.keeps F₁₉.keep) (by show callerA.depth + 1 < 880; decide) rfl ⟨_, N₁₉.get (.head _), rfl, _, rfl⟩ hi₁₉ (fun n hn => hSlt n (List.mem_of_mem_take hn)) (by rw [List.length_take]; omega) ?_
        intro h₂₀ tk₂₀ x tx g₂₀ hx
        have F₂₀ := fr_grown F₁₉ g₂₀
        have N₂₀ := news_sub (news_grown N₁₉ g₂₀) (fun p hp => List.Mem.tail _ hp)
        (try clear F₁₉); (try clear N₁₉); (try clear F₁₈); (try clear N₁₈); (try clear g₂₀); (try clear hi₁₉)
        try dsimp only
        repeat' (first | ((fail_if_success (with_reducible show wpAny _ _ (eval (PySem.Expr.IfExp _ _ _ _) _) _ _ _)); (fail_if_success (with_reducible show wpAny _ _ (compareOp _ (Value.ref _) (Value.ref _)) _ _ _)); (fail_if_success (with_reducible show wpAny _ _ (call (Value.ref _) _) _ _ _)); (fail_if_success (with_reducible show wpAny _ _ (binaryOp Operator.Add (Value.ref _) (Value.ref _)) _ _ _)); (fail_if_success (with_reducible show wpAny _ _ (inplaceOp Operator.Add (Value.ref _) (Value.ref _)) _ _ _)); (fail_if_success (with_reducible show wpAny _ _ (subscriptTail _ _ _ _) _ _ _)); (fail_if_success (with_reducible show wpAny _ _ (call (Value.builtin "len") _) _ _ _)); walk1; (try dsimp only)) | fail "x")
        refine val_cut (s := s) (szAt S q.2 : Int) F₂₀ N₂₀ ?_ ?_
        · repeat' (first | ((fail_if_success (with_reducible show wpAny _ _ (compareOp _ (Value.ref _) (Value.ref _)) _ _ _)); (fail_if_success (with_reducible show wpAny _ _ (call (Value.ref _) _) _ _ _)); (fail_if_success (with_reducible show wpAny _ _ (binaryOp Operator.Add (Value.ref _) (Value.ref _)) _ _ _)); (fail_if_success (with_reducible show wpAny _ _ (inplaceOp Operator.Add (Value.ref _) (Value.ref _)) _ _ _)); (fail_if_success (with_reducible show wpAny _ _ (subscriptTail _ _ _ _) _ _ _)); (fail_if_success (with_reducible show wpAny _ _ (call (Value.builtin "len") _) _ _ _)); walk1; (try dsimp only)) | fail "x")
          have hsz : ss.toArray.size = S.length := by rw [List.size_toArray, hss.length, nats_length]
          refine len_list (items := ss.toArray) ⟨_, N₂₀.get (.tail _ (.tail _ (.head _))), rfl, _, rfl⟩ (by rw [hsz]; omega) ?_
          rw [hsz]
          try dsimp only
          repeat' (first | ((fail_if_success (with_reducible show wpAny _ _ (compareOp _ (Value.ref _) (Value.ref _)) _ _ _)); (fail_if_success (with_reducible show wpAny _ _ (call (Value.ref _) _) _ _ _)); (fail_if_success (with_reducible show wpAny _ _ (binaryOp Operator.Add (Value.ref _) (Value.ref _)) _ _ _)); (fail_if_success (with_reducible show wpAny _ _ (inplaceOp Operator.Add (Value.ref _) (Value.ref _)) _ _ _)); (fail_if_success (with_reducible show wpAny _ _ (subscriptTail _ _ _ _) _ _ _)); (fail_if_success (with_reducible show wpAny _ _ (call (Value.builtin "len") _) _ _ _)); walk1; (try dsimp only)) | fail "x")
          · have hlt : q.2 < S.length := by omega
            have hSq : S[q.2]? = some (S.getD q.2 0) := by simp [hlt]
            refine item_at ⟨_, N₂₀.get (.tail _ (.tail _ (.head _))), rfl, _, rfl⟩ hss hSq (by omega) ?_
            intro t₂₁
            repeat' (first | ((fail_if_success (with_reducible show wpAny _ _ (compareOp _ (Value.ref _) (Value.ref _)) _ _ _)); (fail_if_success (with_reducible show wpAny _ _ (call (Value.ref _) _) _ _ _)); (fail_if_success (with_reducible show wpAny _ _ (binaryOp Operator.Add (Value.ref _) (Value.ref _)) _ _ _)); (fail_if_success (with_reducible show wpAny _ _ (inplaceOp Operator.Add (Value.ref _) (Value.ref _)) _ _ _)); (fail_if_success (with_reducible show wpAny _ _ (subscriptTail _ _ _ _) _ _ _)); (fail_if_success (with_reducible show wpAny _ _ (call (Value.builtin "len") _) _ _ _)); walk1; (try dsimp only)) | fail "x")
            refine size_call (X.keeps F₂₀.keep) (T.keeps F₂₀.keep) (by show callerA.depth + 1 < 900; decide) (hSlt _ (List.mem_of_getElem? hSq)) ?_
            intro h₂₁ tk₂₁ t₂₂ g₂₁
            exact ⟨_, _, _, rfl, fr_grown F₂₀ g₂₁, news_grown N₂₀ g₂₁, by rw [szAt_lt hlt]⟩
          · exact ⟨_, _, _, rfl, F₂₀, N₂₀, by rw [szAt_ge (by omega)]; rfl⟩
        · intro h₂₁ tk₂₁ t₂₁ F₂₁ N₂₁
          (try clear F₂₀); (try clear N₂₀)
          repeat' (first | ((fail_if_success (with_reducible show wpAny _ _ (call (Value.builtin "list.append") _) _ _ _)); (fail_if_success (with_reducible show wpAny _ _ (compareOp _ (Value.ref _) (Value.ref _)) _ _ _)); (fail_if_success (with_reducible show wpAny _ _ (call (Value.ref _) _) _ _ _)); (fail_if_success (with_reducible show wpAny _ _ (binaryOp Operator.Add (Value.ref _) (Value.ref _)) _ _ _)); (fail_if_success (with_reducible show wpAny _ _ (inplaceOp Operator.Add (Value.ref _) (Value.ref _)) _ _ _)); (fail_if_success (with_reducible show wpAny _ _ (subscriptTail _ _ _ _) _ _ _)); (fail_if_success (with_reducible show wpAny _ _ (call (Value.builtin "len") _) _ _ _)); walk1; (try dsimp only)) | fail "x")
          rename Fr _ _ _ _ => F₂₂
          rename News _ _ _ _ => N₂₂
          rename_i T₁' _ lT₁ T₂' _ lT₂
          obtain ⟨lTae, _, _, _, lTt⟩ := lT₁
          obtain ⟨lTT, lTae', _, _, _, lTt'⟩ := lT₂
          have haeI : @Ne Nat ae h₁₅.objs.size := hnI _ (.head _)
          have hTI : @LT.lt Nat _ h₁₅.objs.size T₁' := kst_ltOf lTt (h₁₅.objs.size, oI) (List.mem_append_right _ (.head _))
          have hTI' : @LT.lt Nat _ h₁₅.objs.size T₂' := kst_ltOf lTt' (h₁₅.objs.size, oI) (List.mem_append_right _ (.head _))
          have N₂₃ : News s.heap s.heap.objs.size _ ((ae, W.listOf es.toArray ce) :: (T₂', ({ cls := Value.type "tuple", data := Data.seq #[Value.str x tx, Value.ref T₁'] } : Obj)) :: (T₁', plo (q.2, szAt S q.2) uq t₂₁) :: (aw, W.listOf ws.toArray cw) :: (as, W.listOf ss.toArray cs) :: (af, W.listOf fs.toArray cf) :: (tl2 ++ [(h₁₅.objs.size, oI)])) := news_sub N₂₂ (fun p hp => by
            simp only [List.mem_cons] at hp ⊢
            rcases hp with h | h | h | h | h | h | h <;> simp [h])
          have hrest : ∀ p ∈ (T₂', ({ cls := Value.type "tuple", data := Data.seq #[Value.str x tx, Value.ref T₁'] } : Obj)) :: (T₁', plo (q.2, szAt S q.2) uq t₂₁) :: (aw, W.listOf ws.toArray cw) :: (as, W.listOf ss.toArray cs) :: (af, W.listOf fs.toArray cf) :: (tl2 ++ [(h₁₅.objs.size, oI)]), p.1 ≠ ae := by
            intro p hp
            simp only [List.mem_cons, List.mem_append, List.not_mem_nil, or_false] at hp
            rcases hp with rfl | rfl | rfl | rfl | rfl | hp | rfl
            · exact Nat.ne_of_gt lTae'
            · exact Nat.ne_of_gt lTae
            · exact Nat.ne_of_lt lae1
            · exact Nat.ne_of_lt lae2
            · exact Nat.ne_of_lt lae3
            · exact hae p hp
            · exact Ne.symm haeI
          have hel : es.length ≤ 6 := by
            rw [hes.length, List.length_map, List.length_take]; omega
          refine append_K F₂₂ N₂₃ (Upd.head hrest) ?_ (by rw [List.size_toArray, sizeLine_eq]; omega)
          intro h₂₄ F₂₄ N₂₄
          (try clear F₂₂); (try clear N₂₂); (try clear N₂₃)
          rw [show es.toArray.push (Value.ref T₂') = (es ++ [Value.ref T₂']).toArray by simp] at N₂₄
          try dsimp only
          repeat' (first | ((fail_if_success (with_reducible show wpAny _ _ (compareOp _ (Value.ref _) (Value.ref _)) _ _ _)); (fail_if_success (with_reducible show wpAny _ _ (call (Value.ref _) _) _ _ _)); (fail_if_success (with_reducible show wpAny _ _ (binaryOp Operator.Add (Value.ref _) (Value.ref _)) _ _ _)); (fail_if_success (with_reducible show wpAny _ _ (inplaceOp Operator.Add (Value.ref _) (Value.ref _)) _ _ _)); (fail_if_success (with_reducible show wpAny _ _ (subscriptTail _ _ _ _) _ _ _)); (fail_if_success (with_reducible show wpAny _ _ (call (Value.builtin "len") _) _ _ _)); walk1; (try dsimp only)) | fail "x")
          have hft : (fr.take (i + 1)).map (·.2) = (fr.take i).map (·.2) ++ [q.2] := by rw [take_snoc hq, List.map_append]; rfl
          refine ⟨_, _, _, (ae, W.listOf (es ++ [Value.ref T₂']).toArray (ce + 1)) :: (aw, W.listOf ws.toArray cw) :: (as, W.listOf ss.toArray cs) :: (af, W.listOf fs.toArray cf) :: (T₂', ({ cls := Value.type "tuple", data := Data.seq #[Value.str x tx, Value.ref T₁'] } : Obj)) :: (T₁', plo (q.2, szAt S q.2) uq t₂₁) :: tl2, rfl, pick4 (x1 := Str.ofString "ends") (x2 := Str.ofString "wanted") (x3 := Str.ofString "seen") (x4 := Str.ofString "fronts") F₂₄ rfl rfl rfl rfl, news_sub N₂₄ (fun p hp => ?_), fun p hp => ?_, ce + 1, es ++ [Value.ref T₂'], (T₂', ({ cls := Value.type "tuple", data := Data.seq #[Value.str x tx, Value.ref T₁'] } : Obj)) :: (T₁', plo (q.2, szAt S q.2) uq t₂₁) :: tl2, _, rfl, fun p hp => .tail _ (.tail _ (htl2 p hp)), fun p hp => ?_, ?_, rfl⟩
          · simp only [List.mem_cons, List.mem_append, List.not_mem_nil, or_false] at hp ⊢
            rcases hp with (h | h | h | h | h | h | h) | h <;> simp [h]
          · simp only [List.mem_cons] at hp
            rcases hp with rfl | rfl | rfl | rfl | rfl | rfl | hp
            · exact haeI
            · exact hnI _ (.tail _ (.head _))
            · exact hnI _ (.tail _ (.tail _ (.head _)))
            · exact hnI _ (.tail _ (.tail _ (.tail _ (.head _))))
            · exact Nat.ne_of_gt hTI'
            · exact Nat.ne_of_gt hTI
            · exact hnI p (.tail _ (.tail _ (.tail _ (.tail _ hp))))
          · simp only [List.mem_cons] at hp
            rcases hp with rfl | rfl | hp
            · exact Nat.ne_of_gt lTae'
            · exact Nat.ne_of_gt lTae
            · exact hae p hp
          · rw [hft]
            exact Eds.app (.cons (.tail _ (.head _)) (.head _) hx hq2 .nil) (hes.sub fun p hp => .tail _ (.tail _ hp))
      · rintro m nx h₁₆ tk₁₆ ⟨ce, es, tl2, u, rfl, htl2, hae, hes, rfl⟩ F₁₆ N₁₆
        replace F₁₆ : Fr s.heap s.heap.objs.size h₁₆ _ := F₁₆
        replace N₁₆ : News s.heap s.heap.objs.size h₁₆ _ := N₁₆
        (try clear F₁₅); (try clear N₁₅); (try clear htl)
        try dsimp only
        repeat' (first | ((fail_if_success (with_reducible show wpAny _ _ (exec (Stmt.For _ _ _ _ _) _) _ _ _)); (fail_if_success (with_reducible show wpAny _ _ (compareOp _ (Value.ref _) (Value.ref _)) _ _ _)); (fail_if_success (with_reducible show wpAny _ _ (call (Value.ref _) _) _ _ _)); (fail_if_success (with_reducible show wpAny _ _ (binaryOp Operator.Add (Value.ref _) (Value.ref _)) _ _ _)); (fail_if_success (with_reducible show wpAny _ _ (inplaceOp Operator.Add (Value.ref _) (Value.ref _)) _ _ _)); (fail_if_success (with_reducible show wpAny _ _ (subscriptTail _ _ _ _) _ _ _)); (fail_if_success (with_reducible show wpAny _ _ (call (Value.builtin "len") _) _ _ _)); walk1; (try dsimp only)) | fail "x")
        refine for_k ?_
        repeat' (first | ((fail_if_success (with_reducible show wpAny _ _ (compareOp _ (Value.ref _) (Value.ref _)) _ _ _)); (fail_if_success (with_reducible show wpAny _ _ (call (Value.ref _) _) _ _ _)); (fail_if_success (with_reducible show wpAny _ _ (binaryOp Operator.Add (Value.ref _) (Value.ref _)) _ _ _)); (fail_if_success (with_reducible show wpAny _ _ (inplaceOp Operator.Add (Value.ref _) (Value.ref _)) _ _ _)); (fail_if_success (with_reducible show wpAny _ _ (subscriptTail _ _ _ _) _ _ _)); (fail_if_success (with_reducible show wpAny _ _ (call (Value.builtin "len") _) _ _ _)); walk1; (try dsimp only)) | fail "x")
        rename Fr _ _ _ _ => F₁₇
        rename News _ _ _ _ => N₁₇
        obtain ⟨u₁₇, F₁₈⟩ : ∃ u : Str → Option Value, Fr s.heap s.heap.objs.size h₁₆ (fun y => if y = Str.ofString "ends" then some (.ref ae) else if y = Str.ofString "wanted" then some (.ref aw) else if y = Str.ofString "seen" then some (.ref as) else u y) := ⟨_, pick3 (x1 := Str.ofString "ends") (x2 := Str.ofString "wanted") (x3 := Str.ofString "seen") F₁₇ rfl rfl rfl⟩
        have hess : Eds tl2 S ((fr.take fs.length).map (·.2)) es := hes
        refine for_list (vs := fs) (LpO aw as ae ((ae, W.listOf es.toArray ce) :: (aw, W.listOf ws.toArray cw) :: (as, W.listOf ss.toArray cs) :: (af, W.listOf fs.toArray cf) :: tl2)) rfl F₁₈ N₁₇ ⟨rfl, _, rfl⟩ ?_ ?_ ?_
        · rintro i m nx h ⟨rfl, u, rfl⟩ F N
          exact ⟨_, N.get (.tail _ (.tail _ (.tail _ (.head _)))), rfl, _, rfl⟩
        · rintro i v m nx h₁₉ tk₁₉ oI hv ⟨rfl, u, rfl⟩ hnI F₁₉ N₁₉
          (try clear F₁₈); (try clear F₁₇); (try clear N₁₇)
          obtain ⟨q, tq, uq, x0, rfl, hq, hm⟩ := hfs.at hv
          obtain ⟨hq1, hq2⟩ := hfm q (List.mem_of_getElem? hq)
          simp only [List.cons_append] at N₁₉
          refine unpackN_ F₁₉ N₁₉ ⟨_, N₁₉.get (.tail _ (.tail _ (.tail _ (.tail _ (List.mem_append_left _ (htl2 _ hm)))))), rfl, _, rfl⟩ rfl rfl rfl ?_
          intro h₂₀ F₂₀ N₂₀
          (try clear F₁₉); (try clear N₁₉)
          replace F₂₀ : Fr s.heap s.heap.objs.size h₂₀ _ := F₂₀
          replace N₂₀ : News s.heap s.heap.objs.size h₂₀ _ := N₂₀
          repeat' (first | ((fail_if_success (with_reducible show wpAny _ _ (compareOp _ (Value.ref _) (Value.ref _)) _ _ _)); (fail_if_success (with_reducible show wpAny _ _ (call (Value.ref _) _) _ _ _)); (fail_if_success (with_reducible show wpAny _ _ (binaryOp Operator.Add (Value.ref _) (Value.ref _)) _ _ _)); (fail_if_success (with_reducible show wpAny _ _ (inplaceOp Operator.Add (Value.ref _) (Value.ref _)) _ _ _)); (fail_if_success (with_reducible show wpAny _ _ (subscriptTail _ _ _ _) _ _ _)); (fail_if_success (with_reducible show wpAny _ _ (call (Value.builtin "len") _) _ _ _)); walk1; (try dsimp only)) | fail "x")
          rename Fr _ _ _ _ => F₂₁
          rename News _ _ _ _ => N₂₁
          refine' kmk_slice_ints (s := ⟨_, _, _, _, _⟩) (l := aw) (vs := ws) (ns := nats WN) (lo := none) (hi := some (q.1 : Int)) (ms := nats (WN.take q.1)) ?sn1 ?sn2 ?sn3 ?sn4 ?sn5 hws ?sn6 rfl ?_ ?sn7 ?sn8 ?sn9
          case sn1 => exact F₂₁
          case sn2 => exact N₂₁
          case sn3 => exact ⟨_, N₂₁.get (.tail _ (.head _)), rfl, _, rfl⟩
          case sn4 => exact IsPart.none
          case sn5 => exact IsPart.int _ _
          case sn6 => exact ints_upto hws q.1
          case sn7 => with_unfolding_all rfl
          case sn8 => intro _; with_unfolding_all rfl
          case sn9 => rw [List.size_toArray, hws.length, nats_length, sizeLine_eq]; omega
          intro D₂₂ ws₂₂ h₂₂ F₂₂ N₂₂ _ hi₂₂ _ _
          (try clear F₂₁); (try clear N₂₁); (try clear F₂₀); (try clear N₂₀)
          try dsimp only
          repeat' (first | ((fail_if_success (with_reducible show wpAny _ _ (compareOp _ (Value.ref _) (Value.ref _)) _ _ _)); (fail_if_success (with_reducible show wpAny _ _ (call (Value.ref _) _) _ _ _)); (fail_if_success (with_reducible show wpAny _ _ (binaryOp Operator.Add (Value.ref _) (Value.ref _)) _ _ _)); (fail_if_success (with_reducible show wpAny _ _ (inplaceOp Operator.Add (Value.ref _) (Value.ref _)) _ _ _)); (fail_if_success (with_reducible show wpAny _ _ (subscriptTail _ _ _ _) _ _ _)); (fail_if_success (with_reducible show wpAny _ _ (call (Value.builtin "len") _) _ _ _)); walk1; (try dsimp only)) | fail "x")
          refine signs_call (ns := WN.take q.1) (X.keeps F₂₂.keep) (T.keeps F₂₂.keep) (by show callerA.depth + 1 < 880; decide) rfl ⟨_, N₂₂.get (.head _), rfl, _, rfl⟩ hi₂₂ (fun n hn => hWlt n (List.mem_of_mem_take hn)) (by rw [List.length_take]; omega) ?_
          intro h₂₃ tk₂₃ pat tp g₂₃ hpat
          have F₂₃ := fr_grown F₂₂ g₂₃
          have N₂₃ := news_sub (news_grown N₂₂ g₂₃) (fun p hp => List.Mem.tail _ hp)
          (try clear F₂₂); (try clear N₂₂); (try clear g₂₃); (try clear hi₂₂)
          try dsimp only
          repeat' (first | ((fail_if_success (with_reducible show wpAny _ _ (compareOp _ (Value.ref _) (Value.ref _)) _ _ _)); (fail_if_success (with_reducible show wpAny _ _ (call (Value.ref _) _) _ _ _)); (fail_if_success (with_reducible show wpAny _ _ (binaryOp Operator.Add (Value.ref _) (Value.ref _)) _ _ _)); (fail_if_success (with_reducible show wpAny _ _ (inplaceOp Operator.Add (Value.ref _) (Value.ref _)) _ _ _)); (fail_if_success (with_reducible show wpAny _ _ (subscriptTail _ _ _ _) _ _ _)); (fail_if_success (with_reducible show wpAny _ _ (call (Value.builtin "len") _) _ _ _)); walk1; (try dsimp only)) | fail "x")
          rename Fr _ _ _ _ => F₂₄
          rename News _ _ _ _ => N₂₄
          refine' kmk_slice_ints (s := ⟨_, _, _, _, _⟩) (l := aw) (vs := ws) (ns := nats WN) (lo := none) (hi := some (q.1 : Int)) (ms := nats (WN.take q.1)) ?so1 ?so2 ?so3 ?so4 ?so5 hws ?so6 rfl ?_ ?so7 ?so8 ?so9
          case so1 => exact F₂₄
          case so2 => exact N₂₄
          case so3 => exact ⟨_, N₂₄.get (.tail _ (.head _)), rfl, _, rfl⟩
          case so4 => exact IsPart.none
          case so5 => exact IsPart.int _ _
          case so6 => exact ints_upto hws q.1
          case so7 => with_unfolding_all rfl
          case so8 => intro _; with_unfolding_all rfl
          case so9 => rw [List.size_toArray, hws.length, nats_length, sizeLine_eq]; omega
          intro D₂₅ ws₂₅ h₂₅ F₂₅ N₂₅ _ hi₂₅ _ _
          (try clear F₂₄); (try clear N₂₄); (try clear F₂₃); (try clear N₂₃)
          try dsimp only
          repeat' (first | ((fail_if_success (with_reducible show wpAny _ _ (compareOp _ (Value.ref _) (Value.ref _)) _ _ _)); (fail_if_success (with_reducible show wpAny _ _ (call (Value.ref _) _) _ _ _)); (fail_if_success (with_reducible show wpAny _ _ (binaryOp Operator.Add (Value.ref _) (Value.ref _)) _ _ _)); (fail_if_success (with_reducible show wpAny _ _ (inplaceOp Operator.Add (Value.ref _) (Value.ref _)) _ _ _)); (fail_if_success (with_reducible show wpAny _ _ (subscriptTail _ _ _ _) _ _ _)); (fail_if_success (with_reducible show wpAny _ _ (call (Value.builtin "len") _) _ _ _)); walk1; (try dsimp only)) | fail "x")
          refine reached_call (W := WN.take q.1) (S := S) (X.keeps F₂₅.keep) (T.keeps F₂₅.keep) (by show callerA.depth + 1 < 880; decide) rfl (by simp only [units_deeper]; decide) ⟨_, N₂₅.get (.head _), rfl, _, rfl⟩ hi₂₅ ⟨_, N₂₅.get (.tail _ (.tail _ (.tail _ (.head _)))), rfl, _, rfl⟩ hss (fun n hn => hWlt n (List.mem_of_mem_take hn)) hSlt (by rw [List.length_take]; omega) (by omega) ?_
          intro h₂₆ tk₂₆ r cr rs tlr g₂₆ hr er etr hrs
          have F₂₆ := fr_grown F₂₅ g₂₆
          have N₂₆ := news_join F₂₅ (news_sub (news_grown N₂₅ g₂₆) (fun p hp => List.Mem.tail _ hp)) (more := (r, W.listOf rs.toArray cr) :: tlr) (fun p hp => by
            rcases List.mem_cons.mp hp with rfl | hp
            · exact ⟨er, hr⟩
            · exact etr p hp)
          (try clear F₂₅); (try clear N₂₅); (try clear g₂₆); (try clear hi₂₅); (try clear er); (try clear hr); (try clear etr)
          obtain ⟨LG2, hLG2⟩ : ∃ LG2, LG2 = (((ae, W.listOf es.toArray ce) :: (aw, W.listOf ws.toArray cw) :: (as, W.listOf ss.toArray cs) :: (af, W.listOf fs.toArray cf) :: (tl2 ++ [(h₁₆.objs.size, oI)])) ++ (r, W.listOf rs.toArray cr) :: tlr : List (Addr × Obj)) := ⟨_, rfl⟩
          rw [← hLG2] at N₂₆
          have hgE : (ae, W.listOf es.toArray ce) ∈ LG2 := by rw [hLG2]; simp
          have hgR : (r, W.listOf rs.toArray cr) ∈ LG2 := by rw [hLG2]; simp
          have hgT : ∀ p ∈ tl2, p ∈ LG2 := fun p hp => by rw [hLG2]; simp [hp]
          have hgP : ∀ p ∈ tlr, p ∈ LG2 := fun p hp => by rw [hLG2]; simp [hp]
          have hgO : ∀ p ∈ ((ae, W.listOf es.toArray ce) :: (aw, W.listOf ws.toArray cw) :: (as, W.listOf ss.toArray cs) :: (af, W.listOf fs.toArray cf) :: tl2) ++ [(h₁₆.objs.size, oI)], p ∈ LG2 := fun p hp => by
            rw [hLG2]
            simp only [List.mem_append, List.mem_cons, List.not_mem_nil, or_false] at hp ⊢
            rcases hp with (h | h | h | h | h) | h <;> simp [h]
          try dsimp only
          repeat' (first | ((fail_if_success (with_reducible show wpAny _ _ (exec (Stmt.For _ _ _ _ _) _) _ _ _)); (fail_if_success (with_reducible show wpAny _ _ (compareOp _ (Value.ref _) (Value.ref _)) _ _ _)); (fail_if_success (with_reducible show wpAny _ _ (call (Value.ref _) _) _ _ _)); (fail_if_success (with_reducible show wpAny _ _ (binaryOp Operator.Add (Value.ref _) (Value.ref _)) _ _ _)); (fail_if_success (with_reducible show wpAny _ _ (inplaceOp Operator.Add (Value.ref _) (Value.ref _)) _ _ _)); (fail_if_success (with_reducible show wpAny _ _ (subscriptTail _ _ _ _) _ _ _)); (fail_if_success (with_reducible show wpAny _ _ (call (Value.builtin "len") _) _ _ _)); walk1; (try dsimp only)) | fail "x")
          refine for_k ?_
          repeat' (first | ((fail_if_success (with_reducible show wpAny _ _ (compareOp _ (Value.ref _) (Value.ref _)) _ _ _)); (fail_if_success (with_reducible show wpAny _ _ (call (Value.ref _) _) _ _ _)); (fail_if_success (with_reducible show wpAny _ _ (binaryOp Operator.Add (Value.ref _) (Value.ref _)) _ _ _)); (fail_if_success (with_reducible show wpAny _ _ (inplaceOp Operator.Add (Value.ref _) (Value.ref _)) _ _ _)); (fail_if_success (with_reducible show wpAny _ _ (subscriptTail _ _ _ _) _ _ _)); (fail_if_success (with_reducible show wpAny _ _ (call (Value.builtin "len") _) _ _ _)); walk1; (try dsimp only)) | fail "x")
          rename Fr _ _ _ _ => F₂₇
          rename News _ _ _ _ => N₂₇
          obtain ⟨u₂₇, F₂₈⟩ : ∃ u : Str → Option Value, Fr s.heap s.heap.objs.size _ (fun y => if y = Str.ofString "pattern" then some (.str pat tp) else if y = Str.ofString "places" then some (.ref r) else if y = Str.ofString "ends" then some (.ref ae) else if y = Str.ofString "wanted" then some (.ref aw) else if y = Str.ofString "seen" then some (.ref as) else u y) := ⟨_, pick5 (x1 := Str.ofString "pattern") (x2 := Str.ofString "places") (x3 := Str.ofString "ends") (x4 := Str.ofString "wanted") (x5 := Str.ofString "seen") F₂₇ rfl rfl rfl rfl rfl⟩
          refine for_list (vs := es) (LpI pat tp r aw as ae LG2) rfl F₂₈ N₂₇ ⟨rfl, _, rfl⟩ ?_ ?_ ?_
          · rintro j m nx h ⟨rfl, u, rfl⟩ F N
            exact ⟨_, N.get hgE, rfl, _, rfl⟩
          · rintro j v m nx h₂₉ tk₂₉ oJ hv ⟨hnx, u, rfl⟩ hnJ F₂₉ N₂₉
            subst hnx
            (try clear F₂₈); (try clear F₂₇); (try clear N₂₇); (try clear F₂₆); (try clear N₂₆)
            obtain ⟨k, tk', uk, wx, x, a', b', rfl, hma, hmb, hcx, hkS⟩ := hess.at hv
            refine unpackN_ F₂₉ N₂₉ ⟨_, N₂₉.get (List.mem_append_left _ (hgT _ hmb)), rfl, _, rfl⟩ rfl rfl rfl ?_
            intro h₃₀ F₃₀ N₃₀
            (try clear F₂₉); (try clear N₂₉)
            replace F₃₀ : Fr s.heap s.heap.objs.size h₃₀ _ := F₃₀
            replace N₃₀ : News s.heap s.heap.objs.size h₃₀ _ := N₃₀
            repeat' (first | ((fail_if_success (with_reducible show wpAny _ _ (compareOp _ (Value.ref _) (Value.ref _)) _ _ _)); (fail_if_success (with_reducible show wpAny _ _ (call (Value.ref _) _) _ _ _)); (fail_if_success (with_reducible show wpAny _ _ (binaryOp Operator.Add (Value.ref _) (Value.ref _)) _ _ _)); (fail_if_success (with_reducible show wpAny _ _ (inplaceOp Operator.Add (Value.ref _) (Value.ref _)) _ _ _)); (fail_if_success (with_reducible show wpAny _ _ (subscriptTail _ _ _ _) _ _ _)); (fail_if_success (with_reducible show wpAny _ _ (call (Value.builtin "len") _) _ _ _)); walk1; (try dsimp only)) | fail "x")
            rename Fr _ _ _ _ => F₃₁
            rename News _ _ _ _ => N₃₁
            refine ell_call (X.keeps F₃₁.keep) (T.keeps F₃₁.keep) (by show callerA.depth + 1 < 880; decide) rfl (text_len hpat hWlt (by omega)) (text_len hcx hSlt (by omega)) ?_
            intro h₃₂ tk₃₂ bb g₃₂ hbb
            have F₃₂ := fr_grown F₃₁ g₃₂
            have N₃₂ := news_grown N₃₁ g₃₂
            (try clear F₃₁); (try clear N₃₁); (try clear F₃₀); (try clear N₃₀); (try clear g₃₂)
            try dsimp only
            repeat' (first | ((fail_if_success (with_reducible show wpAny _ _ (compareOp _ (Value.ref _) (Value.ref _)) _ _ _)); (fail_if_success (with_reducible show wpAny _ _ (call (Value.ref _) _) _ _ _)); (fail_if_success (with_reducible show wpAny _ _ (binaryOp Operator.Add (Value.ref _) (Value.ref _)) _ _ _)); (fail_if_success (with_reducible show wpAny _ _ (inplaceOp Operator.Add (Value.ref _) (Value.ref _)) _ _ _)); (fail_if_success (with_reducible show wpAny _ _ (subscriptTail _ _ _ _) _ _ _)); (fail_if_success (with_reducible show wpAny _ _ (call (Value.builtin "len") _) _ _ _)); walk1; (try dsimp only)) | fail "x")
            refine in_places (p := (k, szAt S k)) (tl := tlr) ⟨_, N₃₂.get (List.mem_append_left _ hgR), rfl, _, rfl⟩ hrs (fun y hy => N₃₂.get (List.mem_append_left _ (hgP y hy))) (N₃₂.get (List.mem_append_left _ (hgT _ hma))) (by simp only [units_in1, units_deeper, cLine]; decide) ?_
            intro rr hrr
            have hrb : rr = bb := by
              rw [Bool.eq_iff_iff, hrr, hbb, hpat, hcx]
              exact reached_spec _ _ hkS
            subst hrb
            have hj : LoopEnd s.heap s.heap.objs.size _ oJ (LpI pat tp r aw as ae nx (j + 1)) s { s with heap := h₃₂, toks := tk₃₂ } := ⟨_, _, _, nx, rfl, pick5 (x1 := Str.ofString "pattern") (x2 := Str.ofString "places") (x3 := Str.ofString "ends") (x4 := Str.ofString "wanted") (x5 := Str.ofString "seen") F₃₂ rfl rfl rfl rfl rfl, N₃₂, hnJ, rfl, _, rfl⟩
            try dsimp only
            cases rr
            · repeat' (first | ((fail_if_success (with_reducible show wpAny _ _ (compareOp _ (Value.ref _) (Value.ref _)) _ _ _)); (fail_if_success (with_reducible show wpAny _ _ (call (Value.ref _) _) _ _ _)); (fail_if_success (with_reducible show wpAny _ _ (binaryOp Operator.Add (Value.ref _) (Value.ref _)) _ _ _)); (fail_if_success (with_reducible show wpAny _ _ (inplaceOp Operator.Add (Value.ref _) (Value.ref _)) _ _ _)); (fail_if_success (with_reducible show wpAny _ _ (subscriptTail _ _ _ _) _ _ _)); (fail_if_success (with_reducible show wpAny _ _ (call (Value.builtin "len") _) _ _ _)); walk1; (try dsimp only)) | fail "x")
              exact hj
            · repeat' (first | ((fail_if_success (with_reducible show wpAny _ _ (compareOp _ (Value.ref _) (Value.ref _)) _ _ _)); (fail_if_success (with_reducible show wpAny _ _ (call (Value.ref _) _) _ _ _)); (fail_if_success (with_reducible show wpAny _ _ (binaryOp Operator.Add (Value.ref _) (Value.ref _)) _ _ _)); (fail_if_success (with_reducible show wpAny _ _ (inplaceOp Operator.Add (Value.ref _) (Value.ref _)) _ _ _)); (fail_if_success (with_reducible show wpAny _ _ (subscriptTail _ _ _ _) _ _ _)); (fail_if_success (with_reducible show wpAny _ _ (call (Value.builtin "len") _) _ _ _)); walk1; (try dsimp only)) | fail "x")
              exact hj
          · rintro m nx h₂₉ tk₂₉ ⟨hnx, u, rfl⟩ F₂₉ N₂₉
            subst hnx
            (try clear F₂₈); (try clear F₂₇); (try clear N₂₇); (try clear F₂₆); (try clear N₂₆)
            replace F₂₉ : Fr s.heap s.heap.objs.size h₂₉ _ := F₂₉
            replace N₂₉ : News s.heap s.heap.objs.size h₂₉ _ := N₂₉
            try dsimp only
            repeat' (first | ((fail_if_success (with_reducible show wpAny _ _ (compareOp _ (Value.ref _) (Value.ref _)) _ _ _)); (fail_if_success (with_reducible show wpAny _ _ (call (Value.ref _) _) _ _ _)); (fail_if_success (with_reducible show wpAny _ _ (binaryOp Operator.Add (Value.ref _) (Value.ref _)) _ _ _)); (fail_if_success (with_reducible show wpAny _ _ (inplaceOp Operator.Add (Value.ref _) (Value.ref _)) _ _ _)); (fail_if_success (with_reducible show wpAny _ _ (subscriptTail _ _ _ _) _ _ _)); (fail_if_success (with_reducible show wpAny _ _ (call (Value.builtin "len") _) _ _ _)); walk1; (try dsimp only)) | fail "x")
            exact ⟨_, _, _, (ae, W.listOf es.toArray ce) :: (aw, W.listOf ws.toArray cw) :: (as, W.listOf ss.toArray cs) :: (af, W.listOf fs.toArray cf) :: tl2, rfl, pick3 (x1 := Str.ofString "ends") (x2 := Str.ofString "wanted") (x3 := Str.ofString "seen") F₂₉ rfl rfl rfl, news_sub N₂₉ hgO, hnI, rfl, _, rfl⟩
        · rintro m nx h₁₉ tk₁₉ ⟨rfl, u, rfl⟩ F₁₉ N₁₉
          replace F₁₉ : Fr s.heap s.heap.objs.size h₁₉ _ := F₁₉
          (try clear F₁₈); (try clear F₁₇); (try clear N₁₇)
          try dsimp only
          repeat' (first | ((fail_if_success (with_reducible show wpAny _ _ (compareOp _ (Value.ref _) (Value.ref _)) _ _ _)); (fail_if_success (with_reducible show wpAny _ _ (call (Value.ref _) _) _ _ _)); (fail_if_success (with_reducible show wpAny _ _ (binaryOp Operator.Add (Value.ref _) (Value.ref _)) _ _ _)); (fail_if_success (with_reducible show wpAny _ _ (inplaceOp Operator.Add (Value.ref _) (Value.ref _)) _ _ _)); (fail_if_success (with_reducible show wpAny _ _ (subscriptTail _ _ _ _) _ _ _)); (fail_if_success (with_reducible show wpAny _ _ (call (Value.builtin "len") _) _ _ _)); walk1; (try dsimp only)) | fail "x")
          exact ⟨rfl, _, _, _, rfl, F₁₉⟩
  · rintro _ _ ⟨rfl, h, tk, m, rfl, F'⟩
    clear F
    dsimp only
    wrow_close)
end Mine
end

set_option maxRecDepth 100000 in
theorem PySem.Challenge.cw_pg0056_01_holds : PySem.Challenge.rw_pg0056_01.Holds :=
  Mine.law_holds
