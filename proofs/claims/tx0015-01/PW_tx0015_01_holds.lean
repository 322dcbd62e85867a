import PyProof.Rows.All
import Wide.All
import OpenK.AllK
import Wide.FinOn
import PySem.Challenge.RW_tx0015_01
set_option Elab.async false
set_option maxRecDepth 100000
set_option maxHeartbeats 8000000
set_option linter.all false
set_option linter.unusedVariables false
section
open PySem PySem.W PyProof.Rows
namespace Mine
set_option maxRecDepth 100000 in
set_option maxHeartbeats 8000000 in
open_top hd for PySem.Challenge.rw_tx0015_01
end Mine
end
section
namespace Mine
/-- the table that _levenshtein_distance fills (its own start of a row kept as it is) -/
def dp (c : Nat → Nat → Int) : Nat → Nat → Int
  | 0, j => 2 * (j : Int)
  | i + 1, 0 => 2 * ((i : Int) + 1)
  | i + 1, j + 1 => min (min (if j = 0 then 2 * (i : Int) else dp c (i + 1) j) (dp c i (j + 1)) + 2) (dp c i j + c i j)
termination_by i j => (i, j)

theorem dp_zero (c : Nat → Nat → Int) (j : Nat) : dp c 0 j = 2 * (j : Int) := by rw [dp]
theorem dp_succ_zero (c : Nat → Nat → Int) (i : Nat) : dp c (i + 1) 0 = 2 * ((i : Int) + 1) := by rw [dp]
theorem dp_left (c : Nat → Nat → Int) (i : Nat) : dp c i 0 = 2 * (i : Int) := by
  cases i with
  | zero => rw [dp_zero]
  | succ i => rw [dp_succ_zero]; omega
theorem dp_succ (c : Nat → Nat → Int) (i j : Nat) : dp c (i + 1) (j + 1) = min (min (if j = 0 then 2 * (i : Int) else dp c (i + 1) j) (dp c i (j + 1)) + 2) (dp c i j + c i j) := by rw [dp]

/-- sums of the first k -/
def S (h : Nat → Int) : Nat → Int
  | 0 => 0
  | k + 1 => S h k + h k

theorem S_bounds {h : Nat → Int} {n : Nat} (h0 : ∀ i, i < n → h i = 0 ∨ h i = 1) : ∀ k, k ≤ n → 0 ≤ S h k ∧ S h k ≤ (k : Int) := by
  intro k
  induction k with
  | zero => intro _; simp [S]
  | succ k ih =>
    intro hk
    have := ih (by omega)
    have := h0 k (by omega)
    simp only [S]
    omega
theorem S_mono {h : Nat → Int} {n : Nat} (h0 : ∀ i, i < n → h i = 0 ∨ h i = 1) : ∀ k l, k ≤ l → l ≤ n → S h k ≤ S h l := by
  intro k l hkl hl
  induction l with
  | zero => have : k = 0 := by omega
            subst this; exact Int.le_refl _
  | succ l ih =>
    by_cases e : k = l + 1
    · subst e; exact Int.le_refl _
    · have := ih (by omega) (by omega)
      have := h0 l (by omega)
      simp only [S]
      omega

section diag
variable {c : Nat → Nat → Int} {h : Nat → Int} {n : Nat}
theorem dp_diag_ge (h0 : ∀ i, i < n → h i = 0 ∨ h i = 1) (hd : ∀ i, i < n → c i i = h i) (ho : ∀ i j, i < n → j < n → i ≠ j → c i j = 2) :
    ∀ i j, i ≤ n → j ≤ n → S h (min i j) + 2 * (if i ≤ j then (j : Int) - i else (i : Int) - j) ≤ dp c i j := by
  intro i
  induction i with
  | zero =>
    intro j _ _
    rw [dp_zero]
    simp [S]
  | succ i ih =>
    intro j
    induction j with
    | zero =>
      intro _ _
      rw [dp_succ_zero]
      simp [S]
    | succ j jh =>
      intro hi hj
      have b := S_bounds h0
      have a1 := jh hi (by omega)
      have a2 := ih (j + 1) (by omega) hj
      have a3 := ih j (by omega) (by omega)
      rw [dp_succ]
      by_cases e : i = j
      · subst e
        have a4 := hd i (by omega)
        have a5 := h0 i (by omega)
        have s1 : S h (i + 1) = S h i + h i := rfl
        have m1 : min (i + 1) i = i := by omega
        have m2 : min i (i + 1) = i := by omega
        have m3 : min (i + 1) (i + 1) = i + 1 := by omega
        have m4 : min i i = i := by omega
        rw [m1] at a1
        rw [m2] at a2
        rw [m4] at a3
        rw [m3, s1]
        have := (b i (by omega)).1
        have := (b i (by omega)).2
        split at a1 <;> split at a2 <;> split at a3 <;> split <;> split <;> omega
      · have a4 := ho i j (by omega) (by omega) e
        by_cases l : i < j
        · have m1 : min (i + 1) j = i + 1 := by omega
          have m2 : min i (j + 1) = i := by omega
          have m3 : min (i + 1) (j + 1) = i + 1 := by omega
          have m4 : min i j = i := by omega
          have s1 : S h (i + 1) = S h i + h i := rfl
          have a5 := h0 i (by omega)
          rw [m1] at a1
          rw [m2] at a2
          rw [m4] at a3
          rw [m3]
          split at a1 <;> split at a2 <;> split at a3 <;> split <;> split <;> omega
        · have m1 : min (i + 1) j = j := by omega
          have m2 : min i (j + 1) = j + 1 := by omega
          have m3 : min (i + 1) (j + 1) = j + 1 := by omega
          have m4 : min i j = j := by omega
          have s1 : S h (j + 1) = S h j + h j := rfl
          have a5 := h0 j (by omega)
          have := (b j (by omega)).1
          have := (b j (by omega)).2
          rw [m1] at a1
          rw [m2] at a2
          rw [m4] at a3
          rw [m3]
          by_cases z : j = 0
          · subst z
            have : S h 0 = 0 := rfl
            rw [if_pos rfl]
            have d0 := dp_left c i
            split at a1 <;> split at a2 <;> split at a3 <;> split <;> omega
          · rw [if_neg z]
            split at a1 <;> split at a2 <;> split at a3 <;> split <;> omega
theorem dp_diag_le (hd : ∀ i, i < n → c i i = h i) : ∀ i, i ≤ n → dp c i i ≤ S h i := by
  intro i
  induction i with
  | zero => intro _; rw [dp_zero]; simp [S]
  | succ i ih =>
    intro hi
    have := ih (by omega)
    have := hd i (by omega)
    rw [dp_succ]
    simp only [S]
    omega
theorem dp_diag (h0 : ∀ i, i < n → h i = 0 ∨ h i = 1) (hd : ∀ i, i < n → c i i = h i) (ho : ∀ i j, i < n → j < n → i ≠ j → c i j = 2) : dp c n n = S h n := by
  have a := dp_diag_ge h0 hd ho n n (Nat.le_refl _) (Nat.le_refl _)
  have b := dp_diag_le hd n (Nat.le_refl _)
  rw [Nat.min_self, if_pos (Nat.le_refl n)] at a
  omega
end diag

section shift
variable {c : Nat → Nat → Int} {h : Nat → Int} {n : Nat}
/-- a floor under the table: rows of n + 1 signs, the k-th of the one word meets the one behind the k-th of the other -/
def flr (h : Nat → Int) (n i j : Nat) : Int :=
  if i < j then S h i + 2 * ((j : Int) - i)
  else if j = 0 then 2 * (i : Int)
  else min (S h (j - 1) + 4) (2 * ((j : Int) - (if i = n + 1 then 1 else 0))) + 2 * ((i : Int) - j)
theorem flr_lt {i j : Nat} (l : i < j) : flr h n i j = S h i + 2 * ((j : Int) - i) := by
  unfold flr; rw [if_pos l]
theorem flr_zero {i : Nat} : flr h n i 0 = 2 * (i : Int) := by
  unfold flr; rw [if_neg (by omega), if_pos rfl]
theorem flr_ge {i j : Nat} (l : j + 1 ≤ i) (k : i ≤ n) : flr h n i (j + 1) = min (S h j + 4) (2 * ((j : Int) + 1)) + 2 * ((i : Int) - (j + 1)) := by
  unfold flr; rw [if_neg (by omega), if_neg (by omega), if_neg (by omega)]
  have : (j + 1 - 1 : Nat) = j := by omega
  rw [this]; omega
theorem flr_last {j : Nat} (l : j ≤ n) : flr h n (n + 1) (j + 1) = min (S h j + 4) (2 * (j : Int)) + 2 * ((n : Int) - j) := by
  unfold flr; rw [if_neg (by omega), if_neg (by omega), if_pos rfl]
  have : (j + 1 - 1 : Nat) = j := by omega
  rw [this]; omega
theorem dp_shift_ge (h0 : ∀ i, i < n → h i = 0 ∨ h i = 1) (hd : ∀ i, i < n → c i (i + 1) = h i) (hz : 0 ≤ c n 0)
    (ho : ∀ i j, i ≤ n → j ≤ n → j ≠ i + 1 → (i ≠ n ∨ j ≠ 0) → c i j = 2) :
    ∀ i j, i ≤ n + 1 → j ≤ n + 1 → flr h n i j ≤ dp c i j := by
  intro i
  induction i with
  | zero =>
    intro j _ _
    rw [dp_zero]
    cases j with
    | zero => rw [flr_zero]; omega
    | succ j => rw [flr_lt (by omega)]; simp [S]
  | succ i ih =>
    intro j
    induction j with
    | zero =>
      intro _ _
      rw [dp_succ_zero, flr_zero]
      omega
    | succ j jh =>
      intro hi hj
      have b := S_bounds h0
      have a1 := jh hi (by omega)
      have a2 := ih (j + 1) (by omega) hj
      have a3 := ih j (by omega) (by omega)
      clear jh ih
      rw [dp_succ]
      by_cases l1 : i < j
      · -- above
        have a5 := h0 i (by omega)
        have bi := b i (by omega)
        have s1 : S h (i + 1) = S h i + h i := rfl
        have bi1 := b (i + 1) (by omega)
        rw [if_neg (by omega : ¬ j = 0)]
        rw [flr_lt (by omega)] at a2 a3 ⊢
        by_cases e : j = i + 1
        · subst e
          have a4 := hd i (by omega)
          rw [flr_ge (by omega) (by omega)] at a1
          omega
        · have a4 := ho i j (by omega) (by omega) e (.inr (by omega))
          rw [flr_lt (by omega)] at a1
          omega
      · have bj := b j (by omega)
        have l2 : i ≤ n := by omega
        have bi := b i l2
        cases j with
        | zero =>
          have s0 : S h 0 = 0 := rfl
          rw [if_pos rfl]
          rw [flr_zero] at a3
          rw [dp_left] at a1 a3 ⊢
          by_cases en : i = n
          · subst en
            rw [flr_last (by omega)]
            have a6 : flr h i i (0 + 1) ≥ 2 * (i : Int) := by
              cases i with
              | zero => rw [flr_lt (by omega)]; simp [S]
              | succ i => rw [flr_ge (by omega) (by omega)]; omega
            omega
          · have a7 := ho i 0 (by omega) (by omega) (by omega) (.inl en)
            rw [flr_ge (by omega) (by omega)]
            have a6 : flr h n i (0 + 1) ≥ 2 * (i : Int) := by
              cases i with
              | zero => rw [flr_lt (by omega)]; simp [S]
              | succ i => rw [flr_ge (by omega) (by omega)]; omega
            omega
        | succ j =>
          rw [if_neg (by omega : ¬ j + 1 = 0)]
          have a4 := ho i (j + 1) (by omega) (by omega) (by omega) (.inr (by omega))
          have s1 : S h (j + 1) = S h j + h j := rfl
          have a5 := h0 j (by omega)
          have bj0 := b j (by omega)
          rw [flr_ge (by omega) (by omega)] at a3
          by_cases e : i = j + 1
          · subst e
            rw [flr_lt (by omega)] at a2
            by_cases en : j + 1 = n
            · subst en
              rw [flr_last (by omega)] at a1 ⊢
              omega
            · rw [flr_ge (by omega) (by omega)] at a1 ⊢
              omega
          · rw [flr_ge (by omega) (by omega)] at a2
            by_cases en : i = n
            · subst en
              rw [flr_last (by omega)] at a1 ⊢
              omega
            · rw [flr_ge (by omega) (by omega)] at a1 ⊢
              omega
theorem dp_shift_le (hd : ∀ i, i < n → c i (i + 1) = h i) : ∀ i, i ≤ n → dp c i (i + 1) ≤ S h i + 2 := by
  intro i
  induction i with
  | zero => intro _; rw [dp_zero]; simp [S]
  | succ i ih =>
    intro hi
    have := ih (by omega)
    have := hd i (by omega)
    rw [dp_succ]
    simp only [S]
    omega
theorem dp_shift_last_le (hd : ∀ i, i < n → c i (i + 1) = h i) : dp c (n + 1) (n + 1) ≤ S h n + 4 := by
  have := dp_shift_le hd n (Nat.le_refl _)
  rw [dp_succ]
  omega
theorem dp_shift (h4 : 4 ≤ n) (h0 : ∀ i, i < n → h i = 0 ∨ h i = 1) (hd : ∀ i, i < n → c i (i + 1) = h i) (hz : 0 ≤ c n 0)
    (ho : ∀ i j, i ≤ n → j ≤ n → j ≠ i + 1 → (i ≠ n ∨ j ≠ 0) → c i j = 2) : dp c (n + 1) (n + 1) = S h n + 4 := by
  have a := dp_shift_ge h0 hd hz ho (n + 1) (n + 1) (Nat.le_refl _) (Nat.le_refl _)
  have b := dp_shift_last_le hd
  have d := S_bounds h0 n (Nat.le_refl _)
  unfold flr at a
  rw [if_neg (by omega : ¬ n + 1 < n + 1), if_neg (by omega : ¬ n + 1 = 0), if_pos rfl] at a
  have : (n + 1 - 1 : Nat) = n := by omega
  rw [this] at a
  omega
end shift
end Mine
end
section
open PySem PySem.W PyProof.Rows
namespace Mine
/-- what a call of a def gives, whoever calls: a plain value, the ledger as it was -/
abbrev Claim (prog : Program) (w : World) (K : Frag) (p : Program) (loose : List Str) (mean : ExcName → Option Value) (mg mb : Str → Option Value) (f : Addr) (news : List (Addr × Obj)) (pre : Prop) (vs : List Value) (R : Tok → Value) : Prop :=
  ∀ (dp un : Nat) (gd : Option (List Code)) (cn : Str) (cs : Scope) (a : Addr) (ccd : Value) (cl : List (Str × Addr)) (outer : List Env) (A₀ : Around) (base h₀ : Heap) (L : Addr) (m : Str → Option Value) (s : Shared) (Q E : Value → Shared → Prop),
    Below A₀ base outer h₀ → Fr h₀ L s.heap m → K.In h₀ → News h₀ L s.heap news → Top p loose mean mg mb h₀ → cs.kind = .function →
    pre → dp + 5 < recursionLimit → un + 40 < cLine → (∀ (t : Tok) (h' : Heap) (tk' : Nat), Fr h₀ L h' m → News h₀ L h' news → Q (R t) { s with heap := h', toks := tk' }) →
      wpAny (model prog w) (ktrTop dp un gd cn cs L a ccd cl outer) (call (.ref f) vs) Q E s
theorem cps_len (x : Str) : x.cps.toList.length = x.length := by simp [Str.length]
theorem str_ext {x y : Str} (h : x.cps.toList = y.cps.toList) : x = y := by
  cases x; cases y
  simp only [Array.toList_inj] at h
  exact congrArg _ h
theorem slice_from {x : Str} {i : Nat} (h : i ≤ x.length) : (Txt.slice x (some (i : Int)) none).cps.toList = x.cps.toList.drop i := by
  rw [slice_from_eq (b := (x.length : Int)) (by omega) (by omega) rfl]
  have e : ((x.length : Int) - (i : Int)).toNat = x.length - i := by omega
  have e2 : ((i : Nat) : Int).toNat = i := by omega
  rw [e, e2]
  show List.take (x.length - i) (x.cps.toList.drop i) = _
  rw [← cps_len, show x.cps.toList.length - i = (x.cps.toList.drop i).length by simp, List.take_length]
theorem slice_all {x : Str} : Txt.slice x none none = x := by
  apply str_ext
  have h : Txt.slice x none none = Txt.slice x (some (0 : Int)) none := by
    have h0 : ¬ ((0:Int) < 0) := by omega
    unfold Txt.slice
    have : PySem.Builtin.Str.strSliceIndices none none 1 x.length = PySem.Builtin.Str.strSliceIndices (some (0:Int)) none 1 x.length := by
      have : ¬ ((x.length:Int) < 0) := by omega
      simp [PySem.Builtin.Str.strSliceIndices]
      congr 1
    rw [this]
  rw [h]
  exact slice_from (i := 0) (by omega)
theorem slice_upto {x : Str} {j : Nat} (h0 : 0 < j) (h : j ≤ x.length) : (Txt.slice x none (some (-(j : Int)))).cps.toList = x.cps.toList.take (x.length - j) := by
  rw [slice_to_neg (by omega)]
  have e : max (0 : Int) ((x.length : Int) + -(j : Int)) = ((x.length - j : Nat) : Int) := by omega
  rw [e, eq_of_beq (slice_closes_toL (x := x) (j := ((x.length - j : Nat) : Int)) (by omega) (by omega))]
  simp
theorem item_nat {x : Str} {i : Nat} (h : i < x.length) : Txt.item x (i : Int) = ⟨#[x.cps.toList.getD i 0]⟩ := by
  rw [eq_of_beq (item_closes (x := x) (i := (i : Int)) ⟨by omega, by omega⟩)]
  simp
theorem item_neg {x : Str} {j : Nat} (h : j < x.length) {k : Int} (hk : k = -(j : Int) - 1) : Txt.item x k = ⟨#[x.cps.toList.getD (x.length - 1 - j) 0]⟩ := by
  subst hk
  rw [eq_of_beq (item_closes_neg (x := x) (i := -(j : Int) - 1) (j := -(j : Int) - 1 + x.length) (by omega) (by omega) rfl)]
  have : ((-(j : Int) - 1 + x.length)).toNat = x.length - 1 - j := by omega
  rw [this]
  simp
theorem one_inj {a b : Nat} : ((⟨#[a]⟩ : Str) == ⟨#[b]⟩) = decide (a = b) := by
  by_cases h : a = b
  · subst h; simp
  · rw [decide_eq_false h]
    rw [beq_eq_false_iff_ne]
    intro e
    exact h (by simpa using e)
/-- a map with the names of ps written over it -/
def upd (m : Str → Option Value) : List (Str × Value) → Str → Option Value
  | [] => m
  | p :: r => fun z => if z = p.1 then some p.2 else upd m r z
theorem upd_kstB {m₀ u : Str → Option Value} : ∀ ps, kstB (fun z => if ([] : List Str).contains z then u z else m₀ z) ps = upd m₀ ps
  | [] => by funext z; simp [kstB, upd]
  | p :: r => by funext z; simp only [kstB, upd]; rw [upd_kstB r]
theorem upd_of {m₀ m' : Str → Option Value} : ∀ {ps : List (Str × Value)}, (∀ z, (∀ p ∈ ps, z ≠ p.1) → m' z = m₀ z) → (∀ p ∈ ps, m' p.1 = some p.2) → m' = upd m₀ ps := by
  intro ps h1 h2
  funext z
  have : ∀ qs : List (Str × Value), (∀ q ∈ qs, q ∈ ps) → (m' z = upd m₀ qs z) ∨ (∀ q ∈ qs, z ≠ q.1) := by
    intro qs
    induction qs with
    | nil => intro _; exact .inr (fun _ h => nomatch h)
    | cons q r ih =>
      intro hq
      by_cases e : z = q.1
      · left
        simp only [upd, if_pos e]
        rw [e]; exact h2 q (hq q (.head _))
      · rcases ih (fun x hx => hq x (.tail _ hx)) with a | a
        · left; simp only [upd, if_neg e]; exact a
        · right; intro x hx
          rcases List.mem_cons.mp hx with rfl | hx
          · exact e
          · exact a x hx
  rcases this ps (fun _ h => h) with a | a
  · exact a
  · have : ∀ qs : List (Str × Value), (∀ q ∈ qs, z ≠ q.1) → upd m₀ qs z = m₀ z := by
      intro qs
      induction qs with
      | nil => intro _; rfl
      | cons q r ih => intro hq; simp only [upd, if_neg (hq q (.head _))]; exact ih fun x hx => hq x (.tail _ hx)
    rw [this ps a]; exact h1 z a

/-- the end of a turn of a while -/
def WEnd {σ : Type} (h₀ : Heap) (L : Addr) (s : Shared) (Led : σ → List (Addr × Obj)) (ps : σ → List (Str × Value)) (m₀ : Str → Option Value) (P : σ → Prop) (μ : σ → Nat) (c : σ) (s₂ : Shared) : Prop :=
  ∃ (c' : σ) (h' : Heap) (tk : Nat) (m' : Str → Option Value), s₂ = { s with heap := h', toks := tk } ∧ Fr h₀ L h' m' ∧ (∀ z, (∀ p ∈ ps c', z ≠ p.1) → m' z = m₀ z) ∧ (∀ p ∈ ps c', m' p.1 = some p.2) ∧ News h₀ L h' (Led c') ∧ P c' ∧ μ c' < μ c
def WPost {σ : Type} (h₀ : Heap) (L : Addr) (s : Shared) (Led : σ → List (Addr × Obj)) (ps : σ → List (Str × Value)) (m₀ : Str → Option Value) (P : σ → Prop) (μ : σ → Nat) (Q : Flow → Shared → Prop) (c : σ) (f : Flow) (s₂ : Shared) : Prop :=
  match f with
  | .ret v => Q (.ret v) s₂
  | .brk => Q .next s₂
  | _ => WEnd h₀ L s Led ps m₀ P μ c s₂
theorem wend {σ : Type} {h₀ : Heap} {L : Addr} {s : Shared} {Led : σ → List (Addr × Obj)} {ps : σ → List (Str × Value)} {m₀ m' : Str → Option Value} {P : σ → Prop} {μ : σ → Nat} {c : σ} {h' : Heap} {tk : Nat} {news' : List (Addr × Obj)} (c' : σ)
    (F : Fr h₀ L h' m') (N : News h₀ L h' news') (hm : ∀ z, (∀ p ∈ ps c', z ≠ p.1) → m' z = m₀ z) (hk : ∀ p ∈ ps c', m' p.1 = some p.2) (hn : ∀ p ∈ Led c', p ∈ news') (hp : P c') (hmu : μ c' < μ c) :
    WEnd h₀ L s Led ps m₀ P μ c { s with heap := h', toks := tk } :=
  ⟨c', h', tk, m', rfl, F, hm, hk, fun p hp => N p (hn p hp), hp, hmu⟩
theorem while_ {σ : Type} {prog : Program} {w : World} {A : Around} {E : Value → Shared → Prop} {Q : Flow → Shared → Prop} {s : Shared} {env : Env} {h₀ : Heap} {L : Addr} {test : Expr} {body : List Stmt} {pos : Pos} {m₀ : Str → Option Value} {news : List (Addr × Obj)}
    (Led : σ → List (Addr × Obj)) (ps : σ → List (Str × Value)) (P : σ → Prop) (μ : σ → Nat) (c₀ : σ)
    (F : Fr h₀ L s.heap m₀) (N : News h₀ L s.heap news) (hn : ∀ p ∈ Led c₀, p ∈ news) (hk : ∀ p ∈ ps c₀, m₀ p.1 = some p.2) (hp : P c₀)
    (turn : ∀ (c : σ) h tk, P c → Fr h₀ L h (upd m₀ (ps c)) → News h₀ L h (Led c) →
      wpAny (model prog w) A (isTrue test env (eval test env)) (fun b s₂ =>
        if b = true then wpAny (model prog w) A (execs body env) (WPost h₀ L s Led ps m₀ P μ Q c) E s₂ else Q .next s₂) E { s with heap := h, toks := tk })
    (hE : PassesOwn (model prog w) A env E := by passes_own) :
    wpAny (model prog w) A (exec (.While test body [] pos) env) Q E s := by
  refine ksw_while Led ps (fun _ => True) [] P μ c₀ F (fun p hp => N p (hn p hp)) trivial hk hp ?_ hE
  intro c u h tk _ hP F' N'
  rw [upd_kstB] at F'
  refine wpAny_mono (turn c h tk hP F' N') (fun b s₂ q => ?_) fun _ _ x => x
  cases b with
  | false => simpa using q
  | true =>
    simp only [if_true] at q ⊢
    refine wpAny_mono q (fun f s₃ q => ?_) fun _ _ x => x
    have fin : WEnd h₀ L s Led ps m₀ P μ c s₃ → KswEnd h₀ L s Led ps (fun _ => True) [] m₀ P μ c s₃ := by
      rintro ⟨c', h', tk', m', rfl, F', hm, hk, N', hP', hmu⟩
      exact ksw_end c' F' N' (fun _ h => h) trivial hk (fun z hz _ => hm z hz) hP' hmu
    cases f with
    | ret v => exact q
    | brk => exact q
    | next => exact fin q
    | cont => exact fin q
/-- what stands behind a statement, told once for all its ways: names stored, the ledger as it was -/
theorem cutW {σ : Type} {M : Model} {A : Around} {E : Value → Shared → Prop} {Q : Flow → Shared → Prop} {s : Shared} {t : Sem Flow} {h₀ : Heap} {L : Addr} {m : Str → Option Value} {news : List (Addr × Obj)} (ps : σ → List (Str × Value)) (P : σ → Prop)
    (_F : Fr h₀ L s.heap m) (_N : News h₀ L s.heap news)
    (h1 : ∀ R : Flow → Shared → Prop, (∀ (c : σ) (h' : Heap) (tk : Nat) (m' : Str → Option Value), P c → Fr h₀ L h' m' → (∀ z, (∀ p ∈ ps c, z ≠ p.1) → m' z = m z) → (∀ p ∈ ps c, m' p.1 = some p.2) → News h₀ L h' news → R .next { s with heap := h', toks := tk }) → wpAny M A t R E s)
    (h2 : ∀ c h' tk, P c → Fr h₀ L h' (upd m (ps c)) → News h₀ L h' news → Q .next { s with heap := h', toks := tk }) : wpAny M A t Q E s :=
  h1 Q fun c h' tk m' hP F' hm hk N' => h2 c h' tk hP (upd_of hm hk ▸ F') N'
end Mine
namespace Mine
theorem last_more {a b : List Nat} {n j : Nat} (ha : a.length = n) (hb : b.length = n) (hj : j < n) (hd : a.drop (n - j) = b.drop (n - j)) (he : a.getD (n - 1 - j) 0 = b.getD (n - 1 - j) 0) (h0 : a.getD 0 0 ≠ b.getD 0 0) :
    j + 1 < n ∧ a.drop (n - (j + 1)) = b.drop (n - (j + 1)) := by
  have e : n - (j + 1) + 1 = n - j := by omega
  have e2 : n - 1 - j = n - (j + 1) := by omega
  rw [e2] at he
  have i1 : n - (j + 1) < a.length := by omega
  have i2 : n - (j + 1) < b.length := by omega
  have key : a.drop (n - (j + 1)) = b.drop (n - (j + 1)) := by
    rw [List.drop_eq_getElem_cons i1, List.drop_eq_getElem_cons i2, e, hd]
    congr 1
    simpa [List.getD_eq_getElem?_getD, List.getElem?_eq_getElem i1, List.getElem?_eq_getElem i2] using he
  refine ⟨?_, key⟩
  by_cases h : j + 1 < n
  · exact h
  · exfalso
    have z : n - (j + 1) = 0 := by omega
    rw [z] at he
    exact h0 he
end Mine
end
section
open PySem PySem.W PyProof.Rows
namespace Mine
/-- the end of a turn of a for over a range -/
def FEnd {σ : Type} (h₀ : Heap) (L : Addr) (s : Shared) (Led : σ → List (Addr × Obj)) (ps : σ → List (Str × Value)) (x : Str) (stored : List Str) (m₀ : Str → Option Value) (P : Nat → σ → Prop) (own : List (Addr × Obj)) (adr : List Addr) (i : Nat) (s₂ : Shared) : Prop :=
  ∃ (c' : σ) (h' : Heap) (tk : Nat) (m' : Str → Option Value) (news' : List (Addr × Obj)), s₂ = { s with heap := h', toks := tk } ∧ Fr h₀ L h' m' ∧ News h₀ L h' news' ∧ (∀ p ∈ Led c', p ∈ news') ∧ (∀ p ∈ own, p ∈ news') ∧ (Led c').map (·.1) = adr ∧ (∀ p ∈ ps c', m' p.1 = some p.2) ∧ (∀ z, z ≠ x → (∀ p ∈ ps c', z ≠ p.1) → stored.contains z = false → m' z = m₀ z) ∧ P (i + 1) c'
def FPost {σ : Type} (h₀ : Heap) (L : Addr) (s : Shared) (Led : σ → List (Addr × Obj)) (ps : σ → List (Str × Value)) (x : Str) (stored : List Str) (m₀ : Str → Option Value) (P : Nat → σ → Prop) (own : List (Addr × Obj)) (adr : List Addr) (i : Nat) (Q : Flow → Shared → Prop) (f : Flow) (s₂ : Shared) : Prop :=
  match f with
  | .ret v => Q (.ret v) s₂
  | .brk => Q .next s₂
  | _ => FEnd h₀ L s Led ps x stored m₀ P own adr i s₂
theorem fend {σ : Type} {h₀ : Heap} {L : Addr} {s : Shared} {Led : σ → List (Addr × Obj)} {ps : σ → List (Str × Value)} {x : Str} {stored : List Str} {m₀ m' : Str → Option Value} {P : Nat → σ → Prop} {own : List (Addr × Obj)} {adr : List Addr} {i : Nat} {h' : Heap} {tk : Nat} {news' : List (Addr × Obj)} (c' : σ)
    (F : Fr h₀ L h' m') (N : News h₀ L h' news') (hn : ∀ p ∈ Led c', p ∈ news') (ho : ∀ p ∈ own, p ∈ news') (ha : (Led c').map (·.1) = adr) (hk : ∀ p ∈ ps c', m' p.1 = some p.2) (hm : ∀ z, z ≠ x → (∀ p ∈ ps c', z ≠ p.1) → stored.contains z = false → m' z = m₀ z) (hp : P (i + 1) c') :
    FEnd h₀ L s Led ps x stored m₀ P own adr i { s with heap := h', toks := tk } := ⟨c', h', tk, m', news', rfl, F, N, hn, ho, ha, hk, hm, hp⟩
theorem updOf {ps : List (Str × Value)} {f : Str → Option Value} : kstB f ps = upd f ps := by
  induction ps with
  | nil => rfl
  | cons p r ih => funext z; simp only [kstB, upd]; rw [ih]
theorem for_range {σ : Type} {prog : Program} {w : World} {A : Around} {E : Value → Shared → Prop} {Q : Flow → Shared → Prop} {s : Shared} {env : Env} {h₀ : Heap} {x : Str} {body : List Stmt} {m₀ : Str → Option Value} {news : List (Addr × Obj)} {r : Addr} {a₀ b₀ : Int} {t₀ u₀ v₀ : Tok} {n : Nat}
    (Led : σ → List (Addr × Obj)) (ps : σ → List (Str × Value)) (stored : List Str) (P : Nat → σ → Prop) (c₀ : σ)
    (hh : A.handled = none) (hr : IsRange s.heap r a₀ b₀ 1 t₀ u₀ v₀) (hsmall : Builtin.Range.small a₀ b₀ 1 = true) (hn : Builtin.Range.rangeSize a₀ b₀ 1 = (n : Int)) (F : Fr h₀ env.locals s.heap m₀) (N : News h₀ env.locals s.heap news)
    (hl : ∀ p ∈ Led c₀, p ∈ news) (hk : ∀ p ∈ ps c₀, m₀ p.1 = some p.2) (hp : P 0 c₀)
    (turn : ∀ (c : σ) (i : Nat) t (u : Str → Option Value) h tk own, i < n → OwnOff own ((Led c₀).map (·.1)) → P i c →
      Fr h₀ env.locals h (fun y => if y = x then some (.int (a₀ + (i : Int)) t) else upd (fun z => if stored.contains z then u z else m₀ z) (ps c) y) → News h₀ env.locals h (Led c ++ own) →
      wpAny (model prog w) A (execs body env) (FPost h₀ env.locals { s with heap := h, toks := tk } Led ps x stored m₀ P own ((Led c₀).map (·.1)) i Q) E { s with heap := h, toks := tk })
    (done : ∀ (c : σ) (u : Str → Option Value) h tk, P n c → Fr h₀ env.locals h (fun y => if y = x then u y else upd (fun z => if stored.contains z then u z else m₀ z) (ps c) y) → News h₀ env.locals h (Led c) → Q .next { s with heap := h, toks := tk }) :
    wpAny (model prog w) A (pyIter (.ref r)) (fun it s₂ => LoopAtV prog w A h₀ env x body Q E it s₂) E s := by
  refine kst_range Led ps (fun _ => True) stored (fun pre c => P pre.length c) c₀ hh hr hsmall hn F (fun p hp => N p (hl p hp)) trivial hk hp ?_ ?_
  · intro c pre k t u h tk own hk' hlt hoff _ hP F' N'
    subst hk'
    rw [updOf] at F'
    refine wpAny_mono (turn c pre.length t u h tk own hlt hoff hP F' N') (fun f s₂ q => ?_) fun _ _ e => e
    have up : FEnd h₀ env.locals { s with heap := h, toks := tk } Led ps x stored m₀ P own ((Led c₀).map (·.1)) pre.length s₂ →
        InvEndN h₀ env.locals (KstS Led ps (fun _ => True) x stored m₀ (fun pre c => P pre.length c) (pre ++ [a₀ + (pre.length : Int)])) own ((Led c₀).map (·.1)) { s with heap := h, toks := tk } s₂ := by
      rintro ⟨c', h', tk', m', news', e, F', N', hn', ho, ha, hk, hm, hp⟩
      refine ⟨h', tk', m', news', Led c', e, F', N', hn', ho, ha, c', rfl, trivial, hk, hm, ?_⟩
      simpa using hp
    cases f with
    | ret v => exact q
    | brk => exact q
    | next => exact up q
    | cont => exact up q
  · intro c u h tk _ hP F' N'
    rw [updOf] at F'
    rw [rangeKs_length] at hP
    exact done c u h tk hP F' N'

theorem range_len (n : Nat) : Builtin.Range.rangeSize 0 (n : Int) 1 = (n : Int) := by rw [rangeSize_nat]; simp
theorem for_range0 {σ : Type} {prog : Program} {w : World} {A : Around} {E : Value → Shared → Prop} {Q : Flow → Shared → Prop} {s : Shared} {env : Env} {h₀ : Heap} {x : Str} {body : List Stmt} {m₀ : Str → Option Value} {news : List (Addr × Obj)} {r : Addr} {n : Nat} {t₀ u₀ v₀ : Tok}
    (Led : σ → List (Addr × Obj)) (ps : σ → List (Str × Value)) (stored : List Str) (P : Nat → σ → Prop) (c₀ : σ)
    (hh : A.handled = none) (hr : IsRange s.heap r 0 (n : Int) 1 t₀ u₀ v₀) (hz : n ≤ 2 ^ 24) (F : Fr h₀ env.locals s.heap m₀) (N : News h₀ env.locals s.heap news)
    (hl : ∀ p ∈ Led c₀, p ∈ news) (hk : ∀ p ∈ ps c₀, m₀ p.1 = some p.2) (hp : P 0 c₀)
    (turn : ∀ (c : σ) (i : Nat) t (u : Str → Option Value) h tk own, i < n → OwnOff own ((Led c₀).map (·.1)) → P i c →
      Fr h₀ env.locals h (fun y => if y = x then some (.int (i : Int) t) else upd (fun z => if stored.contains z then u z else m₀ z) (ps c) y) → News h₀ env.locals h (Led c ++ own) →
      wpAny (model prog w) A (execs body env) (FPost h₀ env.locals { s with heap := h, toks := tk } Led ps x stored m₀ P own ((Led c₀).map (·.1)) i Q) E { s with heap := h, toks := tk })
    (done : ∀ (c : σ) (u : Str → Option Value) h tk, P n c → Fr h₀ env.locals h (fun y => if y = x then u y else upd (fun z => if stored.contains z then u z else m₀ z) (ps c) y) → News h₀ env.locals h (Led c) → Q .next { s with heap := h, toks := tk }) :
    wpAny (model prog w) A (pyIter (.ref r)) (fun it s₂ => LoopAtV prog w A h₀ env x body Q E it s₂) E s :=
  for_range Led ps stored P c₀ hh hr (small_one (by omega) (by omega) (by omega) (by omega)) (range_len n) F N hl hk hp
    (fun c i t u h tk own hi ho hP F' N' => turn c i t u h tk own hi ho hP (by rw [Int.zero_add] at F'; exact F') N') done
theorem ints_of_items {a c : Int} : ∀ (vs : List Value) (n : Nat), vs.length = n → (∀ (j : Nat) (v : Value), vs[j]? = some v → ∃ t, v = .int (a + j * c) t) → IntsAre vs ((List.range n).map fun (i : Nat) => a + (i : Int) * c) := by
  intro vs n e h
  have key : ∀ (vs : List Value) (b : Int), (∀ (j : Nat) (v : Value), vs[j]? = some v → ∃ t, v = .int (b + j * c) t) → IntsAre vs ((List.range vs.length).map fun (i : Nat) => b + (i : Int) * c) := by
    intro vs
    induction vs with
    | nil => intro _ _; exact .nil
    | cons v r ih =>
      intro b hb
      obtain ⟨t, ht⟩ := hb 0 v rfl
      have hv : v = .int b t := by rw [ht]; congr 1; simp
      subst hv
      rw [List.length_cons, List.range_succ_eq_map, List.map_cons, List.map_map]
      have e0 : b + ((0 : Nat) : Int) * c = b := by simp
      rw [e0]
      refine IntsAre.cons _ _ ?_
      have := ih (b + c) fun j v hj => by
        obtain ⟨t', ht'⟩ := hb (j + 1) v hj
        refine ⟨t', ht'.trans ?_⟩
        congr 1
        rw [Int.natCast_succ, Int.add_mul, Int.one_mul]
        omega
      refine Eq.mp (congrArg _ (List.map_congr_left fun i _ => ?_)) this
      simp only [Function.comp]
      rw [Nat.succ_eq_add_one, Int.natCast_succ, Int.add_mul, Int.one_mul]
      omega
  have := key vs a h
  rwa [e] at this
theorem list_range {prog : Program} {w : World} {A : Around} {E : Value → Shared → Prop} {Q : Value → Shared → Prop} {s : Shared} {h₀ : Heap} {L r : Addr} {m : Str → Option Value} {news : List (Addr × Obj)} {a b c : Int} {t₀ u₀ v₀ : Tok} (n : Nat)
    (hh : A.handled = none) (F : Fr h₀ L s.heap m) (N : News h₀ L s.heap news) (hr : IsRange s.heap r a b c t₀ u₀ v₀) (hsmall : Builtin.Range.small a b c = true) (hn : Builtin.Range.rangeSize a b c = (n : Int)) (hz : n ≤ 2 ^ 24)
    (h : ∀ D us k h' tk, Fr h₀ L h' m → News h₀ L h' ((D, listOf (List.toArray us) k) :: news) → (∀ p ∈ news, p.1 < D) → IntsAre us ((List.range n).map fun (i : Nat) => a + (i : Int) * c) → Q (.ref D) { s with heap := h', toks := tk }) :
    wpAny (model prog w) A (call (.type "list") [.ref r]) Q E s := by
  refine call_list_range hh hr hsmall hn hz fun h' tk acc k hk hD hI => ?_
  have hD' : h'.get? s.heap.objs.size = some (listOf (List.toArray acc.toList) k) := by
    rw [Array.toArray_toList]
    exact hD
  exact h _ acc.toList k h' tk (F.keeps hk) (news_pushed F N hk hD' rfl) (fun p hp => Heap.lt_size (N p hp).1) (ints_of_items _ _ (by rw [Array.length_toList]; exact hI.1) fun j v hj => hI.2 j v (by rw [← hj, Array.getElem?_toList]))
theorem range_two (n : Nat) : Builtin.Range.rangeSize 2 (2 * ((n : Int) + 1)) 2 = (n : Int) := by
  unfold Builtin.Range.rangeSize
  simp
  omega
theorem range_two_small {n : Nat} (h : n ≤ 1000) : Builtin.Range.small 2 (2 * ((n : Int) + 1)) 2 = true := by
  unfold Builtin.Range.small
  rw [range_two]
  unfold Builtin.Range.rangeFitsLong
  rw [if_pos (by decide : (2 : Int) > 0)]
  simp only [Bool.and_eq_true, Bool.or_eq_true, decide_eq_true_eq]
  refine ⟨⟨⟨⟨⟨?_, ?_⟩, ?_, ?_⟩, ?_, ?_⟩, ?_, ?_⟩, .inr ⟨?_, ?_⟩⟩ <;> omega
/-- the row of the table -/
def rowL (C : Nat → Nat → Int) (n i : Nat) : List Int := (List.range n).map fun j => dp C i (j + 1)
def mixL (C : Nat → Nat → Int) (n i k : Nat) : List Int := (List.range n).map fun j => if j < k then dp C (i + 1) (j + 1) else dp C i (j + 1)
theorem rowL_zero (C : Nat → Nat → Int) (n : Nat) : ((List.range n).map fun (j : Nat) => (2 : Int) + (j : Int) * 2) = rowL C n 0 := by
  unfold rowL
  apply List.map_congr_left
  intro j _
  rw [dp_zero]
  omega
theorem mixL_zero (C : Nat → Nat → Int) (n i : Nat) : mixL C n i 0 = rowL C n i := by
  unfold mixL rowL
  apply List.map_congr_left
  intro j _
  rw [if_neg (by omega)]
theorem mixL_all (C : Nat → Nat → Int) (n i : Nat) : mixL C n i n = rowL C n (i + 1) := by
  unfold mixL rowL
  apply List.map_congr_left
  intro j hj
  rw [if_pos (List.mem_range.mp hj)]
theorem mixL_len (C : Nat → Nat → Int) (n i k : Nat) : (mixL C n i k).length = n := by simp [mixL]
theorem mixL_get (C : Nat → Nat → Int) {n i k : Nat} (h : k < n) : (mixL C n i k).getD k 0 = dp C i (k + 1) := by
  unfold mixL
  rw [List.getD_eq_getElem?_getD, List.getElem?_map, List.getElem?_range h]
  simp
theorem mixL_set (C : Nat → Nat → Int) {n i k : Nat} (h : k < n) : (mixL C n i k).set k (dp C (i + 1) (k + 1)) = mixL C n i (k + 1) := by
  apply List.ext_getElem?
  intro j
  unfold mixL
  rw [List.getElem?_set]
  by_cases e : k = j
  · subst e
    simp [h]
  · rw [if_neg e]
    simp only [List.getElem?_map]
    by_cases hj : j < n
    · rw [List.getElem?_range hj]
      simp only [Option.map_some]
      congr 1
      by_cases l : j < k
      · rw [if_pos l, if_pos (by omega)]
      · rw [if_neg l, if_neg (by omega)]
    · rw [List.getElem?_eq_none (by simp; omega)]
      rfl
theorem cell_eq {C : Nat → Nat → Int} {n bi bj : Nat} {di re sc : Int} (hbj : bj < n) (hre : re = if bj = 0 then (bi : Int) * 2 else dp C (bi + 1) bj) (hdi : di = dp C bi bj) (hsc : sc = C bi bj) :
    (if di + sc < (if (mixL C n bi bj).getD (bj : Int).toNat 0 < re then (mixL C n bi bj).getD (bj : Int).toNat 0 else re) + 2 then di + sc else (if (mixL C n bi bj).getD (bj : Int).toNat 0 < re then (mixL C n bi bj).getD (bj : Int).toNat 0 else re) + 2) = dp C (bi + 1) (bj + 1) := by
  rw [Int.toNat_natCast, mixL_get C hbj, dp_succ, hsc, hdi]
  by_cases z : bj = 0
  · rw [if_pos z] at hre ⊢
    subst hre
    split <;> split <;> omega
  · rw [if_neg z] at hre ⊢
    subst hre
    split <;> split <;> omega
end Mine
end
section
open PySem PySem.W PyProof.Rows PySem.Spec PySem.Calls
set_option maxRecDepth 100000
namespace Mine
open TI
/-- an exception just made (maybe with another one behind it) -/
structure NewX (h h' : Heap) (e : Addr) (X : String) (vs : Array Value) : Prop where
  keeps : ∀ b o, h.get? b = some o → h'.get? b = some o
  new : h.get? e = none
  there : ∃ ob, h'.get? e = some ob ∧ ob.cls = .type X ∧ ob.data = .fields vs
theorem NewX.of {h h' : Heap} {e : Addr} {X : String} (x : Heap.NewExc h h' e X) : ∃ t, NewX h h' e X #[t, .none, .none, .none, .bool false, .none] := by
  obtain ⟨ob, t, h1, h2, h3⟩ := x.there
  exact ⟨t, x.keeps, x.new, ob, h1, h2, h3⟩

section
variable {prog : Program} {w : World} {A₀ : Around} {E : Value → Shared → Prop} {s' : Shared} {hb h : Heap} {L a e : Addr} {m : Str → Option Value} {name : Str} {scope : Scope} {cd : Value} {Q : Unit → Shared → Prop} {X : String} {l : List Env} {frs new : List (Addr × Obj)}

/-- the exception that stands noted in this frame: what is known of it -/
structure Hot (hb : Heap) (L : Addr) (h : Heap) (m : Str → Option Value) (e : Addr) (X : String) (ctx : Value) (led : List (Addr × Obj)) (fl : Value) : Prop where
  held : TT.HeldNA hb L h m e X led fl
  obj : ∃ ob t T oT ts, h.get? e = some ob ∧ ob.cls = .type X ∧ ob.data = .fields #[t, .ref T, ctx, .none, .bool false, .none] ∧ h.get? T = some oT ∧ oT.data = .fields ts ∧ ts[3]? = some fl ∧ T ≠ L ∧ T ≠ e ∧ hb.get? T = none
  apart : ∀ p ∈ led, p.1 ≠ e

theorem noted_newX {A : Around} {ctx t : Value} (hfr' : A.frames = some (envOf name scope L a cd :: l)) (Fs : Frs l frs) (hx : NewX h s'.heap e X #[t, .none, ctx, .none, .bool false, .none]) (F : Fr hb L h m) (N : News hb L h (new ++ frs)) (hap : ∀ p ∈ new, p.1 ∉ L :: frs.map (·.1))
    (k : ∀ h' frs', SameUp frs frs' → Frs l frs' → Hot hb L h' m e X ctx (new ++ frs') (rawInt L) → Q () { s' with heap := h' }) (hk : scope.kind = .function := by rfl) :
    wpAny (model prog w) A (noteFrame (.ref e) (envOf name scope L a cd)) Q E s' := by
  obtain ⟨ob, he, hcls, hd⟩ := hx.there
  have nb : ∀ b ∈ L :: frs.map (·.1), hb.get? b = none := fun b hm => by
    rcases List.mem_cons.mp hm with rfl | hm
    · cases q : hb.get? b with
      | none => rfl
      | some o => exact absurd (Nat.lt_of_lt_of_le (Heap.lt_size q) F.above) (Nat.lt_irrefl _)
    · obtain ⟨p, hp, rfl⟩ := List.mem_map.mp hm
      exact (N p (List.mem_append_right _ hp)).2.2
  obtain ⟨hff, hNs, frs₁, SU, ht⟩ := frames_at (name := name) (a := a) (cd := cd) (h' := s'.heap) (base := hb) hk Fs F N tail_sub (fun b o hb' => ⟨o.slots, hx.keeps b o hb'⟩) nb
  have hfs : (envOf name scope L a cd :: l).filterMap (·.frame) = L :: frs.map (·.1) := frames_are Fs
  -- the exception is none of the frames
  have hen : ∀ b o, h.get? b = some o → b ≠ e := fun b o q z => by rw [z, hx.new] at q; cases q
  obtain ⟨oL, esL, epL, hL, hLd, hLk, hLf⟩ := F.ns
  have heL : e ≠ L := fun q => hen L oL hL q.symm
  have hef : e ∉ L :: frs.map (·.1) := fun hm => by
    rcases List.mem_cons.mp hm with q | hm
    · exact heL q
    · obtain ⟨p, hp, q⟩ := List.mem_map.mp hm
      exact hen p.1 p.2 (N p (List.mem_append_right _ hp)).1 q
  unfold noteFrame
  simp only [show (envOf name scope L a cd).frame = some L from rfl]
  refine wpAny_bind (wpAny_field he hd (x := .none) rfl ?_)
  rw [if_neg (by decide)]
  refine wpAny_bind (wpAny_frameOf_fun hfr' hff rfl fun h₁ hs₁ => ?_)
  rw [hfs] at hs₁
  refine wpAny_bind (wpAny_entryPlaceOf fun pl hpl => ?_)
  refine wpAny_bind ?_
  unfold EntryCells.newEntry newFields
  refine wpAny_newObj_type ?_ (hpl.sizeOk5 _ _ _ _ _)
  obtain ⟨oT, hoT⟩ : ∃ oT : Obj, oT = { cls := .type "traceback", dict := none, data := .fields ([Value.none, .ref L, .none, rawInt L, .none] ++ (if pl.isEmpty then List.replicate 6 Value.none else pl)).toArray } := ⟨_, rfl⟩
  have he₁ : h₁.get? e = some ob := (hs₁.2.1 e hef).trans he
  have he₂ := Heap.get?_push_of_some (h := h₁) oT he₁
  have hTe : h₁.objs.size ≠ e := Nat.ne_of_gt (Heap.lt_size he₁)
  rw [← hoT]
  refine wpAny_setField he₂ hd (by show 1 < 6; decide) ?_
  have hd₃ := Obj.data_mapFields hd (·.setIfInBounds 1 (Value.ref h₁.objs.size))
  have he₃ := Heap.get?_update_self (Obj.mapFields (·.setIfInBounds 1 (Value.ref h₁.objs.size))) he₂ (Obj.isFreed_of_fields hd₃)
  have hT₃ := (Heap.get?_update_other (h₁.push oT) (Obj.mapFields (·.setIfInBounds 1 (Value.ref h₁.objs.size))) (Ne.symm hTe)).trans (Heap.get?_push_size h₁ (by rw [hoT]; rfl))
  have keep : ∀ b o, b ≠ e → h₁.get? b = some o → ((h₁.push oT).update e (Obj.mapFields (·.setIfInBounds 1 (Value.ref h₁.objs.size)))).get? b = some o := fun b o hbe hb => by
    rw [Heap.get?_update_other _ _ (Ne.symm hbe)]
    exact Heap.get?_push_of_some _ hb
  have up : ∀ b o, h.get? b = some o → ∃ sl, ((h₁.push oT).update e (Obj.mapFields (·.setIfInBounds 1 (Value.ref h₁.objs.size)))).get? b = some { o with slots := sl } := fun b o q => by
    obtain ⟨sl, z⟩ := hs₁.2.2 b o (hx.keeps b o q)
    exact ⟨sl, keep b _ (hen b o q) z⟩
  have same : ∀ b o, b ∉ L :: frs.map (·.1) → h.get? b = some o → ((h₁.push oT).update e (Obj.mapFields (·.setIfInBounds 1 (Value.ref h₁.objs.size)))).get? b = some o := fun b o n q =>
    keep b o (hen b o q) ((hs₁.2.1 b n).trans (hx.keeps b o q))
  obtain ⟨frs₂, SU₂, ht₂⟩ := sameUp_of (frs := frs) fun p hp => up p.1 p.2 (N p (List.mem_append_right _ hp)).1
  have Fs₂ := Fs.up SU₂
  obtain ⟨slL, hL₂⟩ := up L oL hL
  have hbT : hb.get? h₁.objs.size = none := by
    cases q : hb.get? h₁.objs.size with
    | none => rfl
    | some o =>
      have z := F.keep _ _ q
      obtain ⟨sl, z2⟩ := hs₁.2.2 _ _ (hx.keeps _ _ z)
      exact absurd (Heap.lt_size z2) (Nat.lt_irrefl _)
  have hTn : ∀ b o, h.get? b = some o → b ≠ h₁.objs.size := fun b o q z => by
    obtain ⟨sl, z2⟩ := hs₁.2.2 _ _ (hx.keeps _ _ q)
    rw [z] at z2
    exact absurd (Heap.lt_size z2) (Nat.lt_irrefl _)
  have hTL : h₁.objs.size ≠ L := fun q => hTn L oL hL q.symm
  have hbe : hb.get? e = none := by
    cases q : hb.get? e with
    | none => rfl
    | some o => exact absurd rfl (hen e o (F.keep _ _ q))
  have F₂ : Fr hb L ((h₁.push oT).update e (Obj.mapFields (·.setIfInBounds 1 (Value.ref h₁.objs.size)))) m :=
    ⟨⟨_, esL, epL, hL₂, hLd, hLk, hLf⟩, fun b o q => same b o (fun hm => by rw [nb b hm] at q; cases q) (F.keep b o q), F.above⟩
  have hts : ∀ c : Value, (([Value.none, .ref L, .none, rawInt L, c] ++ (if pl.isEmpty then List.replicate 6 Value.none else pl)).toArray)[3]? = some (rawInt L) := fun c => by simp
  have N₂ : News hb L ((h₁.push oT).update e (Obj.mapFields (·.setIfInBounds 1 (Value.ref h₁.objs.size)))) (new ++ frs₂) := fun p hp => by
    rcases List.mem_append.mp hp with hp | hp
    · obtain ⟨p1, p2, p3⟩ := N p (List.mem_append_left _ hp)
      exact ⟨same p.1 p.2 (hap p hp) p1, p2, p3⟩
    · obtain ⟨x, hx', q⟩ := SU₂.fwd p hp
      obtain ⟨_, p2, p3⟩ := N x (List.mem_append_right _ hx')
      exact ⟨ht₂ p hp, by rw [q]; exact p2, by rw [q]; exact p3⟩
  have led_h : ∀ p ∈ new ++ frs₂, ∃ o, h.get? p.1 = some o := fun p hp => by
    rcases List.mem_append.mp hp with hp | hp
    · exact ⟨_, (N p (List.mem_append_left _ hp)).1⟩
    · obtain ⟨x, hx', q⟩ := SU₂.fwd p hp
      rw [q]
      exact ⟨_, (N x (List.mem_append_right _ hx')).1⟩
  have hd4 : (Obj.mapFields (·.setIfInBounds 1 (Value.ref h₁.objs.size)) ob).data = .fields #[t, .ref h₁.objs.size, ctx, .none, .bool false, .none] := hd₃
  refine k _ frs₂ SU₂ Fs₂ ⟨⟨⟨F₂, ⟨_, _, h₁.objs.size, oT, _, he₃, (Obj.cls_mapFields _ _).trans hcls, hd4, by simp, hT₃, by rw [hoT], hts _, hTL, hTe, hbT⟩, hbe⟩, N₂, ?_⟩, ⟨_, t, h₁.objs.size, oT, _, he₃, (Obj.cls_mapFields _ _).trans hcls, hd4, hT₃, by rw [hoT], hts _, hTL, hTe, hbT⟩, fun p hp => ?_⟩
  · intro ob' ws tb e1 e2 e3 p hp q
    rw [he₃] at e1
    obtain rfl := Option.some.inj e1
    rw [hd4] at e2
    injection e2 with e2
    subst e2
    have e3' : some (Value.ref h₁.objs.size) = some (Value.ref tb) := by simpa using e3
    injection e3' with e3'
    injection e3' with e3'
    obtain ⟨o, ho⟩ := led_h p hp
    exact hTn _ _ ho (q.trans e3'.symm)
  · obtain ⟨o, ho⟩ := led_h p hp
    exact hen _ _ ho

theorem noted_hot {M : Model} {A : Around} {ctx : Value} {led : List (Addr × Obj)} (H : Hot hb L s'.heap m e X ctx led (rawInt L)) (h : Q () s') :
    wpAny M A (noteFrame (.ref e) (envOf name scope L a cd)) Q E s' := by
  obtain ⟨_, ⟨ob, t, T, oT, ts, he, hcls, hd, hT, hTd, h3, _⟩, _⟩ := H
  unfold noteFrame
  simp only [show (envOf name scope L a cd).frame = some L from rfl]
  refine wpAny_bind (wpAny_field he hd (x := .ref T) rfl ?_)
  rw [if_pos (show (Value.ref T != Value.none) = true from by simp)]
  refine wpAny_bind (wpAny_field hT hTd h3 ?_)
  rw [if_pos (by simp)]
  exact wpAny_pure h

theorem flight_hot {M : Model} {A : Around} {ctx fl : Value} {led : List (Addr × Obj)} (fr : Option Addr) (H : Hot hb L s'.heap m e X ctx led fl)
    (h : ∀ h', Hot hb L h' m e X ctx led (fr.elim .none fun f => rawInt f) → Q () { s' with heap := h' }) : wpAny M A (setFlight (.ref e) fr) Q E s' := by
  obtain ⟨⟨⟨F, _, hbe⟩, N, hap⟩, ⟨ob, t, T, oT, ts, he, hcls, hd, hT, hTd, h3, hTL, hTe, hbT⟩, hape⟩ := H
  have hsz : 3 < ts.size := (Array.getElem?_eq_some_iff.mp h3).1
  obtain ⟨v, hv⟩ : ∃ v, v = fr.elim Value.none fun f => rawInt f := ⟨_, rfl⟩
  have happ := hap ob _ T he hd rfl
  unfold setFlight
  refine wpAny_bind (wpAny_field he hd (x := .ref T) rfl ?_)
  rw [if_pos (show (Value.ref T != Value.none) = true from by simp)]
  refine wpAny_setField hT hTd hsz ?_
  rw [← hv]
  have other : ∀ b, b ≠ T → (s'.heap.update T (Obj.mapFields (·.setIfInBounds 3 v))).get? b = s'.heap.get? b := fun b q => Heap.get?_update_other _ _ (Ne.symm q)
  have hT' := Heap.get?_update_self (Obj.mapFields (·.setIfInBounds 3 v)) hT (Obj.isFreed_of_fields (Obj.data_mapFields hTd _))
  have he' := (other e hTe.symm).trans he
  obtain ⟨oL, esL, epL, hL, hLd, hLk, hLf⟩ := F.ns
  have h3' : (ts.setIfInBounds 3 v)[3]? = some v := by simp [hsz]
  have F' : Fr hb L (s'.heap.update T (Obj.mapFields (·.setIfInBounds 3 v))) m :=
    ⟨⟨oL, esL, epL, (other L hTL.symm).trans hL, hLd, hLk, hLf⟩, fun b o q => (other b (fun z => by rw [z, hbT] at q; cases q)).trans (F.keep b o q), F.above⟩
  refine h _ (hv ▸ ⟨⟨⟨F', ⟨ob, _, T, _, _, he', hcls, hd, rfl, hT', Obj.data_mapFields hTd _, h3', hTL, hTe, hbT⟩, hbe⟩, fun p hp => ⟨(other p.1 (happ p hp)).trans (N p hp).1, (N p hp).2⟩, ?_⟩, ⟨ob, t, T, _, _, he', hcls, hd, hT', Obj.data_mapFields hTd _, h3', hTL, hTe, hbT⟩, hape⟩)
  intro ob' ws tb e1 e2 e3 p hp
  rw [he'] at e1
  obtain rfl := Option.some.inj e1
  exact hap ob ws tb he e2 e3 p hp
end

section
variable {prog : Program} {w : World} {A : Around} {E : Value → Shared → Prop} {s : Shared}
theorem hotBy_cameBack {hb : Heap} {L a e : Addr} {m : Str → Option Value} {name : Str} {scope : Scope} {cd : Value} {X : String} {ctx fl : Value} {led : List (Addr × Obj)} {K : Value → Shared → Prop} (H : Hot hb L s.heap m e X ctx led fl)
    (h : ∀ h', Hot hb L h' m e X ctx led (rawInt L) → K (.ref e) { s with heap := h' }) : cameBackBy (model prog w) A (envOf name scope L a cd) K (.ref e) s := by
  have H0 := H
  obtain ⟨_, ⟨ob, t, T, oT, ts, he, hcls, hd, _⟩, _⟩ := H0
  unfold cameBackBy
  refine wpAny_bind (wpAny_field he hd (x := .ref T) rfl ?_)
  rw [if_neg (show ¬ (Value.ref T == Value.none) = true from by simp)]
  exact flight_hot (some L) H fun h' H' => h h' H'

/-- an exception raised while another one (with none behind it) is at hand -/
theorem raise_behind {α : Type} {msg : String} {e₁ : Addr} {o₁ : Obj} {vs : Array Value} {Q : α → Shared → Prop} (hA : A.handled = some (.ref e₁)) (h1 : s.heap.get? e₁ = some o₁) (hd : o₁.data = .fields vs) (hc : vs[2]? = some .none)
    (h : ∀ h' tk e t, NewX s.heap h' e "IndexError" #[t, .none, .ref e₁, .none, .bool false, .none] → E (.ref e) { s with heap := h', toks := tk }) :
    wpAny (model prog w) A (raiseErrorWords "IndexError" msg : Sem α) Q E s := by
  unfold raiseErrorWords
  refine wpAny_bind (wpAny_mkText (wpAny_bind ?_))
  refine wpAny_newExc_plain plainExc_IndexError fun h' e hm => ?_
  obtain ⟨hk, hn, t, he, hnt, ht⟩ := hm
  unfold raiseNew
  refine wpAny_bind (wpAny_handled ?_)
  rw [hA]
  have hne : Value.ref e₁ ≠ Value.ref e := fun q => by
    injection q with q
    rw [← q, h1] at hn; cases hn
  dsimp only
  rw [if_pos (show (Value.ref e₁ != Value.ref e) = true from bne_iff_ne.mpr hne)]
  refine wpAny_bind (wpAny_holding (wpAny_runValue (codeAny_builtin (b := Builtin.«proto.unchain») (entryFor_of_tree (by kernel_rfl)) ?_)))
  rw [Around.under_plainId (by decide +kernel) _]
  show wpAny _ A.in1 (field (.ref e₁) 2 >>= _) _ _ _
  refine wpAny_bind (wpAny_field (hk _ _ h1) hd hc ?_)
  rw [if_pos (by decide)]
  refine wpAny_pure ?_
  show wpAny _ A (setField (.ref e) 2 (.ref e₁) >>= _) _ _ _
  refine wpAny_bind (wpAny_setField he rfl (by show 2 < 6; decide) (wpAny_throw ?_))
  have oth : ∀ b, b ≠ e → (h'.update e (Obj.mapFields (·.setIfInBounds 2 (Value.ref e₁)))).get? b = h'.get? b := fun b q => Heap.get?_update_other _ _ (Ne.symm q)
  refine h _ _ e (.ref t) ⟨fun b o q => (oth b (fun z => by rw [z] at q; rw [hn] at q; cases q)).trans (hk b o q), hn, _, Heap.get?_update_self _ he rfl, rfl, rfl⟩

theorem getItem_behind {l : Addr} {items : Array Value} {k : Int} {t : Tok} {e₁ : Addr} {o₁ : Obj} {vs : Array Value} {Q : Value → Shared → Prop} (hA : A.handled = some (.ref e₁)) (h1 : s.heap.get? e₁ = some o₁) (hd1 : o₁.data = .fields vs) (hc1 : vs[2]? = some .none)
    (hl : s.heap.IsList l items) (h0 : 0 ≤ k) (hout : (items.size : Int) ≤ k) (hhi : k < 2 ^ 63)
    (hE : ∀ h' tk e t, NewX s.heap h' e "IndexError" #[t, .none, .ref e₁, .none, .bool false, .none] → E (.ref e) { s with heap := h', toks := tk }) :
    wpAny (model prog w) A (getItem (.ref l) (.int k t)) Q E s := by
  obtain ⟨o, ho, hc, ne, hd⟩ := id hl
  unfold getItem
  try with_reducible refine wpAny_holding ?_
  first | refine wpAny_bind (wpAny_pure ?_) | skip
  refine wpAny_bind (wpAny_sequenceKey hl.typeIs (by decide) ?_)
  refine wpAny_bind (wpAny_callSpecial?_slot (name := Str.ofString "__getitem__") hl.typeIs slot_list_getitem (wpAny_call_entry slot_list_getitem hl.typeIs entry_list_getitem ?_ (args_list_getitem _ _)))
  show wpAny _ _ (Builtin.List.listSubscript? (.int k t) >>= _) _ _ s
  refine wpAny_bind (wpAny_listSubscript_int (fitsIndex_both (by omega) hhi) ?_)
  clear hhi
  cases k with
  | negSucc j => exact absurd h0 (by have := Int.negSucc_lt_zero j; omega)
  | ofNat j =>
    have hx : items[j]? = none := Array.getElem?_eq_none (by have : (items.size : Int) ≤ (j : Int) := hout; omega)
    show wpAny _ _ ((seqItemAt l j >>= fun r => pure (r.map (j, ·))) >>= _) _ _ s
    refine wpAny_bind (wpAny_bind (wpAny_seqItemAt ho hd (wpAny_pure ?_)))
    rw [hx]
    first
      | exact wpAny_bind (wpAny_rule (raise_behind (by exact hA) h1 hd1 hc1 hE))
      | exact wpAny_bind (wpAny_rule (wpAny_bind (raise_behind (by exact hA) h1 hd1 hc1 hE)))
      | exact wpAny_bind (wpAny_bind (wpAny_rule (raise_behind (by exact hA) h1 hd1 hc1 hE)))
      | exact wpAny_rule (raise_behind (by exact hA) h1 hd1 hc1 hE)
/-- an item by an index that is 0 or more: it is there, or IndexError -/
theorem item_or {value slice : PySem.Expr} {l : Addr} {vs : List Value} {ns : List Int} {k : Int} {t : Tok} {Q : Value → Shared → Prop} (hA : A.handled = none) (hl : s.heap.IsList l vs.toArray) (hi : IntsAre vs ns) (h0 : 0 ≤ k) (hhi : k < 2 ^ 63)
    (hin : k < ns.length → ∀ u, Q (.int (ns.getD k.toNat 0) u) s)
    (hE : (ns.length : Int) ≤ k → ∀ h' tk e t, NewX s.heap h' e "IndexError" #[t, .none, .none, .none, .bool false, .none] → E (.ref e) { s with heap := h', toks := tk })
    (hs : subscripted slice false (.ref l) (.int k t) = operate [.ref l, .int k t] (getItem (.ref l) (.int k t)) := by with_unfolding_all rfl) :
    wpAny (model prog w) A (subscriptTail value slice (.ref l) (.int k t)) Q E s := by
  by_cases h : k < ns.length
  · exact item_anyK hl hi h0 h hhi (hin h) hs
  · refine item_outK hA hl (.inr ?_) (by omega) hhi (fun h' tk e hx => ?_) hs
    · have := hi.length
      simp
      omega
    · obtain ⟨t, ht⟩ := NewX.of hx
      exact hE (by omega) h' tk e t ht
theorem item_or_behind {value slice : PySem.Expr} {l : Addr} {vs : List Value} {ns : List Int} {k : Int} {t : Tok} {e₁ : Addr} {o₁ : Obj} {ws : Array Value} {Q : Value → Shared → Prop} (hA : A.handled = some (.ref e₁)) (h1 : s.heap.get? e₁ = some o₁) (hd1 : o₁.data = .fields ws) (hc1 : ws[2]? = some .none)
    (hl : s.heap.IsList l vs.toArray) (hi : IntsAre vs ns) (h0 : 0 ≤ k) (hhi : k < 2 ^ 63)
    (hin : k < ns.length → ∀ u, Q (.int (ns.getD k.toNat 0) u) s)
    (hE : (ns.length : Int) ≤ k → ∀ h' tk e t, NewX s.heap h' e "IndexError" #[t, .none, .ref e₁, .none, .bool false, .none] → E (.ref e) { s with heap := h', toks := tk })
    (hs : subscripted slice false (.ref l) (.int k t) = operate [.ref l, .int k t] (getItem (.ref l) (.int k t)) := by with_unfolding_all rfl) :
    wpAny (model prog w) A (subscriptTail value slice (.ref l) (.int k t)) Q E s := by
  by_cases h : k < ns.length
  · exact item_anyK hl hi h0 h hhi (hin h) hs
  · exact tail_any hl.typeIs slot_list_getitem.lookup (getItem_behind hA h1 hd1 hc1 hl h0 (by have := hi.length; simp; omega) hhi (hE (by omega))) hs
end
end Mine
end
section
open PySem PySem.W PyProof.Rows PySem.Spec PySem.Calls
set_option maxRecDepth 100000
namespace Mine
open TI
section
variable {prog : Program} {w : World} {A : Around} {E : Value → Shared → Prop} {s : Shared} {h₀ : Heap} {L : Addr} {m : Str → Option Value} {news : List (Addr × Obj)} {Q : Value → Shared → Prop}
/-- a def called by one frame alone: the caller's frame stands on the ledger -/
theorem call_one {env : Env} {name : Str} {params : Arguments} {body : List Stmt} {scope : Scope} {pm doc cdv : Value} {f : Addr} {o : Obj} {vals : List Value} {binds : List (Str × Value)}
    (F : Fr h₀ L s.heap m) (Nw : News h₀ L s.heap news) (ho : h₀.get? f = some o) (hdat : o.data = .func (docDef name params body scope pm cdv doc)) (hcd : h₀.CodeRec cdv name) (hlim : h₀.NoLimit)
    (hroom : A.depth < recursionLimit) (hef : env.frame = some L) (hek : env.scope.kind ≠ .module)
    (hbind : bindArgs (docDef name params body scope pm cdv doc) ⟨vals, []⟩ = pure binds)
    (hloc : ∀ x ∈ binds, scope.names.lookup x.1 = some .local)
    (h : ∀ oL L' h₁, Caller h₀ L m oL → Frs [env] [(L, oL)] → Fr h₀ L' h₁ (fun x => binds.reverse.lookup x) → News h₀ L' h₁ (news ++ [(L, oL)]) →
      wpAny (model prog w) (A.deeper (envOf name scope L' f cdv)) (execs body (envOf name scope L' f cdv))
        (fun fl s' => Q (match fl with | .ret v => v | _ => .none) s')
        (fun e s' => wpAny (model prog w) (A.deeper (envOf name scope L' f cdv)) (leaving (envOf name scope L' f cdv) e) (fun _ s'' => E e s'') (fun e' s'' => E e' s'') s')
        { s with heap := h₁, toks := s.toks + binds.length })
    (hco : scope.isCoroutine = false := by rfl) (hgen : scope.isGenerator = false := by rfl) (hk : scope.kind = .function := by rfl)
    (hcell : ∀ x ∈ scope.names, x.2 ≠ .cell := by decide) :
    wpAny (model prog w) A (call (.ref f) vals) Q E s := by
  refine wpAny_call (call_plain hroom (F.keep _ _ ho) hdat (hlim.keeps F.keep) (hcd.keeps F.keep) hbind hloc (fun h₁ F₁ => ?_) hco hgen hk hcell)
  obtain ⟨oL, es, ep, hL, hLd, hLk, hLf⟩ := F.ns
  have hLt := Heap.lt_size hL
  refine wpAny_mono (h oL _ h₁ ⟨fun h' sl e => ⟨_, es, ep, e, hLd, hLk, hLf⟩, ⟨es, ep, hLd⟩, F.above⟩ ⟨hek, hef, ⟨es, ep, hLd⟩, trivial⟩
    ⟨F₁.ns, fun b o e => F₁.keep b o (F.keep b o e), Nat.le_trans F.above (Nat.le_of_lt hLt)⟩ (fun p hp => ?_)) (fun _ _ x => x) fun _ _ x => x
  rcases List.mem_append.mp hp with hp | hp
  · obtain ⟨h1, h2, h3⟩ := Nw p hp
    exact ⟨F₁.keep _ _ h1, Nat.ne_of_lt (Heap.lt_size h1), h3⟩
  · rw [List.mem_singleton.mp hp]
    exact ⟨F₁.keep _ _ hL, Nat.ne_of_lt hLt, Heap.get?_none_of_le F.above⟩
theorem call_oneK {K : Frag} {p : Program} {loose : List Str} {mean : ExcName → Option Value} {mg mb : Str → Option Value} {env : Env} {name : Str} {params : Arguments} {body : List Stmt} {scope : Scope} {pm doc cdv oc : Value} {od : Option Addr} {osl : Array (Option Value)} {f : Addr} {vals : List Value} {binds : List (Str × Value)}
    (F : Fr h₀ L s.heap m) (X : K.In h₀) (Nw : News h₀ L s.heap news) (T : Top p loose mean mg mb h₀) (ho : K.lookup f = some ⟨oc, od, .func (fnOf name name params body scope .none .none doc pm none cdv .none), osl⟩) (hcd : codeIn K cdv name = true)
    (hroom : A.depth < recursionLimit) (hef : env.frame = some L) (hek : env.scope.kind ≠ .module)
    (hbind : bindArgs (docDef name params body scope pm cdv doc) ⟨vals, []⟩ = pure binds)
    (hloc : ∀ x ∈ binds, scope.names.lookup x.1 = some .local)
    (h : ∀ oL L' h₁, Caller h₀ L m oL → Frs [env] [(L, oL)] → Fr h₀ L' h₁ (fun x => binds.reverse.lookup x) → News h₀ L' h₁ (news ++ [(L, oL)]) →
      wpAny (model prog w) (A.deeper (envOf name scope L' f cdv)) (execs body (envOf name scope L' f cdv))
        (fun fl s' => Q (match fl with | .ret v => v | _ => .none) s')
        (fun e s' => wpAny (model prog w) (A.deeper (envOf name scope L' f cdv)) (leaving (envOf name scope L' f cdv) e) (fun _ s'' => E e s'') (fun e' s'' => E e' s'') s')
        { s with heap := h₁, toks := s.toks + binds.length })
    (hco : scope.isCoroutine = false) (hgen : scope.isGenerator = false) (hk : scope.kind = .function)
    (hcell : ∀ x ∈ scope.names, x.2 ≠ .cell) :
    wpAny (model prog w) A (call (.ref f) vals) Q E s :=
  call_one F Nw (X _ _ ho) rfl (codeRec_of X hcd) T.nolimit hroom hef hek hbind hloc h hco hgen hk hcell
theorem back_one {L' : Addr} {h : Heap} {m' : Str → Option Value} {oL : Obj} {sl : Array (Option Value)} {new : List (Addr × Obj)} (C : Caller h₀ L m oL) (F' : Fr h₀ L' h m') (N' : News h₀ L' h (new ++ [(L, { oL with slots := sl })])) (hne : ∀ p ∈ new, p.1 ≠ L) :
    Fr h₀ L h m ∧ News h₀ L h new := by
  have hL : h.get? L = some { oL with slots := sl } := (N' _ (List.mem_append_right _ (.head _))).1
  refine ⟨⟨C.ns _ sl hL, F'.keep, C.above⟩, fun p hp => ?_⟩
  obtain ⟨x1, _, x3⟩ := N' p (List.mem_append_left _ hp)
  exact ⟨x1, hne p hp, x3⟩
theorem one_slots {L : Addr} {oL : Obj} {frs' : List (Addr × Obj)} (SU : SameUp [(L, oL)] frs') : ∃ sl, frs' = [(L, { oL with slots := sl })] := TLg.one_up SU
end

/-- a while whose turns store names that are forgotten, too -/
def WSEnd {σ : Type} (h₀ : Heap) (L : Addr) (s : Shared) (Led : σ → List (Addr × Obj)) (ps : σ → List (Str × Value)) (stored : List Str) (m₀ : Str → Option Value) (P : σ → Prop) (μ : σ → Nat) (c : σ) (s₂ : Shared) : Prop :=
  ∃ (c' : σ) (h' : Heap) (tk : Nat) (m' : Str → Option Value), s₂ = { s with heap := h', toks := tk } ∧ Fr h₀ L h' m' ∧ (∀ z, (∀ p ∈ ps c', z ≠ p.1) → stored.contains z = false → m' z = m₀ z) ∧ (∀ p ∈ ps c', m' p.1 = some p.2) ∧ News h₀ L h' (Led c') ∧ P c' ∧ μ c' < μ c
def WSPost {σ : Type} (h₀ : Heap) (L : Addr) (s : Shared) (Led : σ → List (Addr × Obj)) (ps : σ → List (Str × Value)) (stored : List Str) (m₀ : Str → Option Value) (P : σ → Prop) (μ : σ → Nat) (Q : Flow → Shared → Prop) (c : σ) (f : Flow) (s₂ : Shared) : Prop :=
  match f with
  | .ret v => Q (.ret v) s₂
  | .brk => Q .next s₂
  | _ => WSEnd h₀ L s Led ps stored m₀ P μ c s₂
theorem wsend {σ : Type} {h₀ : Heap} {L : Addr} {s : Shared} {Led : σ → List (Addr × Obj)} {ps : σ → List (Str × Value)} {stored : List Str} {m₀ m' : Str → Option Value} {P : σ → Prop} {μ : σ → Nat} {c : σ} {h' : Heap} {tk : Nat} {news' : List (Addr × Obj)} (c' : σ)
    (F : Fr h₀ L h' m') (N : News h₀ L h' news') (hm : ∀ z, (∀ p ∈ ps c', z ≠ p.1) → stored.contains z = false → m' z = m₀ z) (hk : ∀ p ∈ ps c', m' p.1 = some p.2) (hn : ∀ p ∈ Led c', p ∈ news') (hp : P c') (hmu : μ c' < μ c) :
    WSEnd h₀ L s Led ps stored m₀ P μ c { s with heap := h', toks := tk } :=
  ⟨c', h', tk, m', rfl, F, hm, hk, fun p hp => N p (hn p hp), hp, hmu⟩
theorem whileS {σ : Type} {prog : Program} {w : World} {A : Around} {E : Value → Shared → Prop} {Q : Flow → Shared → Prop} {s : Shared} {env : Env} {h₀ : Heap} {L : Addr} {test : Expr} {body : List Stmt} {pos : Pos} {m₀ : Str → Option Value} {news : List (Addr × Obj)}
    (Led : σ → List (Addr × Obj)) (ps : σ → List (Str × Value)) (stored : List Str) (P : σ → Prop) (μ : σ → Nat) (c₀ : σ)
    (F : Fr h₀ L s.heap m₀) (N : News h₀ L s.heap news) (hn : ∀ p ∈ Led c₀, p ∈ news) (hk : ∀ p ∈ ps c₀, m₀ p.1 = some p.2) (hp : P c₀)
    (turn : ∀ (c : σ) (u : Str → Option Value) h tk, P c → Fr h₀ L h (upd (fun z => if stored.contains z then u z else m₀ z) (ps c)) → News h₀ L h (Led c) →
      wpAny (model prog w) A (isTrue test env (eval test env)) (fun b s₂ =>
        if b = true then wpAny (model prog w) A (execs body env) (WSPost h₀ L s Led ps stored m₀ P μ Q c) E s₂ else Q .next s₂) E { s with heap := h, toks := tk })
    (hE : PassesOwn (model prog w) A env E) :
    wpAny (model prog w) A (exec (.While test body [] pos) env) Q E s := by
  refine ksw_while Led ps (fun _ => True) stored P μ c₀ F (fun p hp => N p (hn p hp)) trivial hk hp ?_ hE
  intro c u h tk _ hP F' N'
  rw [updOf] at F'
  refine wpAny_mono (turn c u h tk hP F' N') (fun b s₂ q => ?_) fun _ _ x => x
  cases b with
  | false => simpa using q
  | true =>
    simp only [if_true] at q ⊢
    refine wpAny_mono q (fun f s₃ q => ?_) fun _ _ x => x
    have fin : WSEnd h₀ L s Led ps stored m₀ P μ c s₃ → KswEnd h₀ L s Led ps (fun _ => True) stored m₀ P μ c s₃ := by
      rintro ⟨c', h', tk', m', rfl, F', hm, hk, N', hP', hmu⟩
      exact ksw_end c' F' N' (fun _ h => h) trivial hk hm hP' hmu
    cases f with
    | ret v => exact q
    | brk => exact q
    | next => exact fin q
    | cont => exact fin q

/-- the raises of a block gathered in one word about the noted exception -/
theorem cutEE {α : Type} {prog : Program} {w : World} {A : Around} {E : Value → Shared → Prop} {s : Shared} {env : Env} {t : Sem α} {Q : α → Shared → Prop} (H : Value → Shared → Prop) {E₂ : Value → Shared → Prop}
    (h1 : ∀ EE : Value → Shared → Prop, (∀ v s', wpAny (model prog w) A (noteFrame v env) (fun _ s₂ => H v s₂) (fun _ _ => False) s' → EE v s') → PassesOwn (model prog w) A env EE → wpAny (model prog w) A t Q EE s)
    (hp : ∀ v s₂, H v s₂ → cameBackBy (model prog w) A env (fun v s' => wpAny (model prog w) A (noteFrame v env) (fun _ s₂ => H v s₂) (fun _ _ => False) s') v s₂)
    (h2 : ∀ v s₂, H v s₂ → E₂ v s₂) :
    wpAny (model prog w) A t Q (fun e s₁ => wpAny (model prog w) A (noteFrame e env) (fun _ s₂ => E₂ e s₂) E s₁) s :=
  wpAny_mono (h1 _ (fun _ _ h => h) fun _ _ h => wpAny_mono h (fun _ s₂ hh => hp _ s₂ hh) fun _ _ x => x.elim) (fun _ _ x => x) fun _ _ h => wpAny_mono h (fun _ s₂ hh => h2 _ s₂ hh) fun _ _ x => x.elim

theorem sorted_ne {xs : List Int} (h : xs.Pairwise (· < ·)) {i : Nat} (hi : i + 1 < xs.length) : xs.getD (i + 1) 0 ≠ xs.getD i 0 := by
  have := List.pairwise_iff_getElem.mp h i (i + 1) (by omega) hi (by omega)
  rw [List.getD_eq_getElem?_getD, List.getD_eq_getElem?_getD, List.getElem?_eq_getElem hi, List.getElem?_eq_getElem (by omega : i < xs.length)]
  simp only [Option.getD_some]
  omega
theorem drop_cons {xs : List Int} {i : Nat} (hi : i < xs.length) : xs.drop i = xs.getD i 0 :: xs.drop (i + 1) := by
  rw [List.drop_eq_getElem_cons hi, List.getD_eq_getElem?_getD, List.getElem?_eq_getElem hi]
  rfl
/-- what sorted_list_difference tells of two rising lists -/
def mrg : List Int → List Int → List Int × List Int
  | [], b => ([], b)
  | x :: a, [] => (x :: a, [])
  | x :: a, y :: b => if x < y then (x :: (mrg a (y :: b)).1, (mrg a (y :: b)).2) else if y < x then ((mrg (x :: a) b).1, y :: (mrg (x :: a) b).2) else mrg a b
termination_by a b => a.length + b.length
theorem mrg_nil_l (b : List Int) : mrg [] b = ([], b) := by rw [mrg]
theorem mrg_nil_r (a : List Int) : mrg a [] = (a, []) := by cases a <;> rw [mrg]
theorem mrg_cons (x y : Int) (a b : List Int) : mrg (x :: a) (y :: b) = if x < y then (x :: (mrg a (y :: b)).1, (mrg a (y :: b)).2) else if y < x then ((mrg (x :: a) b).1, y :: (mrg (x :: a) b).2) else mrg a b := by rw [mrg]
theorem filter_all {p : Int → Bool} {l : List Int} (h : ∀ z ∈ l, p z = true) : l.filter p = l := List.filter_eq_self.mpr h
theorem mrg_eq : ∀ (a b : List Int), a.Pairwise (· < ·) → b.Pairwise (· < ·) → mrg a b = (a.filter (fun x => decide (x ∉ b)), b.filter (fun x => decide (x ∉ a))) := by
  intro a
  induction a with
  | nil => intro b _ _; rw [mrg_nil_l, filter_all (l := b) (by intro z _; simp)]; rfl
  | cons x a iha =>
    intro b ha
    induction b with
    | nil => intro _; rw [mrg_nil_r, filter_all (l := x :: a) (by intro z _; simp)]; rfl
    | cons y b ihb =>
      intro hb
      have ha' := List.pairwise_cons.mp ha
      have hb' := List.pairwise_cons.mp hb
      rw [mrg_cons]
      by_cases h1 : x < y
      · rw [if_pos h1, iha _ ha'.2 hb]
        have n1 : x ∉ y :: b := fun q => by
          rcases List.mem_cons.mp q with q | q
          · omega
          · have := hb'.1 x q; omega
        have e1 : (x :: a).filter (fun z => decide (z ∉ y :: b)) = x :: a.filter (fun z => decide (z ∉ y :: b)) := List.filter_cons_of_pos (decide_eq_true n1)
        have e2 : (y :: b).filter (fun z => decide (z ∉ x :: a)) = (y :: b).filter (fun z => decide (z ∉ a)) := by
          apply List.filter_congr
          intro z hz
          have : z ≠ x := fun q => n1 (q ▸ hz)
          simp [this]
        rw [e1, e2]
      · rw [if_neg h1]
        by_cases h2 : y < x
        · rw [if_pos h2, ihb hb'.2]
          have n1 : y ∉ x :: a := fun q => by
            rcases List.mem_cons.mp q with q | q
            · omega
            · have := ha'.1 y q; omega
          have e1 : (y :: b).filter (fun z => decide (z ∉ x :: a)) = y :: b.filter (fun z => decide (z ∉ x :: a)) := List.filter_cons_of_pos (decide_eq_true n1)
          have e2 : (x :: a).filter (fun z => decide (z ∉ y :: b)) = (x :: a).filter (fun z => decide (z ∉ b)) := by
            apply List.filter_congr
            intro z hz
            have : z ≠ y := fun q => n1 (q ▸ hz)
            simp [this]
          rw [e1, e2]
        · rw [if_neg h2]
          have e : x = y := by omega
          subst e
          rw [iha _ ha'.2 hb'.2]
          have e1 : (x :: a).filter (fun z => decide (z ∉ x :: b)) = a.filter (fun z => decide (z ∉ b)) := by
            rw [List.filter_cons_of_neg (by simp)]
            apply List.filter_congr
            intro z hz
            have := ha'.1 z hz
            have : z ≠ x := by omega
            simp [this]
          have e2 : (x :: b).filter (fun z => decide (z ∉ x :: a)) = b.filter (fun z => decide (z ∉ a)) := by
            rw [List.filter_cons_of_neg (by simp)]
            apply List.filter_congr
            intro z hz
            have := hb'.1 z hz
            have : z ≠ x := by omega
            simp [this]
          rw [e1, e2]
end Mine
end
section
open PySem PySem.W PyProof.Rows PySem.Spec PySem.Calls
set_option maxRecDepth 100000
namespace Mine
open TI
/-- a while whose test is false at once (or raises) -/
theorem while_once {prog : Program} {w : World} {A : Around} {E : Value → Shared → Prop} {Q : Flow → Shared → Prop} {s : Shared} {env : Env} {test : Expr} {body : List Stmt} {pos : Pos} (hE : PassesOwn (model prog w) A env E)
    (h : wpAny (model prog w) A (isTrue test env (eval test env)) (fun b s₂ => if b = true then False else Q .next s₂) E s) : wpAny (model prog w) A (exec (.While test body [] pos) env) Q E s :=
  whl_start 1 (whl_turn hE (wpAny_mono h (fun b s₂ q => by
    cases b with
    | false => exact WhlIf.no rfl (wpAny_execs_nil (by simpa using q))
    | true => exact absurd q (by simp)) fun _ _ x => x))

theorem upd_know {f : Str → Option Value} {ps ps' : List (Str × Value)} (h1 : ∀ z, (∀ p ∈ ps', z ≠ p.1) → upd f ps z = f z) (h2 : ∀ p ∈ ps', upd f ps p.1 = some p.2) : upd f ps = upd f ps' :=
  upd_of h1 h2

theorem upd_stored {m' m₀ : Str → Option Value} {ps : List (Str × Value)} {stored : List Str} (hm : ∀ z, (∀ p ∈ ps, z ≠ p.1) → stored.contains z = false → m' z = m₀ z) (hk : ∀ p ∈ ps, m' p.1 = some p.2) :
    m' = upd (fun z => if stored.contains z then m' z else m₀ z) ps := by
  refine upd_of (fun z hz => ?_) hk
  cases h : stored.contains z with
  | true => simp
  | false => simp only [Bool.false_eq_true, if_false]; exact hm z hz h

theorem fr_stored {h₀ h : Heap} {L : Addr} {m' m₀ : Str → Option Value} {ps : List (Str × Value)} {stored : List Str} (F : Fr h₀ L h m') (hm : ∀ z, (∀ p ∈ ps, z ≠ p.1) → stored.contains z = false → m' z = m₀ z) (hk : ∀ p ∈ ps, m' p.1 = some p.2) :
    Fr h₀ L h (upd (fun z => if stored.contains z then m' z else m₀ z) ps) := by
  rw [← upd_stored hm hk]; exact F

theorem extend_K {prog : Program} {w : World} {A : Around} {E : Value → Shared → Prop} {s : Shared} {h₀ : Heap} {L D b : Addr} {m : Str → Option Value} {news : List (Addr × Obj)} {news' : Nat → List (Addr × Obj)} {vs ws : List Value} {n n2 : Nat} {Q : Value → Shared → Prop} (F : Fr h₀ L s.heap m) (N : News h₀ L s.heap news)
    (hb : (b, W.listOf ws.toArray n2) ∈ news) (U : ∀ c, Upd D (W.listOf vs.toArray n) (W.listOf (vs ++ ws).toArray c) news (news' c)) (hv : vs.length + ws.length ≤ 300)
    (h : ∀ h' c, Fr h₀ L h' m → News h₀ L h' (news' c) → Q .none { s with heap := h' }) : wpAny (model prog w) A (call (.builtin "list.extend") [.ref D, .ref b]) Q E s := by
  have hno : ¬(!vs.toArray.isEmpty && Builtin.List.listTooLong (vs.toArray.size + ws.toArray.size)) = true := by
    have : Builtin.List.listTooLong (vs.toArray.size + ws.toArray.size) = false := by
      simp only [List.size_toArray]
      generalize vs.length + ws.length = z at hv
      unfold Builtin.List.listTooLong
      rw [sizeLine_eq]
      simp
      omega
    rw [this]
    simp
  have z1 : vs.toArray.toList.length ≤ sizeLine := by rw [sizeLine_eq]; simp; omega
  have z2 : vs.toArray.size + ws.toArray.size ≤ sizeLine + 1 := by rw [sizeLine_eq]; simp only [List.size_toArray]; omega
  by_cases he : ws = []
  · subst he
    have U' := U n
    rw [List.append_nil] at U'
    exact kxn_extend F N hb rfl U' hno z1 z2 fun h' F' N' => h h' n F' N'
  · refine kl_extend (l := vs ++ ws) F N hb (by simp) (by simpa using he) (U (n + 1)) hno z1 z2 fun h' F' N' => h h' (n + 1) F' N'

section
variable {hb h : Heap} {L e : Addr} {m : Str → Option Value} {X : String} {ctx fl : Value} {led : List (Addr × Obj)}
theorem Hot.ne (H : Hot hb L h m e X ctx led fl) : e ≠ L := by
  obtain ⟨⟨⟨F, _, _⟩, _, _⟩, ⟨ob, t, T, oT, ts, he, hcls, hd, _⟩, _⟩ := H
  obtain ⟨oL, es, ep, hL, hLd, _⟩ := F.ns
  intro q
  rw [q, hL] at he
  cases he
  rw [hLd] at hd
  cases hd
theorem Hot.toNews (H : Hot hb L h m e X ctx led fl) : ∃ ob t T oT ts, ob.cls = .type X ∧ ob.data = .fields #[t, .ref T, ctx, .none, .bool false, .none] ∧ oT.data = .fields ts ∧ ts[3]? = some fl ∧ T ≠ L ∧ T ≠ e ∧ (∀ p ∈ led, p.1 ≠ e) ∧ (∀ p ∈ led, p.1 ≠ T) ∧
    Fr hb L h m ∧ News hb L h ((e, ob) :: (T, oT) :: led) := by
  have hne := H.ne
  obtain ⟨⟨⟨F, _, hbe⟩, N, hap⟩, ⟨ob, t, T, oT, ts, he, hcls, hd, hT, hTd, h3, hTL, hTe, hbT⟩, hape⟩ := H
  refine ⟨ob, t, T, oT, ts, hcls, hd, hTd, h3, hTL, hTe, hape, hap ob _ T he hd rfl, F, fun p hp => ?_⟩
  rcases List.mem_cons.mp hp with q | hp
  · rw [q]; exact ⟨he, hne, hbe⟩
  · rcases List.mem_cons.mp hp with q | hp
    · rw [q]; exact ⟨hT, hTL, hbT⟩
    · exact N p hp
theorem Hot.ofNews {ob oT : Obj} {t : Value} {T : Addr} {ts : Array Value} (h1 : ob.cls = .type X) (h2 : ob.data = .fields #[t, .ref T, ctx, .none, .bool false, .none]) (h3 : oT.data = .fields ts) (h4 : ts[3]? = some fl) (h5 : T ≠ L) (h6 : T ≠ e) (h7 : ∀ p ∈ led, p.1 ≠ e) (h8 : ∀ p ∈ led, p.1 ≠ T)
    (F : Fr hb L h m) (N : News hb L h ((e, ob) :: (T, oT) :: led)) : Hot hb L h m e X ctx led fl := by
  have z1 := N _ (.head _)
  have z2 := N _ (.tail _ (.head _))
  refine ⟨⟨⟨F, ⟨ob, _, T, oT, ts, z1.1, h1, h2, rfl, z2.1, h3, h4, h5, h6, z2.2.2⟩, z1.2.2⟩, fun p hp => N p (.tail _ (.tail _ hp)), ?_⟩, ⟨ob, t, T, oT, ts, z1.1, h1, h2, z2.1, h3, h4, h5, h6, z2.2.2⟩, h7⟩
  intro ob' ws tb e1 e2 e3 p hp
  rw [z1.1] at e1
  obtain rfl := Option.some.inj e1
  rw [h2] at e2
  injection e2 with e2
  subst e2
  have e3' : some (Value.ref T) = some (Value.ref tb) := by simpa using e3
  injection e3' with e3'
  injection e3' with e3'
  rw [← e3']
  exact h8 p hp
theorem Hot.sub {led' : List (Addr × Obj)} (H : Hot hb L h m e X ctx led fl) (hs : ∀ p ∈ led', p ∈ led) : Hot hb L h m e X ctx led' fl :=
  ⟨⟨H.held.held, fun p hp => H.held.made p (hs p hp), fun ob vs tb e1 e2 e3 p hp => H.held.apart ob vs tb e1 e2 e3 p (hs p hp)⟩, H.obj, fun p hp => H.apart p (hs p hp)⟩
end

theorem passOn_hot {α : Type} {prog : Program} {w : World} {A : Around} {E : Value → Shared → Prop} {Q : α → Shared → Prop} {s : Shared} {hb : Heap} {L a e : Addr} {m : Str → Option Value} {name : Str} {scope : Scope} {cd : Value} {X what : String} {ctx fl : Value} {led : List (Addr × Obj)} (H : Hot hb L s.heap m e X ctx led fl)
    (h : ∀ h', Hot hb L h' m e X ctx led (rawInt L) → E (.ref e) { s with heap := h' }) : wpAny (model prog w) A (PySem.passOn what (.ref e) (envOf name scope L a cd) : Sem α) Q E s := by
  have H0 := H
  obtain ⟨_, ⟨ob, t, T, oT, ts, he, hcls, hd, _⟩, _⟩ := H0
  unfold PySem.passOn
  refine wpAny_bind (wpAny_field he hd (x := .ref T) rfl ?_)
  rw [if_neg (show ¬ (Value.ref T == Value.none) = true from by simp)]
  exact wpAny_bind (flight_hot (some L) H fun h' H' => wpAny_throw (h h' H'))
/-- an IndexError stands noted in the frame: the places, what is told so far, a word about these -/
def SldRaised (h₀ : Heap) (L' L lm lu : Addr) (oL : Obj) (news : List (Addr × Obj)) (m₀ : Str → Option Value) (R : Nat → Nat → List Int → List Int → Value → (Str → Option Value) → Prop) (s : Shared) (v : Value) (s₂ : Shared) : Prop :=
  ∃ (e : Addr) (i j : Nat) (ti tj : Tok) (vm vu : List Value) (cm cu : Nat) (mis unx : List Int) (ctx : Value) (sl : Array (Option Value)) (u : Str → Option Value) (h : Heap) (tk : Nat),
    v = .ref e ∧ s₂ = { s with heap := h, toks := tk } ∧
    Hot h₀ L' h (upd (fun z => if [Str.ofString "e", Str.ofString "a"].contains z then u z else m₀ z) [(Str.ofString "i", Value.int (i : Int) ti), (Str.ofString "j", Value.int (j : Int) tj)]) e "IndexError" ctx (((lu, W.listOf (List.toArray vu) cu) :: (lm, W.listOf (List.toArray vm) cm) :: news) ++ [(L, { oL with slots := sl })]) (rawInt L') ∧
    IntsAre vm mis ∧ IntsAre vu unx ∧ R i j mis unx ctx u

section
variable {prog : Program} {w : World} {A : Around} {E : Value → Shared → Prop} {s : Shared} {name : Str} {scope : Scope} {a : Addr} {cd : Value} {h₀ : Heap} {L' L lm lu : Addr} {oL : Obj} {news : List (Addr × Obj)} {m₀ : Str → Option Value} {R : Nat → Nat → List Int → List Int → Value → (Str → Option Value) → Prop}
theorem sld_cut {α : Type} {t : Sem α} {Q : α → Shared → Prop} {E₂ : Value → Shared → Prop} {h2 : Heap} {u : Str → Option Value} {i j : Nat} {ti tj : Tok}
    (_F1 : Fr h₀ L' h2 (upd (fun z => if [Str.ofString "e", Str.ofString "a"].contains z then u z else m₀ z) [(Str.ofString "i", Value.int (i : Int) ti), (Str.ofString "j", Value.int (j : Int) tj)]))
    (L lm lu : Addr) (oL : Obj) (news : List (Addr × Obj)) (R : Nat → Nat → List Int → List Int → Value → (Str → Option Value) → Prop)
    (h1 : ∀ EE : Value → Shared → Prop, (∀ v s', wpAny (model prog w) A (noteFrame v (envOf name scope L' a cd)) (fun _ s₂ => SldRaised h₀ L' L lm lu oL news m₀ R s v s₂) (fun _ _ => False) s' → EE v s') → PassesOwn (model prog w) A (envOf name scope L' a cd) EE → wpAny (model prog w) A t Q EE s)
    (h2 : ∀ v s₂, SldRaised h₀ L' L lm lu oL news m₀ R s v s₂ → E₂ v s₂) :
    wpAny (model prog w) A t Q (fun e s₁ => wpAny (model prog w) A (noteFrame e (envOf name scope L' a cd)) (fun _ s₂ => E₂ e s₂) E s₁) s := by
  refine cutEE (SldRaised h₀ L' L lm lu oL news m₀ R s) h1 ?_ h2
  rintro v s₂ ⟨e, i, j, ti, tj, vm, vu, cm, cu, mis, unx, ctx, sl, u, h, tk, rfl, rfl, H, r⟩
  exact hotBy_cameBack H fun h' H' => noted_hot H' ⟨e, i, j, ti, tj, vm, vu, cm, cu, mis, unx, ctx, sl, u, h', tk, rfl, rfl, H', r⟩

theorem sld_cut2 {α : Type} {A₂ : Around} {t : Sem α} {Q : α → Shared → Prop} {E₂ EE₀ : Value → Shared → Prop} {s₀ : Shared} {R₀ : Nat → Nat → List Int → List Int → Value → (Str → Option Value) → Prop}
    (_hEE : ∀ v s', wpAny (model prog w) A₂ (noteFrame v (envOf name scope L' a cd)) (fun _ s₂ => SldRaised h₀ L' L lm lu oL news m₀ R₀ s₀ v s₂) (fun _ _ => False) s' → EE₀ v s')
    (R : Nat → Nat → List Int → List Int → Value → (Str → Option Value) → Prop)
    (h1 : ∀ EE : Value → Shared → Prop, (∀ v s', wpAny (model prog w) A (noteFrame v (envOf name scope L' a cd)) (fun _ s₂ => SldRaised h₀ L' L lm lu oL news m₀ R s v s₂) (fun _ _ => False) s' → EE v s') → PassesOwn (model prog w) A (envOf name scope L' a cd) EE → wpAny (model prog w) A t Q EE s)
    (h2 : ∀ v s₂, SldRaised h₀ L' L lm lu oL news m₀ R s v s₂ → E₂ v s₂) :
    wpAny (model prog w) A t Q (fun e s₁ => wpAny (model prog w) A (noteFrame e (envOf name scope L' a cd)) (fun _ s₂ => E₂ e s₂) E s₁) s := by
  refine cutEE (SldRaised h₀ L' L lm lu oL news m₀ R s) h1 ?_ h2
  rintro v s₂ ⟨e, i, j, ti, tj, vm, vu, cm, cu, mis, unx, ctx, sl, u, h, tk, rfl, rfl, H, r⟩
  exact hotBy_cameBack H fun h' H' => noted_hot H' ⟨e, i, j, ti, tj, vm, vu, cm, cu, mis, unx, ctx, sl, u, h', tk, rfl, rfl, H', r⟩

theorem sld_raise {EE : Value → Shared → Prop} {env : Env} {h h9 : Heap} {m' : Str → Option Value} {e9 : Addr} {t9 ctx : Value} {tk9 i j : Nat} {ti tj : Tok} {vm vu : List Value} {cm cu : Nat} {mis unx : List Int} {oX : Obj} {ex : List (Addr × Obj)}
    (hEE : ∀ v s', wpAny (model prog w) A (noteFrame v (envOf name scope L' a cd)) (fun _ s₂ => SldRaised h₀ L' L lm lu oL news m₀ R s v s₂) (fun _ _ => False) s' → EE v s')
    (hfr : A.frames = some [envOf name scope L' a cd, env]) (hsk : scope.kind = .function) (Fs : Frs [env] [(L, oX)]) (hX : ∃ sl, oX = { oL with slots := sl })
    (hx : NewX h h9 e9 "IndexError" #[t9, .none, ctx, .none, .bool false, .none]) (F : Fr h₀ L' h m')
    (N : News h₀ L' h ((ex ++ ((lu, W.listOf (List.toArray vu) cu) :: (lm, W.listOf (List.toArray vm) cm) :: news)) ++ [(L, oX)]))
    (hxL : ∀ p ∈ ex, p.1 ≠ L) (hlu : lu ≠ L) (hlm : lm ≠ L) (hnL : ∀ p ∈ news, p.1 ≠ L)
    (hm : ∀ z, (∀ p ∈ [(Str.ofString "i", Value.int (i : Int) ti), (Str.ofString "j", Value.int (j : Int) tj)], z ≠ p.1) → [Str.ofString "e", Str.ofString "a"].contains z = false → m' z = m₀ z)
    (hk : ∀ p ∈ [(Str.ofString "i", Value.int (i : Int) ti), (Str.ofString "j", Value.int (j : Int) tj)], m' p.1 = some p.2)
    (hvm : IntsAre vm mis) (hvu : IntsAre vu unx) (hR : R i j mis unx ctx m') : EE (.ref e9) { s with heap := h9, toks := tk9 } := by
  refine hEE _ _ (noted_newX (s' := { s with heap := h9, toks := tk9 }) hfr Fs hx F N ?_ ?_ hsk)
  · intro p hp hq
    rcases List.mem_cons.mp hq with q | hq
    · exact (N p (List.mem_append_left _ hp)).2.1 q
    · have q : p.1 = L := List.mem_singleton.mp hq
      rcases List.mem_append.mp hp with hp | hp
      · exact hxL p hp q
      · rcases List.mem_cons.mp hp with z | hp
        · rw [z] at q; exact hlu q
        · rcases List.mem_cons.mp hp with z | hp
          · rw [z] at q; exact hlm q
          · exact hnL p hp q
  · intro h' frs' SU Fs' H
    obtain ⟨sl, rfl⟩ := one_slots SU
    obtain ⟨sl0, rfl⟩ := hX
    rw [upd_stored hm hk] at H
    refine ⟨e9, i, j, ti, tj, vm, vu, cm, cu, mis, unx, ctx, sl, m', h', tk9, rfl, rfl, H.sub ?_, hvm, hvu, hR⟩
    intro p hp
    rcases List.mem_append.mp hp with hp | hp
    · exact List.mem_append_left _ (List.mem_append_right _ hp)
    · exact List.mem_append_right _ hp
theorem sld_pass {α : Type} {Q : α → Shared → Prop} {EE : Value → Shared → Prop} {h : Heap} {m' : Str → Option Value} {e1 T1 : Addr} {ob oT : Obj} {t1 ctx fl : Value} {ts : Array Value} {tk9 i j : Nat} {ti tj : Tok} {vm vu : List Value} {cm cu : Nat} {mis unx : List Int} {sl : Array (Option Value)} {what : String}
    (hEE : ∀ v s', wpAny (model prog w) A (noteFrame v (envOf name scope L' a cd)) (fun _ s₂ => SldRaised h₀ L' L lm lu oL news m₀ R s v s₂) (fun _ _ => False) s' → EE v s')
    (y1 : ob.cls = .type "IndexError") (y2 : ob.data = .fields #[t1, .ref T1, ctx, .none, .bool false, .none]) (y3 : oT.data = .fields ts) (y4 : ts[3]? = some fl) (y5 : T1 ≠ L') (y6 : T1 ≠ e1)
    (y7 : ∀ p ∈ ((lu, W.listOf (List.toArray vu) cu) :: (lm, W.listOf (List.toArray vm) cm) :: news) ++ [(L, { oL with slots := sl })], p.1 ≠ e1) (y8 : ∀ p ∈ ((lu, W.listOf (List.toArray vu) cu) :: (lm, W.listOf (List.toArray vm) cm) :: news) ++ [(L, { oL with slots := sl })], p.1 ≠ T1)
    (F : Fr h₀ L' h m') (N : News h₀ L' h ((e1, ob) :: (T1, oT) :: (((lu, W.listOf (List.toArray vu) cu) :: (lm, W.listOf (List.toArray vm) cm) :: news) ++ [(L, { oL with slots := sl })])))
    (hm : ∀ z, (∀ p ∈ [(Str.ofString "i", Value.int (i : Int) ti), (Str.ofString "j", Value.int (j : Int) tj)], z ≠ p.1) → [Str.ofString "e", Str.ofString "a"].contains z = false → m' z = m₀ z)
    (hk : ∀ p ∈ [(Str.ofString "i", Value.int (i : Int) ti), (Str.ofString "j", Value.int (j : Int) tj)], m' p.1 = some p.2)
    (hvm : IntsAre vm mis) (hvu : IntsAre vu unx) (hR : R i j mis unx ctx m') : wpAny (model prog w) A (PySem.passOn what (.ref e1) (envOf name scope L' a cd) : Sem α) Q EE { s with heap := h, toks := tk9 } := by
  have H := Hot.ofNews y1 y2 y3 y4 y5 y6 y7 y8 F N
  rw [upd_stored hm hk] at H
  exact passOn_hot (s := { s with heap := h, toks := tk9 }) H fun h' H' => hEE _ _ (noted_hot H' ⟨e1, i, j, ti, tj, vm, vu, cm, cu, mis, unx, ctx, sl, m', h', tk9, rfl, rfl, H', hvm, hvu, hR⟩)
end

section
variable {E A : List Int} {i j : Nat} {mis unx : List Int}
theorem sld_lt (hi : i < E.length) (hj : j < A.length) (h : E.getD i 0 < A.getD j 0) (h1 : mis ++ (mrg (E.drop i) (A.drop j)).1 = (mrg E A).1) (h2 : unx ++ (mrg (E.drop i) (A.drop j)).2 = (mrg E A).2) :
    (mis ++ [E.getD i 0]) ++ (mrg (E.drop (i + 1)) (A.drop j)).1 = (mrg E A).1 ∧ unx ++ (mrg (E.drop (i + 1)) (A.drop j)).2 = (mrg E A).2 := by
  rw [drop_cons hi, drop_cons hj, mrg_cons, if_pos h] at h1 h2
  rw [drop_cons hj]
  exact ⟨by simpa using h1, h2⟩
theorem sld_gt (hi : i < E.length) (hj : j < A.length) (h : A.getD j 0 < E.getD i 0) (h1 : mis ++ (mrg (E.drop i) (A.drop j)).1 = (mrg E A).1) (h2 : unx ++ (mrg (E.drop i) (A.drop j)).2 = (mrg E A).2) :
    mis ++ (mrg (E.drop i) (A.drop (j + 1))).1 = (mrg E A).1 ∧ (unx ++ [A.getD j 0]) ++ (mrg (E.drop i) (A.drop (j + 1))).2 = (mrg E A).2 := by
  rw [drop_cons hi, drop_cons hj, mrg_cons, if_neg (by omega), if_pos h] at h1 h2
  rw [drop_cons hi]
  exact ⟨h1, by simpa using h2⟩
theorem sld_eq (hi : i < E.length) (hj : j < A.length) (h : ¬ E.getD i 0 < A.getD j 0) (h' : ¬ A.getD j 0 < E.getD i 0) (h1 : mis ++ (mrg (E.drop i) (A.drop j)).1 = (mrg E A).1) (h2 : unx ++ (mrg (E.drop i) (A.drop j)).2 = (mrg E A).2) :
    mis ++ (mrg (E.drop (i + 1)) (A.drop (j + 1))).1 = (mrg E A).1 ∧ unx ++ (mrg (E.drop (i + 1)) (A.drop (j + 1))).2 = (mrg E A).2 := by
  rw [drop_cons hi, drop_cons hj, mrg_cons, if_neg h, if_neg h'] at h1 h2
  exact ⟨h1, h2⟩
theorem sld_end (h : i = E.length ∨ j = A.length) (h1 : mis ++ (mrg (E.drop i) (A.drop j)).1 = (mrg E A).1) (h2 : unx ++ (mrg (E.drop i) (A.drop j)).2 = (mrg E A).2) :
    mis ++ E.drop i = (mrg E A).1 ∧ unx ++ A.drop j = (mrg E A).2 := by
  rcases h with h | h
  · rw [h, List.drop_length, mrg_nil_l] at h1 h2
    rw [h, List.drop_length]
    exact ⟨h1, h2⟩
  · rw [h, List.drop_length, mrg_nil_r] at h1 h2
    rw [h, List.drop_length]
    exact ⟨h1, h2⟩
end
end Mine
end
section
open PySem PySem.W PyProof.Rows PySem.Spec PySem.Calls
set_option maxRecDepth 100000
namespace Mine
theorem append_Y {prog : Program} {w : World} {A : Around} {E : Value → Shared → Prop} {s : Shared} {h₀ : Heap} {L D : Addr} {m : Str → Option Value} {news : List (Addr × Obj)} {news' : Value → List (Addr × Obj)} {vs : List Value} {n : Nat} {x : Value} {Q : Value → Shared → Prop} (F : Fr h₀ L s.heap m) (N : News h₀ L s.heap news)
    (U : ∀ y, Upd D (listOf vs.toArray n) (listOf (vs ++ [y]).toArray (n + 1)) news (news' y)) (hz : vs.length ≤ 1000)
    (h : ∀ y h', y = x → Fr h₀ L h' m → News h₀ L h' (news' y) → Q .none { s with heap := h' }) : wpAny (model prog w) A (call (.builtin "list.append") [.ref D, x]) Q E s := by
  have U' := U x
  rw [← List.push_toArray] at U'
  exact append_K F N U' (fun h' F' N' => h x h' rfl F' N') (by rw [sizeLine_eq]; simp; omega)
theorem ints_get : ∀ {vs : List Value} {xs : List Int}, IntsAre vs xs → ∀ {j : Nat} {v : Value}, vs[j]? = some v → ∃ x t, xs[j]? = some x ∧ v = .int x t
  | _, _, .nil, _, _, h => by simp at h
  | _, _, .cons x t r, 0, v, h => ⟨x, t, rfl, by simpa using h.symm⟩
  | _, _, .cons x t r, j + 1, v, h => by
    obtain ⟨y, u, e1, e2⟩ := ints_get r (j := j) (v := v) (by simpa using h)
    exact ⟨y, u, by simpa using e1, e2⟩
theorem carried_append {vs : List Value} {ds : List PyData} {v : Value} {d : PyData} (h : CarriedAll vs ds) (hv : Carried v d) : CarriedAll (vs ++ [v]) (ds ++ [d]) := by
  induction h with
  | nil => exact .cons hv .nil
  | cons x _ ih => exact .cons x ih
theorem glued_ones (l : List Nat) : PySem.Txt.join (PySem.Str.ofString "") (l.map fun a => (⟨#[a]⟩ : Str)) = ⟨l.toArray⟩ := by
  show Builtin.Str.glued (PySem.Str.ofString "") _ = _
  rw [StrLaws.glued_eq_join]
  have e0 : (PySem.Str.ofString "").cps.toList = [] := by decide
  induction l with
  | nil => rfl
  | cons a r ih =>
    cases r with
    | nil => rfl
    | cons b r =>
      apply str_ext
      have ih' := congrArg (fun z : Str => z.cps.toList) ih
      show ((#[a] ++ (PySem.Str.ofString "").cps) ++ (PySem.Str.join (PySem.Str.ofString "") ((b :: r).map fun a => (⟨#[a]⟩ : Str))).cps).toList = _
      rw [Array.toList_append, Array.toList_append, e0]
      simp only [List.append_nil]
      rw [show (PySem.Str.join (PySem.Str.ofString "") ((b :: r).map fun a => (⟨#[a]⟩ : Str))).cps.toList = b :: r from ih']
      rfl

theorem cond_of {stored : List Str} {m₁ m₀ : Str → Option Value} {z : Str} (h : stored.contains z = false → m₁ z = m₀ z) : m₁ z = if stored.contains z then m₁ z else m₀ z := by
  cases hs : stored.contains z with
  | true => rfl
  | false => exact h hs
/-- the end of a turn of a for whose target is any (a cell, a pair): its names are among the stored ones -/
def UEnd {σ : Type} (h₀ : Heap) (L : Addr) (s : Shared) (Led : σ → List (Addr × Obj)) (ps : σ → List (Str × Value)) (stored : List Str) (m₀ : Str → Option Value) (P : Nat → σ → Prop) (own : List (Addr × Obj)) (I : Addr) (i : Nat) (f : Flow) (s₂ : Shared) : Prop :=
  f = .next ∧ ∃ (c' : σ) (h' : Heap) (tk : Nat) (m' : Str → Option Value) (news' : List (Addr × Obj)), s₂ = { s with heap := h', toks := tk } ∧ Fr h₀ L h' m' ∧ News h₀ L h' news' ∧ (∀ p ∈ Led c', p ∈ news') ∧ (∀ p ∈ own, p ∈ news') ∧ (∀ p ∈ Led c', p.1 ≠ I) ∧ (∀ p ∈ ps c', m' p.1 = some p.2) ∧ (∀ z, (∀ p ∈ ps c', z ≠ p.1) → stored.contains z = false → m' z = m₀ z) ∧ P (i + 1) c'
theorem uend {σ : Type} {h₀ : Heap} {L I : Addr} {s : Shared} {Led : σ → List (Addr × Obj)} {ps : σ → List (Str × Value)} {stored : List Str} {m₀ m' : Str → Option Value} {P : Nat → σ → Prop} {own : List (Addr × Obj)} {i : Nat} {h' : Heap} {tk : Nat} {news' : List (Addr × Obj)} (c' : σ)
    (F : Fr h₀ L h' m') (N : News h₀ L h' news') (hn : ∀ p ∈ Led c', p ∈ news') (ho : ∀ p ∈ own, p ∈ news') (ha : ∀ p ∈ Led c', p.1 ≠ I) (hk : ∀ p ∈ ps c', m' p.1 = some p.2) (hm : ∀ z, (∀ p ∈ ps c', z ≠ p.1) → stored.contains z = false → m' z = m₀ z) (hp : P (i + 1) c') :
    UEnd h₀ L s Led ps stored m₀ P own I i .next { s with heap := h', toks := tk } := ⟨rfl, c', h', tk, m', news', rfl, F, N, hn, ho, ha, hk, hm, hp⟩
/-- what follows the iterator of a for with any target -/
def ForT (prog : Program) (w : World) (A : Around) (env : Env) (target : Expr) (body : List Stmt) (Q : Flow → Shared → Prop) (E : Value → Shared → Prop) (it : Value) (s₂ : Shared) : Prop :=
  codeAny (model prog w) A (.forLoop target it body [] env) (fun r s' => match r with | .ok f => Q f s' | .error e => cameBackBy (model prog w) A env E e s') s₂
theorem For_T {prog : Program} {w : World} {A : Around} {E : Value → Shared → Prop} {Q : Flow → Shared → Prop} {s : Shared} {env : Env} {target iter : Expr} {body : List Stmt} {pos : Pos}
    (h : wpAny (model prog w) A (eval iter env) (fun xv s₁ => wpAny (model prog w) A (pyIter xv) (fun it s₂ => ForT prog w A env target body Q E it s₂) E s₁) E s)
    (hs : ∀ x, foldedSetIterable iter env x = pure x := by intro _; rfl) : wpAny (model prog w) A (exec (.For target iter body [] pos) env) Q E s :=
  wpAny_For (wpAny_mono h (fun xv s₁ h₁ => wpAny_mono h₁ (fun it s₂ h₂ => h₂) fun _ _ e => e) fun _ _ e => e) hs

theorem for_listT {σ : Type} {prog : Program} {w : World} {A : Around} {E : Value → Shared → Prop} {Q : Flow → Shared → Prop} {s : Shared} {env : Env} {h₀ : Heap} {target : Expr} {body : List Stmt} {m₀ : Str → Option Value} {l : Addr} {vs : List Value} {nn : Nat} {news : List (Addr × Obj)}
    (Led : σ → List (Addr × Obj)) (ps : σ → List (Str × Value)) (stored : List Str) (P : Nat → σ → Prop) (c₀ : σ)
    (hgo : ∀ (s' : Shared) (I : Addr) v (Q' : Unit → Shared → Prop) (E' : Value → Shared → Prop), (∃ j, s'.heap.IsListIter I l j) → Q' () s' → wpAny (model prog w) A (letOwnedTupleGo target (.ref I) v) Q' E' s')
    (hE : PassesOwn (model prog w) A env E)
    (hh : A.handled = none) (hl : (l, listOf vs.toArray nn) ∈ news) (F : Fr h₀ env.locals s.heap m₀) (N : News h₀ env.locals s.heap news) (hn : ∀ p ∈ Led c₀, p ∈ news) (hk : ∀ p ∈ ps c₀, m₀ p.1 = some p.2) (hp : P 0 c₀)
    (turn : ∀ (c : σ) (i : Nat) v (u : Str → Option Value) (s₁ : Shared) I oI own, vs[i]? = some v → P i c → (∀ p ∈ Led c, p.1 ≠ I) → (I, oI) ∈ own → (∀ p ∈ own, p.1 = I ∨ p.1 = l) →
      Fr h₀ env.locals s₁.heap (upd (fun z => if stored.contains z then u z else m₀ z) (ps c)) → News h₀ env.locals s₁.heap (Led c ++ own) →
      wpAny (model prog w) A (assign target env v) (fun _ s₂ => wpAny (model prog w) A (execs body env) (UEnd h₀ env.locals s₁ Led ps stored m₀ P own I i) E s₂) E s₁)
    (done : ∀ (c : σ) (u : Str → Option Value) h tk, P vs.length c → Fr h₀ env.locals h (upd (fun z => if stored.contains z then u z else m₀ z) (ps c)) → News h₀ env.locals h (Led c) → Q .next { s with heap := h, toks := tk }) :
    wpAny (model prog w) A (pyIter (.ref l)) (fun it s₂ => ForT prog w A env target body Q E it s₂) E s := by
  have hlist : s.heap.IsList l vs.toArray := (PySem.IsL.isList (n := nn) (N (l, listOf vs.toArray nn) hl).1)
  have hlt : l < s.heap.objs.size := by obtain ⟨_, e, _⟩ := hlist; exact Heap.lt_size e
  refine wpAny_pyIter_list hlist ?_
  have W := Walks.list (prog := prog) (w := w) hh s.heap.objs.size l (Nat.ne_of_lt hlt) vs.toArray
  have up : ∀ p ∈ Led c₀, (s.heap.push { cls := .type "list_iterator", data := .fields #[.ref l, .int 0 0] }).get? p.1 = some p.2 ∧ p.1 ≠ env.locals ∧ h₀.get? p.1 = none := fun p hp => ⟨Heap.get?_push_of_some _ (N p (hn p hp)).1, (N p (hn p hp)).2⟩
  show codeAny _ _ _ _ _
  refine codeAny_forLoop_anyU (h₀ := h₀) (m := m₀) (news := Led c₀) W ?_ ?_ ?_ ⟨⟨_, Heap.get?_push_size _ rfl, rfl, rfl⟩, hlist.push _⟩ (F.push _) up ?_ (fun i m nx => ∃ c, nx = Led c ∧ (∀ p ∈ ps c, m p.1 = some p.2) ∧ (∀ z, (∀ p ∈ ps c, z ≠ p.1) → stored.contains z = false → m z = m₀ z) ∧ P i c) ⟨c₀, rfl, hk, fun _ _ _ => rfl, hp⟩ ?_ ?_
  · intro hm
    rcases List.mem_cons.mp hm with q | hm
    · exact absurd F.ns.lt (q ▸ Nat.lt_irrefl _)
    · have q : env.locals = l := List.mem_singleton.mp hm
      exact (N _ hl).2.1 q.symm
  · intro b hb
    rw [List.mem_singleton.mp hb]
    exact next_is_new F
  · intro p hp hq
    exact absurd (Heap.lt_size (N p (hn p hp)).1) ((List.mem_singleton.mp hq) ▸ Nat.lt_irrefl _)
  · intro i s' v Q' st hq
    exact hgo s' _ v Q' _ ⟨_, st.1⟩ hq
  · rintro i v m₁ _ s₁ own hi hv ⟨c, rfl, h1, h2, hc⟩ hoff hofp hown hall hst' F₁ N₁
    obtain ⟨oI, heI, _⟩ := hst'.1
    have hmI : (s.heap.objs.size, oI) ∈ own := hall _ (.head _) (next_is_new F) oI heI
    have hoff' : ∀ p ∈ Led c, p.1 ≠ s.heap.objs.size := fun p hp e => hoff p hp (List.mem_singleton.mpr e)
    have N₂ : News h₀ env.locals s₁.heap (Led c ++ own) := fun p hp => N₁ p ((List.mem_append.mp hp).elim (fun h => List.mem_append.mpr (.inr h)) fun h => List.mem_append.mpr (.inl h))
    rw [upd_of (m' := m₁) (m₀ := fun z => if stored.contains z then m₁ z else m₀ z) (fun z hz => cond_of (h2 z hz)) h1] at F₁
    have X := turn c i v m₁ s₁ _ oI own (by simpa using hv) hc hoff' hmI (fun p hp => by have := hofp p hp; simpa using this) F₁ N₂
    refine wpAny_passesOwn hE (wpAny_mono X (fun _ s₂ h₂ => wpAny_passesOwn hE (wpAny_mono h₂ (fun f s₃ h₃ => ?_) fun _ _ e => e)) fun _ _ e => e)
    obtain ⟨rfl, c', h', tk', m', news', e, F', N', hn', ho, ha, hk', hm', hp'⟩ := h₃
    exact ⟨rfl, h', tk', m', Led c', e, F', fun p hp => N' p ((List.mem_append.mp hp).elim (ho p) (hn' p)), fun p hp hq => ha p hp (List.mem_singleton.mp hq), c', rfl, hk', hm', hp'⟩
  · rintro h' tk m' _ F' N' _ ⟨c, rfl, h1, h2, hc⟩
    rw [upd_of (m' := m') (m₀ := fun z => if stored.contains z then m' z else m₀ z) (fun z hz => cond_of (h2 z hz)) h1] at F'
    refine done c m' h' tk ?_ F' N'
    simpa using hc
end Mine
end
section
open PySem PySem.W PyProof.Rows PySem.Spec PySem.Calls PyProof.Rows.LCg
set_option maxRecDepth 100000
namespace Mine
theorem compEnd_mono {h₀ : Heap} {L : Addr} {m : Str → Option Value} {s₁ : Shared} {I C D : Addr} {oI oC oD : Obj} {S : List (Addr × Obj) → Prop} {r r' : Value → List (Addr × Obj) → Prop} {y : Value} {s₂ : Shared}
    (h : CompEnd h₀ L m s₁ I oI C oC D oD S r y s₂) (k : ∀ n, r y n → r' y n) : CompEnd h₀ L m s₁ I oI C oC D oD S r' y s₂ := by
  obtain ⟨h', tk, news', e, F, N, o, hs, hr⟩ := h
  exact ⟨h', tk, news', e, F, N, o, hs, k _ hr⟩
section
variable {prog : Program} {w : World} {A : Around} {s : Shared} {h₀ : Heap} {L : Addr} {m : Str → Option Value} {env : Env} {scope : Scope} {cl : List (Str × Addr)} {S : List (Addr × Obj) → Prop} {P : Nat → Value → Prop} {Fin : List Value → List (Addr × Obj) → Prop} {n : Nat}
theorem restT_of {ct elt : Expr} {x : Str} (J : Nat → List Value → List (Addr × Obj) → Prop)
    (hstep : ∀ i v ys news, i < n → P i v → J i ys news →
      ∀ I oI C oC D m₂ h tk (E' : Value → Shared → Prop), NsObj oC m₂ → m₂ x = some v → Fr h₀ L h m → News h₀ L h ((I, oI) :: (C, oC) :: (D, lst ys) :: news) → Off3 I C D news → ((@Ne Nat I C) ∧ (@Ne Nat I D) ∧ (@Ne Nat C D)) →
      wpAny (model prog w) A (isTrue ct (compEnvC scope cl C env) (eval ct (compEnvC scope cl C env))) (fun ok s' => if ok = true then
        wpAny (model prog w) A (eval elt (compEnvC scope cl C env)) (CompEnd h₀ L m { s with heap := h, toks := tk } I oI C oC D (lst ys) S (fun y news' => J (i + 1) (ys ++ [y]) news')) E' s'
        else CompEnd h₀ L m { s with heap := h, toks := tk } I oI C oC D (lst ys) S (fun _ news' => J (i + 1) ys news') Value.none s') E' { s with heap := h, toks := tk })
    (hfin : ∀ ys news, J n ys news → Fin ys news) : ∀ (k i : Nat) (ys : List Value) (news : List (Addr × Obj)), i + k = n → J i ys news → LCt.CompRestT prog w A h₀ L m env ct elt x scope cl s S P Fin k i ys news := by
  intro k
  induction k with
  | zero => intro i ys news e hJ; exact LCt.CompRestT.zero (hfin _ _ (by rw [← e]; exact hJ))
  | succ k ih =>
    intro i ys news e hJ
    refine LCt.CompRestT.succ fun v I oI C oC D m₂ h tk E' hv a b F N o q => ?_
    refine wpAny_mono (hstep i v ys news (by omega) hv hJ I oI C oC D m₂ h tk E' a b F N o q) (fun ok s' he => ?_) fun _ _ z => z
    cases ok with
    | true => exact wpAny_mono he (fun y s₂ he => compEnd_mono he fun nx hj => ih _ _ _ (by omega) hj) fun _ _ z => z
    | false =>
      have he' : CompEnd h₀ L m { s with heap := h, toks := tk } I oI C oC D (lst ys) S (fun _ news' => J (i + 1) ys news') Value.none s' := he
      show CompEnd h₀ L m { s with heap := h, toks := tk } I oI C oC D (lst ys) S (fun _ news' => LCt.CompRestT prog w A h₀ L m env ct elt x scope cl s S P Fin k (i + 1) ys news') Value.none s'
      exact compEnd_mono he' fun nx hj => ih _ _ _ (by omega) hj
end
/-- pairs of ints in new tuples -/
abbrev PL := List (Addr × (Int × Tok) × (Int × Tok))
def tupO (e : Addr × (Int × Tok) × (Int × Tok)) : Obj := { cls := .type "tuple", data := .seq #[.int e.2.1.1 e.2.1.2, .int e.2.2.1 e.2.2.2] }
def tups (c : PL) : List (Addr × Obj) := c.map fun e => (e.1, tupO e)
def refs (c : PL) : List Value := c.map fun e => .ref e.1
def vals (c : PL) : List (Int × Int) := c.map fun e => (e.2.1.1, e.2.2.1)
end Mine
end
section
open PySem PySem.W PyProof.Rows PySem.Spec PySem.Calls PyProof.Rows.LCg
set_option maxRecDepth 100000
namespace Mine
section
variable {prog : Program} {w : World} {A : Around} {s : Shared} {h₀ : Heap} {L : Addr} {m : Str → Option Value} {env : Env} {scope : Scope} {cl : List (Str × Addr)} {S : List (Addr × Obj) → Prop} {P : Nat → Value → Prop} {Fin : List Value → List (Addr × Obj) → Prop} {n : Nat}
theorem restU_of {elt : Expr} {x : Str} (J : Nat → List Value → List (Addr × Obj) → Prop)
    (hstep : ∀ i v ys news, i < n → P i v → J i ys news →
      ∀ I oI C oC D m₂ h tk (E' : Value → Shared → Prop), NsObj oC m₂ → m₂ x = some v → Fr h₀ L h m → News h₀ L h ((I, oI) :: (C, oC) :: (D, lst ys) :: news) → Off3 I C D news → ((@Ne Nat I C) ∧ (@Ne Nat I D) ∧ (@Ne Nat C D)) →
      wpAny (model prog w) A (eval elt (compEnvC scope cl C env)) (CompEnd h₀ L m { s with heap := h, toks := tk } I oI C oC D (lst ys) S (fun y news' => J (i + 1) (ys ++ [y]) news')) E' { s with heap := h, toks := tk })
    (hfin : ∀ ys news, J n ys news → Fin ys news) : ∀ (k i : Nat) (ys : List Value) (news : List (Addr × Obj)), i + k = n → J i ys news → CompRest prog w A h₀ L m env elt x scope cl s S P Fin k i ys news := by
  intro k
  induction k with
  | zero => intro i ys news e hJ; exact CompRest.zero (hfin _ _ (by rw [← e]; exact hJ))
  | succ k ih =>
    intro i ys news e hJ
    refine CompRest.succ fun v I oI C oC D m₂ h tk E' hv a b F N o q => ?_
    exact wpAny_mono (hstep i v ys news (by omega) hv hJ I oI C oC D m₂ h tk E' a b F N o q) (fun y s₂ he => compEnd_mono he fun nx hj => ih _ _ _ (by omega) hj) fun _ _ z => z
end
theorem ints_snoc {vs : List Value} {xs : List Int} {x : Int} {t : Tok} (h : IntsAre vs xs) : IntsAre (vs ++ [.int x t]) (xs ++ [x]) := h.append (.cons _ _ .nil)
theorem take_map_succ {α β : Type} {xs : List α} {f : α → β} {j : Nat} {x : α} (h : xs[j]? = some x) : (xs.take (j + 1)).map f = (xs.take j).map f ++ [f x] := by
  rw [List.take_add_one, h, List.map_append]; rfl
theorem take_filter_succ {α : Type} {xs : List α} {p : α → Bool} {j : Nat} {x : α} (h : xs[j]? = some x) : (xs.take (j + 1)).filter p = (xs.take j).filter p ++ (if p x then [x] else []) := by
  rw [List.take_add_one, h, List.filter_append]
  cases hp : p x <;> simp [hp]
end Mine
end
section
open PySem PySem.W PyProof.Rows PySem.Spec PySem.Calls PyProof.Rows.LCg PyProof.Rows.LCp
set_option maxRecDepth 100000
namespace Mine
/-- the end of a turn whose element is an int and leaves the heap -/
def ZEnd (s₂ : Shared) (h : Heap) (r : Int) (v : Value) (s' : Shared) : Prop := ∃ t tk', v = .int r t ∧ s' = { s₂ with heap := h, toks := tk' }
theorem zend {s₂ : Shared} {h : Heap} {r r' : Int} {t : Tok} {tk' : Nat} (e : r' = r) : ZEnd s₂ h r (.int r' t) { s₂ with heap := h, toks := tk' } := ⟨t, tk', by rw [e], rfl⟩
section
variable {prog : Program} {w : World} {A : Around} {E : Value → Shared → Prop} {s : Shared} {h₀ : Heap} {L : Addr} {m : Str → Option Value} {env : Env}
theorem fr_butW {h h' : Heap} {wr : List Addr} (F : Fr h₀ L h m) (hk : ∀ b o, b ∉ wr → h.get? b = some o → h'.get? b = some o) (hL : L ∉ wr) (hw : ∀ b ∈ wr, h₀.get? b = none) : Fr h₀ L h' m :=
  ⟨F.ns.at' fun o e => hk L o hL e, fun b o e => hk b o (fun hm => by rw [hw b hm] at e; cases e) (F.keep b o e), F.above⟩
theorem news_butW {h h' : Heap} {wr : List Addr} {news : List (Addr × Obj)} (N : News h₀ L h news) (hk : ∀ b o, b ∉ wr → h.get? b = some o → h'.get? b = some o) (off : ∀ p ∈ news, p.1 ∉ wr) : News h₀ L h' news :=
  fun p hp => ⟨hk _ _ (off p hp) (N p hp).1, (N p hp).2⟩
theorem block_Z {elt iter : Expr} {x x₂ : Str} {px px₂ tp : Pos} {tk} {scope : Scope} {cl : List (Str × Addr)} {pos : Pos} {s₂ : Shared} {I : Addr} {fp wr : List Addr} {n : Nat} {Pt : Nat → Array Value → Prop} {St : Nat → Heap → Prop} {Mid : Nat → Addr → Heap → Prop} {news : List (Addr × Obj)} {f : Nat → Int}
    {RR : Value → Addr → Result → Shared → Prop}
    (W : WalksT prog w A I fp wr n Pt St Mid) (hsz : n ≤ sizeLine) (hcell : ∀ y ∈ scope.names, y.2 ≠ .cell) (hkind : scope.kind = .function) (hx : scope.names.lookup x = some .local) (hx₂ : scope.names.lookup x₂ = some .local) (hxx : x ≠ x₂) (hh : A.handled = none)
    (hst : St 0 s₂.heap) (hfp : ∀ b ∈ fp, b < s₂.heap.objs.size)
    (F : Fr h₀ L s₂.heap m) (N : News h₀ L s₂.heap news) (hLw : L ∉ wr) (hw0 : ∀ b ∈ wr, h₀.get? b = none) (off : ∀ p ∈ news, p.1 ∉ wr)
    (turn : ∀ i vals, i < n → Pt i vals → ∃ v₁ v₂, vals = #[v₁, v₂] ∧ ∀ C oC m₂ h tk (E' : Value → Shared → Prop), NsObj oC m₂ → m₂ x = some v₁ → m₂ x₂ = some v₂ → Fr h₀ L h m → News h₀ L h ((C, oC) :: news) →
      wpAny (model prog w) A (eval elt (compEnvC scope cl C env)) (ZEnd s₂ h (f i)) E' { s₂ with heap := h, toks := tk })
    (hRR : ∀ D C h tk m' zs, Fr h₀ L h m → News h₀ L h ((D, lst zs) :: news) → Off1 D news → h.Ns C m' → h₀.get? C = none → h₀.get? D = none → C ≠ L → D ≠ L → C ≠ D → (∀ p ∈ news, p.1 ≠ C) → IntsAre zs ((List.range n).map f) → RR (.ref D) C (.ok .next) { s₂ with heap := h, toks := tk }) :
    wpAny (model prog w) A (newList []) (fun acc s₃ => wpAny (model prog w) A (newFunctionEnv scope env.globals cl [] env.qual none .none (some env)) (fun cenv s₄ =>
      codeAny (model prog w) A (.compStart (.ListComp elt [⟨.Tuple [.Name x px, .Name x₂ px₂] tk tp, iter, [], 0⟩] scope pos) 0 (.ref I) acc { cenv with scope := relabel scope env }) (RR acc cenv.locals) s₄) E s₃) E s₂ := by
  refine wpAny_newObj_type (wpAny_newFunctionEnv hcell (by intro y hy; simp at hy) (fun h₁ hns₁ hsb₁ => ?_) hkind)
  dsimp only at hns₁ hsb₁ ⊢
  generalize hH2 : s₂.heap.push { cls := .type "list", dict := none, data := .seq ([] : List Value).toArray } = H2 at hns₁ hsb₁ ⊢
  have hC : H2.objs.size = s₂.heap.objs.size + 1 := by rw [← hH2, Heap.size_push]
  generalize hD' : s₂.heap.objs.size = D at *
  generalize hC' : H2.objs.size = C at *
  have hCD : C ≠ D := by omega
  have below : ∀ b, b < D → b ≠ C ∧ b ≠ D := fun b hb => by omega
  have old : ∀ b o, s₂.heap.get? b = some o → h₁.get? b = some o := fun b o e => hsb₁.extBut b o (below b (hD' ▸ Heap.lt_size e)).1 (Heap.get?_push_of_some _ (hH2 ▸ Heap.get?_push_of_some _ e))
  have hacc : h₁.get? D = some (lst []) := hsb₁.extBut _ _ (Ne.symm hCD) (Heap.get?_push_of_some _ (hH2 ▸ hD' ▸ Heap.get?_push_size _ rfl))
  have fresh₀ : ∀ a, D ≤ a → h₀.get? a = none := fun a ha => by
    cases e : h₀.get? a with
    | none => rfl
    | some o' => exact absurd (Heap.lt_size (F.keep a o' e)) (by rw [hD']; exact Nat.not_lt.mpr ha)
  have hD₀ : h₀.get? D = none := fresh₀ _ (Nat.le_refl _)
  have hC₀ : h₀.get? C = none := fresh₀ _ (by omega)
  have hLlt : L < D := hD' ▸ F.ns.lt
  have hDL : D ≠ L := Ne.symm (below L hLlt).2
  have hCL : C ≠ L := Ne.symm (below L hLlt).1
  have hCf : C ∉ fp := fun hm => (below C (hfp _ hm)).1 rfl
  have hDf : D ∉ fp := fun hm => (below D (hfp _ hm)).2 rfl
  have hCw : C ∉ wr := fun hm => hCf (W.sub _ hm)
  have hDw : D ∉ wr := fun hm => hDf (W.sub _ hm)
  have nlt : ∀ p ∈ news, p.1 < D := fun p hp => hD' ▸ Heap.lt_size (N p hp).1
  have loop : ∀ s₃ : Shared, s₃ = { s₂ with heap := h₁, toks := s₂.toks + ([] : List (Str × Value)).length } →
      codeAny (model prog w) A (.compLoop (.ListComp elt [⟨.Tuple [.Name x px, .Name x₂ px₂] tk tp, iter, [], 0⟩] scope pos) 0 (.ref I) (.ref D) (compEnvC scope cl C env)) (RR (.ref D) C) s₃ := by
    rintro s₃ rfl
    refine codeAny_compLoop_pair
      (fun k s' => ∃ h' tk i zs m', s' = { s₂ with heap := h', toks := tk } ∧ i ≤ n ∧ k = n + 1 - i ∧ St i h' ∧ Fr h₀ L h' m ∧ h'.Ns C m' ∧ News h₀ L h' ((D, lst zs) :: news) ∧ IntsAre zs ((List.range i).map f)) ?_ (n + 1)
      ⟨h₁, _, 0, [], _, rfl, Nat.zero_le _, rfl, W.frame _ _ _ hst fun b _ o e => old b o e, F.keeps old, hns₁, fun p hp => ?_, .nil⟩
    · rintro k s' ⟨h', tk, i, zs, m', rfl, hi, rfl, hst', F', hn', N', hz⟩
      have offD : ∀ p ∈ (D, lst zs) :: news, p.1 ∉ wr := fun p hp => by
        rcases List.mem_cons.mp hp with e | hp
        · rw [e]; exact hDw
        · exact off p hp
      by_cases hlt : i < n
      · refine W.item i _ _ _ hlt hst' fun T vals h₂ tk₂ hPt hT hT2 hmid hk₂ => ?_
        obtain ⟨v₁, v₂, rfl, X⟩ := turn i vals hlt hPt
        refine W.go _ _ _ i T _ _ _ hmid fun h₃ hst₃ hk₃ => ?_
        have hTw := W.apart _ _ _ hmid
        have ht : IsTup h₃ T #[v₁, v₂] := by
          obtain ⟨o, ho, r⟩ := hT2
          exact ⟨o, hk₃ _ _ hTw ho, r⟩
        refine assign_Tuple_tuple hh ht rfl rfl fun h₅ he => ?_
        have he' : ∀ b o, h₃.get? b = some o → h₅.get? b = some o := fun b o e => he b o (Nat.ne_of_lt (Heap.lt_size e)) e
        have hnC : h₅.Ns C m' := ((hn'.at' fun o e => hk₂ _ o hCw e).at' fun o e => hk₃ _ o hCw e).at' fun o e => he' _ o e
        refine assignInOrder_cons (wpAny_assign_Name (wpAny_storeName_local (lookup_relabel_local hx) hnC (fun h₆ hn₆ hs₆ => ?_) (by simp [compEnvC, relabel, hkind])))
        refine assignInOrder_cons (wpAny_assign_Name (wpAny_storeName_local (lookup_relabel_local hx₂) hn₆ (fun h₇ hn₇ hs₇ => ?_) (by simp [compEnvC, relabel, hkind])))
        refine assignInOrder_nil ?_
        have old7 : ∀ b o, b ≠ C → h₃.get? b = some o → h₇.get? b = some o := fun b o hb e => hs₇.extBut b o hb (hs₆.extBut b o hb (he' b o e))
        have hst₇ : St (i + 1) h₇ := W.frame _ _ _ hst₃ fun b hb o e => old7 b o (fun q => hCf (by rw [← q]; exact hb)) e
        obtain ⟨oC, heC, hoC⟩ := ns_obj hn₇
        have F₇ : Fr h₀ L h₇ m := (((fr_butW (fr_butW F' hk₂ hLw hw0) hk₃ hLw hw0).keeps he').change hs₆ hCL hC₀).change hs₇ hCL hC₀
        have N₇ : News h₀ L h₇ ((D, lst zs) :: news) := fun p hp => by
          have z := news_butW (news_butW N' hk₂ offD) hk₃ offD p hp
          refine ⟨old7 _ _ ?_ z.1, z.2⟩
          rcases List.mem_cons.mp hp with e | hp
          · rw [e]; exact Ne.symm hCD
          · exact (below _ (nlt p hp)).1
        refine wpAny_mono (X C oC _ h₇ _ _ hoC (by simp [hxx]) (by simp) F₇ (fun p hp => by
          rcases List.mem_cons.mp hp with e | hp
          · rw [e]; exact ⟨heC, hCL, hC₀⟩
          · exact N₇ p (.tail _ hp))) (fun y s₄ h₄ => ?_) fun _ _ e => e
        obtain ⟨t, tk₄, rfl, rfl⟩ := h₄
        have hzl := hz.length
        rw [List.length_map, List.length_range] at hzl
        refine append_at (hsz := by show zs.toArray.size ≤ sizeLine; rw [List.size_toArray, hzl]; exact Nat.le_trans hi hsz) (N₇ _ (.head _)).1 fun h₈ hs₈ hD₈ => ?_
        refine ⟨n + 1 - (i + 1), by omega, h₈, tk₄, i + 1, zs ++ [.int (f i) t], _, rfl, hlt, rfl, W.frame _ _ _ hst₇ fun b hb o e => hs₈.extBut b o (fun q => hDf (q ▸ hb)) e, F₇.change hs₈ hDL hD₀,
          (hoC.ns heC).sameBut hs₈ hCD, fun p hp => ?_, ?_⟩
        · rcases List.mem_cons.mp hp with e | hp
          · rw [e]; exact ⟨hD₈.trans (congrArg some (lst_snoc zs _)), hDL, hD₀⟩
          · exact ⟨hs₈.extBut _ _ (below _ (nlt p hp)).2 (N₇ p (.tail _ hp)).1, (N₇ p (.tail _ hp)).2⟩
        · rw [List.range_succ, List.map_append]
          exact ints_snoc hz
      · obtain rfl : i = n := Nat.le_antisymm hi (Nat.not_lt.mp hlt)
        refine W.done _ _ _ hst' fun h₂ tk₂ hk₂ => ?_
        exact hRR _ _ h₂ tk₂ _ zs (fr_butW F' hk₂ hLw hw0) (news_butW N' hk₂ offD) (Off3.one (I := C) (C := C) (Off3.of fun p hp => ⟨(below _ (nlt p hp)).1, (below _ (nlt p hp)).1, (below _ (nlt p hp)).2⟩))
          (hn'.at' fun o e => hk₂ _ o hCw e) hC₀ hD₀ hCL hDL hCD (fun p hp => (below _ (nlt p hp)).1) hz
    · rcases List.mem_cons.mp hp with e | hp
      · rw [e]; exact ⟨hacc, hDL, hD₀⟩
      · exact ⟨old _ _ (N p hp).1, (N p hp).2⟩
  exact codeAny_compStart_list (loop _ rfl) (W.self 0 _ _ _ (W.frame _ _ _ hst fun b _ o e => old b o e) (loop _ rfl))
end
end Mine
end
section
open PySem PySem.W PyProof.Rows PySem.Spec PySem.Calls PyProof.Rows.LCg PyProof.Rows.LCp
set_option maxRecDepth 100000
namespace Mine
theorem zfp {I l1 l2 : Nat} (h1 : l1 < I) (h2 : l2 < I) : ∀ b ∈ ([I + 4, I + 2, I + 3, I, I + 1, l1, l2] : List Nat), b < I + 5 := by
  intro b hb
  simp only [List.mem_cons, List.not_mem_nil, or_false] at hb
  omega
theorem zwr {I b : Nat} (h : b < I) : b ∉ ([I + 4, I + 3, I, I + 1] : List Nat) := by
  intro hb
  simp only [List.mem_cons, List.not_mem_nil, or_false] at hb
  omega
theorem zwr2 {I : Nat} : ∀ b ∈ ([I + 4, I + 3, I, I + 1] : List Nat), I ≤ b := by
  intro b hb
  simp only [List.mem_cons, List.not_mem_nil, or_false] at hb
  omega
section
variable {prog : Program} {w : World} {A : Around} {E : Value → Shared → Prop} {s : Shared} {h₀ : Heap} {L : Addr} {m : Str → Option Value} {env : Env}
/-- what stands behind zip's call, ahead of a comprehension over it -/
def SrcZ (prog : Program) (w : World) (A : Around) (h₀ : Heap) (L : Addr) (m : Str → Option Value) (env : Env) (elt : Expr) (x x₂ : Str) (scope : Scope) (cl : List (Str × Addr)) (Fin : Shared → List Value → List (Addr × Obj) → Prop) (xv : Value) (s₁ : Shared) : Prop :=
  ∃ (I : Addr) (fp wr : List Addr) (n : Nat) (Pt : Nat → Array Value → Prop) (St : Nat → Heap → Prop) (Mid : Nat → Addr → Heap → Prop) (news : List (Addr × Obj)) (f : Nat → Int),
    xv = .ref I ∧ A.handled = none ∧ WalksT prog w A I fp wr n Pt St Mid ∧ n ≤ sizeLine ∧ St 0 s₁.heap ∧ (∀ b ∈ fp, b < s₁.heap.objs.size) ∧ Fr h₀ L s₁.heap m ∧ News h₀ L s₁.heap news ∧ L ∉ wr ∧ (∀ b ∈ wr, h₀.get? b = none) ∧ (∀ p ∈ news, p.1 ∉ wr) ∧
    (∀ i vals, i < n → Pt i vals → ∃ v₁ v₂, vals = #[v₁, v₂] ∧ ∀ C oC m₂ h tk (E' : Value → Shared → Prop), NsObj oC m₂ → m₂ x = some v₁ → m₂ x₂ = some v₂ → Fr h₀ L h m → News h₀ L h ((C, oC) :: news) →
      wpAny (model prog w) A (eval elt (compEnvC scope cl C env)) (ZEnd s₁ h (f i)) E' { s₁ with heap := h, toks := tk }) ∧
    (∀ zs, IntsAre zs ((List.range n).map f) → Fin s₁ zs news)
theorem Assign_ListComp_Z {elt iter : Expr} {x x₂ y : Str} {px px₂ tp py : Pos} {tk} {scope : Scope} {cl : List (Str × Addr)} {pos spos : Pos} {Q : Flow → Shared → Prop} (F₀ : Fr h₀ L s.heap m) (hLe : env.locals = L)
    (hsw : swapsWith (.ListComp elt [⟨.Tuple [.Name x px, .Name x₂ px₂] tk tp, iter, [], 0⟩] scope pos) (some (.Name y py)) spos.line env = pure true)
    (hclos : closureFor scope env = pure cl) (hcell : ∀ z ∈ scope.names, z.2 ≠ .cell) (hkind : scope.kind = .function)
    (hnames : ∀ z ∈ scope.names, z.2 = .local → scope.names.lookup z.1 = some .local) (hx : scope.names.lookup x = some .local) (hx₂ : scope.names.lookup x₂ = some .local) (hxx : x ≠ x₂)
    (hy : env.kindOf y = some .local) (hp : (env.scope.kind == .class || (env.scope.kind == .module && env.locals != env.globals)) = false)
    (h : wpAny (model prog w) A (eval iter env) (SrcZ prog w A h₀ L m env elt x x₂ scope cl (fun s₂ => FinA h₀ L m s₂ y Q)) E s)
    (hs : ∀ x, foldedSetIterable iter env x = pure x := by intro _; rfl) :
    wpAny (model prog w) A (exec (.Assign [.Name y py] (.ListComp elt [⟨.Tuple [.Name x px, .Name x₂ px₂] tk tp, iter, [], 0⟩] scope pos) spos) env) Q E s := by
  subst hLe
  rw [exec_Assign_Name_used _ _ _ _ hsw]
  refine wpAny_bind (wpAny_standAt (wpAny_bind ?_))
  show wpAny _ A (do let _ ← comprehension (.ListComp elt [⟨.Tuple [.Name x px, .Name x₂ px₂] tk tp, iter, [], 0⟩] scope pos) scope env _ (newList []) false (eval iter env) (some (assign (.Name y py) env))) _ _ s
  refine wpAny_bind (wpAny_mono (wpAny_comprehension_free (use := some (assign (.Name y py) env)) (Q := fun _ s' => Q .next s') rfl hs hclos hkind hnames
    (wpAny_mono h (fun xv s₁ h₁ => ?_) fun _ _ e => e)) (fun _ s' hq => wpAny_pure (wpAny_pure hq)) fun _ _ e => e)
  obtain ⟨I, fp, wr, n, Pt, St, Mid, news, f, rfl, hh, W, hsz, hst, hfp, F, N, hLw, hw0, off, turn, fin⟩ := h₁
  refine W.self 0 _ _ _ hst ?_
  refine block_Z W hsz hcell hkind hx hx₂ hxx hh hst hfp F N hLw hw0 off turn ?_
  intro D C h' tk m' zs F' N' o1 hn hC₀ hD₀ hCL hDL hCD offC hz
  show wpAny _ A (assign (.Name y py) env (.ref D)) _ _ _
  refine wpAny_assign_Name (wpAny_storeName_local hy F'.ns (fun h₂ hn₂ hs₂ => ?_) hp)
  have hL₀ : h₀.get? env.locals = none := Heap.get?_none_of_le F'.above
  have F₂ : Fr h₀ env.locals h₂ (fun z => if z = y then some (.ref D) else m z) := ⟨hn₂, fun b o e => hs₂.extBut b o (fun q => by rw [q, hL₀] at e; cases e) (F'.keep b o e), F'.above⟩
  refine ⟨m', hn.sameBut hs₂ hCL, fun h'' hs'' => fin zs hz D h'' _ (F₂.change hs'' hCL hC₀) (fun p hp => ?_) o1⟩
  have z : h₂.get? p.1 = some p.2 := hs₂.extBut _ _ (N' p hp).2.1 (N' p hp).1
  refine ⟨hs''.extBut _ _ ?_ z, (N' p hp).2⟩
  rcases List.mem_cons.mp hp with e | hp
  · rw [e]; exact Ne.symm hCD
  · exact offC p hp
theorem zip_src {elt : Expr} {x x₂ : Str} {scope : Scope} {cl : List (Str × Addr)} {Fin : Shared → List Value → List (Addr × Obj) → Prop} {l1 l2 : Addr} {xs ys : List Value} {c1 c2 : Nat} {ns ms : List Int} {news : List (Addr × Obj)} (f : Nat → Int)
    (hh : A.handled = none) (F : Fr h₀ L s.heap m) (N : News h₀ L s.heap news) (hm1 : (l1, W.listOf xs.toArray c1) ∈ news) (hm2 : (l2, W.listOf ys.toArray c2) ∈ news) (hI1 : IntsAre xs ns) (hI2 : IntsAre ys ms) (hsz : ns.length ≤ 1000)
    (turn : ∀ (i : Nat) (a b : Int) ta tb, ns[i]? = some a → ms[i]? = some b → ∀ C oC m₂ h tk (E' : Value → Shared → Prop), NsObj oC m₂ → m₂ x = some (.int a ta) → m₂ x₂ = some (.int b tb) → Fr h₀ L h m → News h₀ L h ((C, oC) :: news) →
      wpAny (model prog w) A (eval elt (compEnvC scope cl C env)) (ZEnd s h (f i)) E' { s with heap := h, toks := tk })
    (fin : ∀ zs h', IntsAre zs ((List.range (min ns.length ms.length)).map f) → Fin { s with heap := h' } zs news) :
    wpAny (model prog w) A (call (.type "zip") [.ref l1, .ref l2]) (SrcZ prog w A h₀ L m env elt x x₂ scope cl Fin) E s := by
  have hax1 := N _ hm1
  have hax2 := N _ hm2
  have hl1 : s.heap.IsList l1 xs.toArray := ⟨_, hax1.1, rfl, c1, rfl⟩
  have hl2 : s.heap.IsList l2 ys.toArray := ⟨_, hax2.1, rfl, c2, rfl⟩
  have hlt1 : l1 < s.heap.objs.size := Heap.lt_size hax1.1
  have hlt2 : l2 < s.heap.objs.size := Heap.lt_size hax2.1
  have hLs : L < s.heap.objs.size := F.ns.lt
  have D := ktu_apart s.heap.objs.size l1 l2 hlt1 hlt2
  have e1 : xs.toArray.size = ns.length := by rw [List.size_toArray, hI1.length]
  have e2 : ys.toArray.size = ms.length := by rw [List.size_toArray, hI2.length]
  refine call_zip_2 hl1 hl2 fun h' hz hTI hTO hi1 hi2 hs5 hk => ?_
  refine ⟨s.heap.objs.size + 4, _, _, min xs.toArray.size ys.toArray.size, _, _, _, news, f, rfl, hh, WalksT.zip2 hh _ _ _ _ _ _ _ D xs.toArray ys.toArray, ?_, ⟨hz, hTI, ⟨_, _, hTO⟩, hi1, hi2, ?_, ?_⟩, ?_, F.keeps hk, N.grown hk, ?_, ?_, ?_, ?_, ?_⟩
  · rw [e1, sizeLine_eq]; omega
  · obtain ⟨o, ho, r⟩ := hl1; exact ⟨o, hk _ _ ho, r⟩
  · obtain ⟨o, ho, r⟩ := hl2; exact ⟨o, hk _ _ ho, r⟩
  · intro b hb
    show b < h'.objs.size
    rw [hs5]
    exact zfp hlt1 hlt2 b hb
  · exact zwr hLs
  · exact fun b hb => ktu_new F (zwr2 b hb)
  · exact fun p hp => zwr (Heap.lt_size (N p hp).1)
  · rintro i vals hi ⟨vx, vy, hvx, hvy, rfl⟩
    obtain ⟨a, ta, ha, rfl⟩ := ints_get hI1 (by simpa using hvx)
    obtain ⟨b, tb, hb, rfl⟩ := ints_get hI2 (by simpa using hvy)
    exact ⟨_, _, rfl, fun C oC m₂ h tk E' n1 n2 n3 F' N' => turn i a b ta tb ha hb C oC m₂ h tk E' n1 n2 n3 F' N'⟩
  · intro zs hzs
    rw [e1, e2] at hzs
    exact fin zs h' hzs
end
theorem off1_mem {D : Addr} : ∀ {l : List (Addr × Obj)}, Off1 D l → ∀ p ∈ l, p.1 ≠ D
  | [], _, _, h => nomatch h
  | _ :: _, x, p, h => by
    rcases List.mem_cons.mp h with e | h
    · rw [e]; exact x.1
    · exact off1_mem x.2 p h
/-- what a call of a def gives that answers a new list of ints, whoever calls -/
abbrev ClaimL (r : Nat) (prog : Program) (w : World) (K : Frag) (p : Program) (loose : List Str) (mean : ExcName → Option Value) (mg mb : Str → Option Value) (f : Addr) (news : List (Addr × Obj)) (pre : Heap → Prop) (vs : List Value) (R : List Int) : Prop :=
  ∀ (dp un : Nat) (gd : Option (List Code)) (cn : Str) (cs : Scope) (a : Addr) (ccd : Value) (cl : List (Str × Addr)) (outer : List Env) (A₀ : Around) (base h₀ : Heap) (L : Addr) (m : Str → Option Value) (s : Shared) (Q E : Value → Shared → Prop),
    Below A₀ base outer h₀ → Fr h₀ L s.heap m → K.In h₀ → News h₀ L s.heap news → Top p loose mean mg mb h₀ → cs.kind = .function →
    pre base → dp + r < recursionLimit → un + 8 * r < cLine → (∀ (l : Addr) (ws : List Value) (c : Nat) (h' : Heap) (tk' : Nat), Fr h₀ L h' m → News h₀ L h' ((l, W.listOf ws.toArray c) :: news) → (∀ p ∈ news, p.1 ≠ l) → IntsAre ws R → Q (.ref l) { s with heap := h', toks := tk' }) →
      wpAny (model prog w) (ktrTop dp un gd cn cs L a ccd cl outer) (call (.ref f) vs) Q E s
end Mine
end
section
open PySem PySem.W PyProof.Rows PySem.Spec PySem.Calls PyProof.Rows.LCg
set_option maxRecDepth 100000
namespace Mine
theorem for_rangeT {σ : Type} {prog : Program} {w : World} {A : Around} {E : Value → Shared → Prop} {Q : Flow → Shared → Prop} {s : Shared} {env : Env} {h₀ : Heap} {target : Expr} {body : List Stmt} {m₀ : Str → Option Value} {r : Addr} {n : Nat} {t₀ u₀ v₀ : Tok} {news : List (Addr × Obj)}
    (Led : σ → List (Addr × Obj)) (ps : σ → List (Str × Value)) (stored : List Str) (P : Nat → σ → Prop) (c₀ : σ)
    (hgo : ∀ (s' : Shared) (I : Addr) v (Q' : Unit → Shared → Prop) (E' : Value → Shared → Prop), Q' () s' → wpAny (model prog w) A (letOwnedTupleGo target (.ref I) v) Q' E' s')
    (hE : PassesOwn (model prog w) A env E)
    (hh : A.handled = none) (hr : IsRange s.heap r 0 (n : Int) 1 t₀ u₀ v₀) (hz : n ≤ 2 ^ 24) (F : Fr h₀ env.locals s.heap m₀) (N : News h₀ env.locals s.heap news) (hn : ∀ p ∈ Led c₀, p ∈ news) (hk : ∀ p ∈ ps c₀, m₀ p.1 = some p.2) (hp : P 0 c₀)
    (turn : ∀ (c : σ) (i : Nat) t (u : Str → Option Value) (s₁ : Shared) I oI own, i < n → P i c → (∀ p ∈ Led c, p.1 ≠ I) → (I, oI) ∈ own → (∀ p ∈ own, p.1 = I) →
      Fr h₀ env.locals s₁.heap (upd (fun z => if stored.contains z then u z else m₀ z) (ps c)) → News h₀ env.locals s₁.heap (Led c ++ own) →
      wpAny (model prog w) A (assign target env (.int (i : Int) t)) (fun _ s₂ => wpAny (model prog w) A (execs body env) (UEnd h₀ env.locals s₁ Led ps stored m₀ P own I i) E s₂) E s₁)
    (done : ∀ (c : σ) (u : Str → Option Value) h tk, P n c → Fr h₀ env.locals h (upd (fun z => if stored.contains z then u z else m₀ z) (ps c)) → News h₀ env.locals h (Led c) → Q .next { s with heap := h, toks := tk }) :
    wpAny (model prog w) A (pyIter (.ref r)) (fun it s₂ => ForT prog w A env target body Q E it s₂) E s := by
  refine wpAny_pyIter_range hr (small_one (by omega) (by omega) (by omega) (by omega)) ?_
  have W := range_walks (prog := prog) (w := w) (A := A) (I := s.heap.objs.size) hh 0 n
  generalize hob : ({ cls := Value.type "range_iterator", dict := none, data := .fields _ } : Obj) = ob at *
  have up : ∀ p ∈ Led c₀, (s.heap.push ob).get? p.1 = some p.2 ∧ p.1 ≠ env.locals ∧ h₀.get? p.1 = none := fun p hp => ⟨Heap.get?_push_of_some _ (N p (hn p hp)).1, (N p (hn p hp)).2⟩
  show codeAny _ _ _ _ _
  refine codeAny_forLoop_anyU (h₀ := h₀) (m := m₀) (news := Led c₀) W ?_ ?_ ?_ ?_ (F.push _) up ?_ (fun i m nx => ∃ c, nx = Led c ∧ (∀ p ∈ ps c, m p.1 = some p.2) ∧ (∀ z, (∀ p ∈ ps c, z ≠ p.1) → stored.contains z = false → m z = m₀ z) ∧ P i c) ⟨c₀, rfl, hk, fun _ _ _ => rfl, hp⟩ ?_ ?_
  · intro hm
    exact absurd F.ns.lt ((List.mem_singleton.mp hm) ▸ Nat.lt_irrefl _)
  · intro b hb
    rw [List.mem_singleton.mp hb]
    exact next_is_new F
  · intro p hp hq
    exact absurd (Heap.lt_size (N p (hn p hp)).1) ((List.mem_singleton.mp hq) ▸ Nat.lt_irrefl _)
  · show IsRangeIter _ _ _ _ _
    subst hob
    rw [range_len] 
    simpa using Heap.get?_push_size _ rfl
  · intro i s' v Q' st hq
    exact hgo s' _ v Q' _ hq
  · rintro i v m₁ _ s₁ own hi ⟨t, rfl⟩ ⟨c, rfl, h1, h2, hc⟩ hoff hofp hown hall hst' F₁ N₁
    have hmI : ∃ oI, (s.heap.objs.size, oI) ∈ own := ⟨_, hall _ (.head _) (next_is_new F) _ hst'⟩
    obtain ⟨oI, hmI⟩ := hmI
    have hoff' : ∀ p ∈ Led c, p.1 ≠ s.heap.objs.size := fun p hp e => hoff p hp (List.mem_singleton.mpr e)
    have N₂ : News h₀ env.locals s₁.heap (Led c ++ own) := fun p hp => N₁ p ((List.mem_append.mp hp).elim (fun h => List.mem_append.mpr (.inr h)) fun h => List.mem_append.mpr (.inl h))
    rw [upd_of (m' := m₁) (m₀ := fun z => if stored.contains z then m₁ z else m₀ z) (fun z hz => cond_of (h2 z hz)) h1] at F₁
    have X := turn c i t m₁ s₁ _ oI own hi hc hoff' hmI (fun p hp => by simpa using hofp p hp) F₁ N₂
    rw [Int.zero_add]
    refine wpAny_passesOwn hE (wpAny_mono X (fun _ s₂ h₂ => wpAny_passesOwn hE (wpAny_mono h₂ (fun f s₃ h₃ => ?_) fun _ _ e => e)) fun _ _ e => e)
    obtain ⟨rfl, c', h', tk', m', news', e, F', N', hn', ho, ha, hk', hm', hp'⟩ := h₃
    exact ⟨rfl, h', tk', m', Led c', e, F', fun p hp => N' p ((List.mem_append.mp hp).elim (ho p) (hn' p)), fun p hp hq => ha p hp (List.mem_singleton.mp hq), c', rfl, hk', hm', hp'⟩
  · rintro h' tk m' _ F' N' _ ⟨c, rfl, h1, h2, hc⟩
    rw [upd_of (m' := m') (m₀ := fun z => if stored.contains z then m' z else m₀ z) (fun z hz => cond_of (h2 z hz)) h1] at F'
    exact done c m' h' tk hc F' N'
end Mine
end
section
open PySem PySem.W PyProof.Rows
set_option maxHeartbeats 4000000
namespace Mine
theorem fillKH : PySem.Challenge.rw_tx0015_01 = PySem.Challenge.rw_tx0015_01 ∧ hd.heap_39 = hd.heap_39 := by
  k_fill
  exact ⟨rfl, rfl⟩
local macro_rules | `(tactic| walk_at "stop") => `(tactic| with_reducible first | show wpAny _ _ (exec (Stmt.While _ _ _ _) _) _ _ _ | show wpAny _ _ (exec (Stmt.For _ _ _ _ _) _) _ _ _ | show wpAny _ _ (pyIter _) _ _ _ | show FEnd _ _ _ _ _ _ _ _ _ _ _ _ _ | show WEnd _ _ _ _ _ _ _ _ _ _)
local macro_rules | `(tactic| walk_at "go") => `(tactic| repeat' ((fail_if_success walk_at "stop"); (first | (k_unfold; (try dsimp only)) | walk1 | (dsimp only; walk1))))
local macro_rules | `(tactic| walk_at "FPost") => `(tactic| (dsimp only [FPost]))
local macro_rules | `(tactic| walk_at "for") => `(tactic| ((rename Fr _ _ _ _ => lF'); (with_unfolding_all refine' For_invVF lF' ?k1 ?k2 ?_); (case k1 => exact rfl); (case k2 => exact rfl); walk_at "go"))
local macro_rules | `(tactic| walk_at "look") => `(tactic| first | exact if_pos rfl | (refine Eq.trans (if_neg (by decide)) ?_; walk_at "look") | rfl)
local macro_rules | `(tactic| walk_at "hasN") => `(tactic| first | exact List.forall_mem_nil _ | (refine' List.forall_mem_cons.mpr ⟨?ha, ?hb⟩; (case ha => walk_at "look"); (case hb => walk_at "hasN")))
local macro_rules | `(tactic| walk_at "sameN") => `(tactic| (intro z hx hz hs; (simp only [List.forall_mem_cons, List.not_mem_nil, false_implies, implies_true, and_true, ne_eq] at hz); (simp only [List.contains_cons, List.contains_nil, Bool.or_false, Bool.or_eq_false_iff, beq_eq_false_iff_ne, ne_eq] at hs); (simp [upd, hx, hz, hs]; done)))
local macro_rules | `(tactic| walk_at "next") => `(tactic| ((first | k_unfold | skip); (try dsimp only); (try k_fold)))
section
theorem k_clean0 : True := by
  w_top off
  k_with_none
  trivial
theorem fillK13 : PySem.Challenge.rw_tx0015_01 = PySem.Challenge.rw_tx0015_01 ∧ hd.heap_39 = hd.heap_39 := by
  k_fill
  exact ⟨rfl, rfl⟩
-- walk on, but not into a loop
-- a for, up to its iterator
local macro_rules | `(tactic| walk_at "WPost") => `(tactic| (dsimp only [WPost]))
-- the list of a range by twos
set_option hygiene false in
local macro_rules | `(tactic| walk_at "call type:list") => `(tactic| (k_here; (with_reducible show wpAny _ _ (call (Value.type _) [Value.ref _]) _ _ _); (rename IsRange _ _ _ _ _ _ _ _ => rgX); (with_unfolding_all refine' list_range _ ?k0 ?k1 ?k2 rgX ?k4 (range_two _) ?k6 ?_; (case k0 => rfl); (case k1 => k_asm); (case k2 => k_asm); (case k4 => exact range_two_small (by omega)); (case k6 => omega); k_whole); intro D9 vs9 c9 h' tk' F' N' l9 hI9; (try k_sweep)))
-- the row's cells
set_option hygiene false in
local macro_rules | `(tactic| walk_at "subscriptTail Name Name ref int") => `(tactic| ((with_reducible show wpAny _ _ (subscriptTail _ _ (Value.ref _) (Value.int _ _)) _ _ _); (rename News _ _ _ _ => N'); (with_unfolding_all refine' ksa_sub N' (.head _) hI2 ?k4 ?k5 ?k6 ?_ ?k7); (case k4 => omega); (case k5 => rw [hmx]; omega); (case k6 => omega); (case k7 => with_unfolding_all rfl); intro _))
set_option hygiene false in
local macro_rules | `(tactic| walk_at "setItem ref int") => `(tactic| ((with_reducible show wpAny _ _ (setItem (Value.ref _) (Value.int _ _) (Value.int _ _)) _ _ _); (rename Fr _ _ _ _ => F'); (rename News _ _ _ _ => N'); (with_unfolding_all refine' ksa_set F' N' (Upd.head hdis) hI2 ?k5 ?k6 ?k7 ?_); (case k5 => omega); (case k6 => rw [hmx]; omega); (case k7 => omega); intro h' F' N' hi' hl' hs'))
-- the names that a turn has stored and no other
local macro_rules | `(tactic| walk_at "same1") => `(tactic| (intro z hz; (have hz1 := hz _ (.head _)); (try dsimp only at hz1); simp only [if_neg hz1, upd]))
local macro_rules | `(tactic| walk_at "has1") => `(tactic| (intro p hp; rw [List.mem_singleton.mp hp]; rfl))
-- what stands behind a statement
-- a text cut by a slice that leaves nothing out
local macro_rules | `(tactic| walk_at "subscriptTail Name Slice str ref") => `(tactic| ((with_reducible show wpAny _ _ (subscriptTail _ (Expr.Slice none (some (Expr.BoolOp _ _ _)) none _) _ _) _ _ (Shared.mk (Heap.push _ (Obj.mk _ _ (Data.fields #[Value.none, Value.none, Value.none]) _)) _ _ _ _)); (with_reducible rename Fr _ _ _ _ => F'); (with_reducible rename News _ _ _ _ => N'); refine slice_strN_nn_len (s := ⟨_, _, _, _, _⟩) F' N' ?_; intro _ _ _ _ _ _))
def subC (x y : Str) : Int := if x = y then 0 else if Txt.lower x = Txt.lower y then 1 else 2
local macro_rules | `(tactic| walk_at "call builtin:str.lower") => `(tactic| (k_here; (with_reducible show wpAny _ _ (call (Value.builtin "str.lower") [Value.str _ _]) _ _ _); refine PyProof.Rows.SCL.lower (by omega) ?_; intro _))
theorem subCost (w : World) (p : Program) (loose : List Str) (mean : ExcName → Option Value) (mg mb : Str → Option Value) : CbC 21 0 (∀ (news : CbLed) (x : Str) (tx : CbTok) (y : Str) (ty : CbTok), CbClaim PySem.Challenge.pw_tx0015_01 w (hd.heap_39 w.params) p loose mean mg mb 21 news [] (x.length ≤ 100 ∧ y.length ≤ 100) [.str x tx, .str y ty] (fun t => .int (subC x y) t)) := by
  unfold CbC; dsimp only [CbClaim, CbLists, CbRet]; intros; rename_i hpre _ _ hret
  obtain ⟨hpx, hpy⟩ := hpre
  have cbI : CbIn 21 := CbIn.mk
  refine wpAny_call ?_
  k_dflt cell_enter
  k_steps
  k_with "tree" => simp [subC, *]
  all_goals cb_end hret
theorem k_none13 : True := by
  k_with_none
  trivial
/-- what a sign costs -/
def cst (x y : Str) (i a b : Nat) : Int := subC ⟨#[y.cps.toList.getD (i + a) 0]⟩ ⟨#[x.cps.toList.getD (i + b) 0]⟩
/-- what the law knows of two texts of one length: what the distance is, however the ends are cut off; each row has a small one -/
def LevPre (x y : Str) (k r : Int) : Prop :=
  x.length ≤ 40 ∧ x.length = y.length ∧ 0 ≤ k ∧ (x = y → r = 0) ∧
  (x ≠ y → ∀ i j : Nat, i + j < x.length → x.cps.toList.take i = y.cps.toList.take i → x.cps.toList.getD i 0 ≠ y.cps.toList.getD i 0 →
    x.cps.toList.getD (x.length - 1 - j) 0 ≠ y.cps.toList.getD (x.length - 1 - j) 0 → x.cps.toList.drop (x.length - j) = y.cps.toList.drop (x.length - j) →
    dp (cst x y i) (x.length - i - j) (x.length - i - j) = r ∧ ∀ a, a < x.length - i - j → ∃ b, b < x.length - i - j ∧ dp (cst x y i) (a + 1) (b + 1) ≤ k)
-- sums behind the ends, apart (small contexts)
theorem ends_a {a i j l : Nat} (h : l = a - i) (hi : i < a) (hj : j < l) : i + (l - j) = a - j := by omega
theorem ends_b {a i j l : Nat} (h : l = a - i) (hi : i < a) (hj : j < l) : i + (l - 1 - j) = a - 1 - j := by omega
theorem ends_c {a i j l n : Nat} (h : l = a - i) (hn : n = a - i - j) : min (l - j) l = n := by omega
theorem ends_d {a i j l m n : Nat} (h : l = a - i) (h' : m = a - i) (hn : n = a - i - j) : min (l - j) m = n := by omega
theorem ends_e {a i j l n : Nat} (h : l = a - i) (hj : j < l) (hn : n = a - i - j) : 0 < n := by omega
theorem ends_f {a i j l n k : Nat} (h : l = a - i) (hn : n = a - i - j) (hk : k < n) : k < l - j := by omega
theorem lev (w : World) (p : Program) (loose : List Str) (mean : ExcName → Option Value) (mg mb : Str → Option Value) (news : List (Addr × Obj)) (x : Str) (tx : Tok) (y : Str) (ty : Tok) (k : Int) (tk : Tok) (r : Int) : Claim PySem.Challenge.pw_tx0015_01 w (hd.heap_39 w.params) p loose mean mg mb 28 news (LevPre x y k r) [.str x tx, .str y ty, .int k tk] (fun t => .int r t) := by
  unfold Claim; intros; rename_i hpre _ _ hret
  obtain ⟨hpx, hpy, hk0, hr0, hr1⟩ := hpre
  have cbI : CbIn 28 := CbIn.mk
  have CbS := subCost w p loose mean mg mb
  k_with "call ref" => k_call_by "_substitution_cost" subC (fun x y => x.length ≤ 100 ∧ y.length ≤ 100)
  refine wpAny_call ?_
  k_dflt cell_enter
  walk_at "go"
  · rename (x == y) = true => hxy
    have e := hr0 (eq_of_beq hxy)
    subst e
    cb_end hret
  rename (x == y) = false => hxy
  have hne : x ≠ y := fun e => by rw [e] at hxy; simp at hxy
  (rename Fr _ _ _ _ => lF'); (rename News _ _ _ _ => lN')
  refine cutW (σ := Nat × Tok) (fun c => [(Str.ofString "pre", Value.int c.1 c.2)]) (fun c => c.1 < x.length ∧ x.cps.toList.take c.1 = y.cps.toList.take c.1 ∧ x.cps.toList.getD c.1 0 ≠ y.cps.toList.getD c.1 0) lF' lN' ?_ ?_
  · intro R hR
    with_unfolding_all refine' while_ (σ := Nat × Tok) (fun _ => news) (fun c => [(Str.ofString "pre", Value.int c.1 c.2)]) (fun c => c.1 ≤ x.length ∧ x.cps.toList.take c.1 = y.cps.toList.take c.1) (fun c => x.length - c.1) (0, _) lF' lN' (fun _ h => h) ?kk ?kp ?_
    case kk => walk_at "has1"
    case kp => exact ⟨Nat.zero_le _, rfl⟩
    rintro ⟨i, ti⟩ h1 tk1 ⟨hi1, hi3⟩ F1 N1
    clear lF' lN'
    dsimp only at F1
    k_fold
    walk_at "go"
    · -- one more
      rename (Txt.item x _ == Txt.item y _) = true => he
      have hi : i < x.length := by omega
      rw [item_nat hi, item_nat (by omega), one_inj, decide_eq_true_eq] at he
      refine wend (i + 1, _) (by assumption) (by assumption) (by walk_at "same1") (by walk_at "has1") (fun _ h => h) ⟨hi, ?_⟩ (by dsimp only; omega)
      rw [List.take_add_one, List.take_add_one, hi3]
      rw [List.getD_eq_getElem?_getD, List.getD_eq_getElem?_getD] at he
      have e1 : i < x.cps.toList.length := by rw [cps_len]; exact hi
      have e2 : i < y.cps.toList.length := by rw [cps_len]; omega
      rw [List.getElem?_eq_getElem e1, List.getElem?_eq_getElem e2] at he ⊢
      simpa using he
    · -- they part here
      rename (Txt.item x _ == Txt.item y _) = false => he
      have hi : i < x.length := by omega
      rw [item_nat hi, item_nat (by omega), one_inj, decide_eq_false_iff_not] at he
      exact hR (i, _) _ _ _ ⟨hi, hi3, he⟩ (by assumption) (by walk_at "same1") (by walk_at "has1") (by assumption)
    all_goals
      exfalso
      have hi : i = x.length := by omega
      have e1 := List.take_of_length_le (l := x.cps.toList) (i := i) (by rw [cps_len]; omega)
      have e2 := List.take_of_length_le (l := y.cps.toList) (i := i) (by rw [cps_len]; omega)
      rw [e1, e2] at hi3
      exact hne (str_ext hi3)
  rintro ⟨i, ti⟩ h1 tk1 ⟨hi, hi3, hi4⟩ F1 N1
  clear lF' lN'
  dsimp only at F1 hi hi3 hi4
  have sx := slice_from (x := x) (i := i) (by omega)
  have sy := slice_from (x := y) (i := i) (by omega)
  walk_at "next"
  walk_at "go"
  generalize Txt.slice x (some (i : Int)) none = x1 at *
  generalize Txt.slice y (some (i : Int)) none = y1 at *
  have l1 : x1.length = x.length - i := by rw [← cps_len, sx, List.length_drop, cps_len]
  have l2 : y1.length = x.length - i := by rw [← cps_len, sy, List.length_drop, cps_len]; omega
  have h0 : x1.cps.toList.getD 0 0 ≠ y1.cps.toList.getD 0 0 := by
    rw [sx, sy]
    simpa [List.getD_eq_getElem?_getD] using hi4
  (rename Fr _ _ _ _ => lF'); (rename News _ _ _ _ => lN')
  refine cutW (σ := Int × Tok) (fun c => [(Str.ofString "post", Value.int c.1 c.2)]) (fun c => ∃ j : Nat, c.1 = -(j : Int) ∧ j < x1.length ∧ x1.cps.toList.drop (x1.length - j) = y1.cps.toList.drop (x1.length - j) ∧ x1.cps.toList.getD (x1.length - 1 - j) 0 ≠ y1.cps.toList.getD (x1.length - 1 - j) 0) lF' lN' ?_ ?_
  · intro R hR
    with_unfolding_all refine' while_ (σ := Int × Tok) (fun _ => news) (fun c => [(Str.ofString "post", Value.int c.1 c.2)]) (fun c => ∃ j : Nat, c.1 = -(j : Int) ∧ j < x1.length ∧ x1.cps.toList.drop (x1.length - j) = y1.cps.toList.drop (x1.length - j)) (fun c => x1.length - c.1.natAbs) (0, _) lF' lN' (fun _ h => h) ?kk ?kp ?_
    case kk => walk_at "has1"
    case kp => exact ⟨0, rfl, by omega, by rw [List.drop_of_length_le (by rw [cps_len]; omega), List.drop_of_length_le (by rw [cps_len]; omega)]⟩
    clear hi3 hi4 lF' lN'
    rintro ⟨q, tj⟩ h1 tk1 ⟨j, hj0, hj1, hj3⟩ F1 N1
    dsimp only at hj0 F1
    k_fold
    rcases Nat.eq_zero_or_pos j with rfl | hj
    · have hq : q = 0 := by simpa using hj0
      subst hq
      walk_at "go"
      · rename (Txt.item x1 _ == Txt.item y1 _) = true => he
        rw [item_neg (j := 0) hj1 (by rfl), item_neg (j := 0) (by omega) (by rfl), one_inj, decide_eq_true_eq] at he
        have := last_more (a := x1.cps.toList) (b := y1.cps.toList) (n := x1.length) (j := 0) (cps_len x1) (by rw [cps_len]; omega) (by omega) hj3 (by rw [l2, ← l1] at he; exact he) h0
        exact wend (0 - 1, _) (by assumption) (by assumption) (by walk_at "same1") (by walk_at "has1") (fun _ h => h) ⟨0 + 1, by omega, this.1, this.2⟩ (by dsimp only; omega)
      · rename (Txt.item x1 _ == Txt.item y1 _) = false => he
        rw [item_neg (j := 0) hj1 (by rfl), item_neg (j := 0) (by omega) (by rfl), one_inj, decide_eq_false_iff_not] at he
        exact hR (0, _) _ _ _ ⟨0, by omega, hj1, hj3, by rw [l2, ← l1] at he; exact he⟩ (by assumption) (by walk_at "same1") (by walk_at "has1") (by assumption)
      · exfalso; simp only [slice_all] at *; omega
      · exfalso; simp only [slice_all] at *; omega
    · have q1 := slice_upto (x := x1) hj (by omega)
      have q2 := slice_upto (x := y1) hj (by omega)
      rw [← hj0] at q1 q2
      have q3 : (Txt.slice x1 none (some q)).length = x1.length - j := by rw [← cps_len, q1, List.length_take, cps_len]; omega
      have q4 : (Txt.slice y1 none (some q)).length = x1.length - j := by rw [← cps_len, q2, List.length_take, cps_len]; omega
      have q5 : q < 0 := by omega
      clear q1 q2
      walk_at "go"
      · rename (Txt.item x1 _ == Txt.item y1 _) = true => he
        rw [item_neg (j := j) hj1 (by omega), item_neg (j := j) (by omega) (by omega), one_inj, decide_eq_true_eq] at he
        have := last_more (a := x1.cps.toList) (b := y1.cps.toList) (n := x1.length) (j := j) (cps_len x1) (by rw [cps_len]; omega) (by omega) hj3 (by rw [l2, ← l1] at he; exact he) h0
        exact wend (q - 1, _) (by assumption) (by assumption) (by walk_at "same1") (by walk_at "has1") (fun _ h => h) ⟨j + 1, by omega, this.1, this.2⟩ (by dsimp only; omega)
      all_goals try (exfalso; omega)
      · rename (Txt.item x1 _ == Txt.item y1 _) = false => he
        rw [item_neg (j := j) hj1 (by omega), item_neg (j := j) (by omega) (by omega), one_inj, decide_eq_false_iff_not] at he
        exact hR (q, _) _ _ _ ⟨j, hj0, hj1, hj3, by rw [l2, ← l1] at he; exact he⟩ (by assumption) (by walk_at "same1") (by walk_at "has1") (by assumption)
  clear lF' lN'
  rintro ⟨q, tj⟩ h1 tk1 ⟨j, hj0, hj1, hj3, hj4⟩ F1 N1
  dsimp only at hj0 F1
  obtain ⟨x2, hx2⟩ : ∃ x2 : Str, x2.cps.toList = x1.cps.toList.take (x1.length - j) := ⟨⟨(x1.cps.toList.take (x1.length - j)).toArray⟩, by simp⟩
  obtain ⟨y2, hy2⟩ : ∃ y2 : Str, y2.cps.toList = y1.cps.toList.take (x1.length - j) := ⟨⟨(y1.cps.toList.take (x1.length - j)).toArray⟩, by simp⟩
  walk_at "next"
  walk_at "execs cons"
  refine cutW (σ := Str × Tok) (fun c => [(Str.ofString "a", Value.str c.1 c.2)]) (fun c => c.1 = x2) F1 N1 ?_ ?_
  · intro R hR
    rcases Nat.eq_zero_or_pos j with rfl | hj
    · have hq : q = 0 := by simpa using hj0
      subst hq
      walk_at "go"
      refine hR (Txt.slice x1 none none, _) _ _ _ ?_ (by assumption) (by walk_at "same1") (by walk_at "has1") (by assumption)
      · apply str_ext; rw [slice_all, hx2, Nat.sub_zero, ← cps_len, List.take_length]
    · have q1 := slice_upto (x := x1) hj (by omega)
      rw [← hj0] at q1
      have q5 : q < 0 := by omega
      walk_at "go"
      all_goals try (exfalso; omega)
      refine hR (Txt.slice x1 none (some q), _) _ _ _ ?_ (by assumption) (by walk_at "same1") (by walk_at "has1") (by assumption)
      · apply str_ext; rw [q1, hx2]
  rintro ⟨x2', t2⟩ h2 tk2 rfl F2 N2
  clear F1 N1
  dsimp only at F2
  walk_at "next"
  walk_at "execs cons"
  refine cutW (σ := Str × Tok) (fun c => [(Str.ofString "b", Value.str c.1 c.2)]) (fun c => c.1 = y2) F2 N2 ?_ ?_
  · intro R hR
    rcases Nat.eq_zero_or_pos j with rfl | hj
    · have hq : q = 0 := by simpa using hj0
      subst hq
      walk_at "go"
      refine hR (Txt.slice y1 none none, _) _ _ _ ?_ (by assumption) (by walk_at "same1") (by walk_at "has1") (by assumption)
      · apply str_ext; rw [slice_all, hy2, Nat.sub_zero, l1, ← l2, ← cps_len, List.take_length]
    · have q1 := slice_upto (x := y1) hj (by omega)
      rw [← hj0] at q1
      have q5 : q < 0 := by omega
      walk_at "go"
      all_goals try (exfalso; omega)
      refine hR (Txt.slice y1 none (some q), _) _ _ _ ?_ (by assumption) (by walk_at "same1") (by walk_at "has1") (by assumption)
      · apply str_ext; rw [q1, hy2, l1, l2]
  rintro ⟨y2', u2⟩ h3 tk3 rfl F1 N1
  clear F2 N2
  dsimp only at F1
  obtain ⟨n, hn⟩ : ∃ n, n = x.length - i - j := ⟨_, rfl⟩
  have l3 : x2'.length = n := by rw [← cps_len, hx2, List.length_take, cps_len]; exact ends_c l1 hn
  have l4 : y2'.length = n := by rw [← cps_len, hy2, List.length_take, cps_len]; exact ends_d l1 l2 hn
  have hn0 : 0 < n := ends_e l1 hj1 hn
  have hn1 : n ≤ 40 := by omega
  have ax : ∀ k, k < n → x2'.cps.toList.getD k 0 = x.cps.toList.getD (i + k) 0 := by
    intro k hk
    rw [hx2, sx]
    simp only [List.getD_eq_getElem?_getD, List.getElem?_take, List.getElem?_drop]
    rw [if_pos (ends_f l1 hn hk)]
  have ay : ∀ k, k < n → y2'.cps.toList.getD k 0 = y.cps.toList.getD (i + k) 0 := by
    intro k hk
    rw [hy2, sy]
    simp only [List.getD_eq_getElem?_getD, List.getElem?_take, List.getElem?_drop]
    rw [if_pos (ends_f l1 hn hk)]
  have he5 : x.cps.toList.getD (x.length - 1 - j) 0 ≠ y.cps.toList.getD (x.length - 1 - j) 0 := by
    rw [sx, sy] at hj4
    simp only [List.getD_eq_getElem?_getD, List.getElem?_drop] at hj4 ⊢
    rw [ends_b l1 hi hj1] at hj4
    exact hj4
  have he6 : x.cps.toList.drop (x.length - j) = y.cps.toList.drop (x.length - j) := by
    have h9 := hj3
    rw [sx, sy] at h9
    simp only [List.drop_drop] at h9
    rw [ends_a l1 hi hj1] at h9
    exact h9
  obtain ⟨hr2, hr3⟩ := hr1 hne i j (by omega) hi3 hi4 he5 he6
  rw [← hn] at hr2 hr3
  have hxi : i + n ≤ 40 := by omega
  clear hr0 hr1 hxy hne hi3 hi4 sx sy h0 hj0 hj3 hj4 hx2 hy2 he5 he6
  walk_at "next"
  walk_at "go"
  all_goals try (exfalso; omega)
  rw [l3, rowL_zero (cst x y i)] at hI9
  walk_at "for"
  (rename Fr _ _ _ _ => lF'); (rename News _ _ _ _ => lN'); (rename IsRange _ _ _ _ _ _ _ _ => rgX)
  rw [l4] at rgX
  with_unfolding_all refine' for_range0 (σ := List Value × Int × Tok) (fun c => (D9, W.listOf c.1.toArray c9) :: news) (fun c => [(Str.ofString "result", Value.int c.2.1 c.2.2)]) [Str.ofString "bchar", Str.ofString "distance", Str.ofString "minimum", Str.ofString "index", Str.ofString "substitute", Str.ofString "insert_delete"] (fun b c => IntsAre c.1 (rowL (cst x y i) n b) ∧ c.2.1 = (if b = 0 then 0 else dp (cst x y i) b n)) (vs9, 0, _) rfl rgX (by omega) lF' lN' (fun _ h => h) ?kk ⟨hI9, rfl⟩ ?_ ?_
  case kk => walk_at "has1"
  · rintro ⟨vs, res, tres⟩ bi tb u h4 tk4 own hbi hoff ⟨hI, hres⟩ F1 N1
    dsimp only at hI hres F1 N1
    clear lF' lN' rgX
    dsimp only [envOf] at F1 N1
    k_fold
    walk_at "go"
    walk_at "for"
    (rename Fr _ _ _ _ => lF'); (rename News _ _ _ _ => lN'); (rename IsRange _ _ _ _ _ _ _ _ => rgX)
    rw [l3] at rgX
    with_unfolding_all refine' for_range0 (σ := List Value × (Int × Tok) × (Int × Tok) × (Int × Tok)) (fun c => (D9, W.listOf c.1.toArray c9) :: (news ++ own)) (fun c => [(Str.ofString "result", Value.int c.2.1.1 c.2.1.2), (Str.ofString "distance", Value.int c.2.2.1.1 c.2.2.1.2), (Str.ofString "minimum", Value.int c.2.2.2.1 c.2.2.2.2)]) [Str.ofString "substitute", Str.ofString "insert_delete"] (fun b c => IntsAre c.1 (mixL (cst x y i) n bi b) ∧ c.2.1.1 = (if b = 0 then (bi : Int) * 2 else dp (cst x y i) (bi + 1) b) ∧ c.2.2.1.1 = dp (cst x y i) bi b ∧ ∀ e, e < b → c.2.2.2.1 ≤ dp (cst x y i) (bi + 1) (e + 1)) (vs, ((bi : Int) * 2, _), ((bi : Int) * 2, _), (9223372036854775807, _)) rfl rgX (by omega) lF' lN' (fun _ h => h) ?kk ⟨?_, rfl, ?_, fun e he => absurd he (Nat.not_lt_zero e)⟩ ?_ ?_
    case kk => walk_at "hasN"
    · rw [mixL_zero]; exact hI
    · rw [dp_left]; exact Int.mul_comm _ _
    · rintro ⟨ws, ⟨re, tre⟩, ⟨di, tdi⟩, ⟨mi, tmi⟩⟩ bj tj u h5 tk5 own2 hbj hoff2 ⟨hI2, hre, hdi, hmi⟩ F2 N2
      dsimp only at hI2 hre hdi hmi F2 N2
      dsimp only [envOf, List.cons_append] at F2 N2
      clear lF' lN' rgX
      k_fold
      have hdis : ∀ p ∈ news ++ own ++ own2, p.1 ≠ D9 := by
        intro p hp
        rcases List.mem_append.mp hp with hp | hp
        · rcases List.mem_append.mp hp with hp | hp
          · exact Nat.ne_of_lt (l9 p hp)
          · exact hoff p hp D9 (.head _)
        · exact hoff2 p hp D9 (.head _)
      have hmx := mixL_len (cst x y i) n bi bj
      have hcell := mixL_get (cst x y i) (i := bi) hbj
      have hcst : subC (Txt.item y2' (bi : Int)) (Txt.item x2' (bj : Int)) = cst x y i bi bj := by
        rw [item_nat (by omega), item_nat (by omega)]
        unfold cst
        rw [ax bj hbj, ay bi hbi]
      clear hr3 hI hI9 hr2
      walk_at "go"
      all_goals
        have hv := cell_eq hbj hre hdi hcst
        refine' fend (ws.set bj (Value.int _ _), (_, _), (_, _), (_, _)) ?F ?N ?hn ?ho rfl ?hk ?hm ?hp
        case F => assumption
        case N => assumption
        case hk => walk_at "hasN"
        case hm => walk_at "sameN"
        case hn =>
          intro p hp
          rcases List.mem_cons.mp hp with e | hp
          · rw [e]; exact .head _
          · exact .tail _ (List.mem_append.mpr (.inl hp))
        case ho =>
          intro p hp
          exact .tail _ (List.mem_append.mpr (.inr hp))
        case hp =>
          dsimp only
          refine ⟨?_, ?_, hcell, ?_⟩
          · rw [← mixL_set _ hbj, ← hv]
            exact hi'
          · exact hv.trans (if_neg (Nat.succ_ne_zero bj)).symm
          · intro e he
            by_cases l : e < bj
            · first
              | exact hmi e l
              | exact Int.le_trans (Int.le_of_lt (by assumption)) (hmi e l)
            · have e9 : e = bj := by omega
              rw [e9]
              first
              | exact Int.le_of_eq hv
              | exact Int.le_trans (Int.not_lt.mp (by assumption)) (Int.le_of_eq hv)
    · rintro ⟨ws, ⟨re, tre⟩, ⟨di, tdi⟩, ⟨mi, tmi⟩⟩ u h5 tk5 ⟨hI2, hre, hdi, hmi⟩ F2 N2
      dsimp only at hI2 hre hdi hmi F2 N2
      dsimp only [envOf] at F2 N2
      clear lF' lN' rgX
      walk_at "next"
      walk_at "go"
      · exfalso
        obtain ⟨e, he, hle⟩ := hr3 bi hbi
        have := hmi e he
        omega
      · refine fend (ws, re, tre) (by assumption) (by assumption) ?_ ?_ rfl (by walk_at "hasN") (by walk_at "sameN") ?_
        · intro p hp
          rcases List.mem_cons.mp hp with e | hp
          · rw [e]; exact .head _
          · exact .tail _ (List.mem_append.mpr (.inl hp))
        · intro p hp
          exact .tail _ (List.mem_append.mpr (.inr hp))
        · rw [mixL_all] at hI2
          rw [if_neg (by omega)] at hre
          exact ⟨hI2, by rw [if_neg (by omega)]; exact hre⟩
  · rintro ⟨vs, res, tres⟩ u h4 tk4 ⟨hI, hres⟩ F1 N1
    dsimp only at hI hres F1 N1
    clear lF' lN' rgX
    rw [if_neg (by omega), hr2] at hres
    subst hres
    walk_at "next"
    walk_at "go"
    cb_end hret
end
section
theorem k_clean1 : True := by
  w_top off
  k_with_none
  trivial
theorem fillK14 : PySem.Challenge.rw_tx0015_01 = PySem.Challenge.rw_tx0015_01 ∧ hd.heap_39 = hd.heap_39 := by
  k_fill
  exact ⟨rfl, rfl⟩
-- walk on, but not into a loop
local macro_rules | `(tactic| walk_at "stop") => `(tactic| with_reducible show wpAny _ _ (exec (Stmt.Try _ _ _ _ _) _) _ _ _)
local macro_rules | `(tactic| walk_at "stop") => `(tactic| with_reducible first | show False | show wpAny _ _ (subscriptTail _ (PySem.Expr.Slice _ _ _ _) _ _) _ _ _ | show WSEnd _ _ _ _ _ _ _ _ _ _ _)
local macro_rules | `(tactic| walk_at "WSPost") => `(tactic| (dsimp only [WSPost]))
local macro_rules | `(tactic| walk_at "sameS") => `(tactic| (intro z hz hs; (simp only [List.forall_mem_cons, List.not_mem_nil, false_implies, implies_true, and_true, ne_eq] at hz); (simp only [List.contains_cons, List.contains_nil, Bool.or_false, Bool.or_eq_false_iff, beq_eq_false_iff_ne, ne_eq] at hs); (simp [upd, hz, hs]; done)))
local macro_rules | `(tactic| walk_at "sameU") => `(tactic| (intro z hz; (simp only [List.forall_mem_cons, List.not_mem_nil, false_implies, implies_true, and_true, ne_eq] at hz); (simp [upd, hz]; done)))
set_option hygiene false in
local macro_rules | `(tactic| walk_at "hasU") => `(tactic| first | exact List.forall_mem_nil _ | (refine' List.forall_mem_cons.mpr ⟨?ha, ?hb⟩; (case ha => first | exact hka | walk_at "look"); (case hb => walk_at "hasU")))
-- new lists, named
set_option hygiene false in
local macro_rules | `(tactic| walk_at "newList") => `(tactic| (k_here; (rename Fr _ _ _ _ => F'); (rename News _ _ _ _ => N'); (refine newList_K F' N' ?_); first | ((fail_if_success (have hx := lNewA)); intro lNewA h' F' N' lfA) | intro lNewB h' F' N' lfB))
-- the items of the two lists
set_option hygiene false in
local macro_rules | `(tactic| walk_at "subscriptTail Name Name ref int") => `(tactic| ((with_reducible show wpAny _ _ (subscriptTail _ _ (Value.ref _) (Value.int _ _)) _ _ _); (rename News _ _ _ _ => N'); first
  | ((with_unfolding_all refine' item_or (l := lE) (vs := vE) (ns := xE) rfl (PySem.IsL.isList (n := cE) (N' (lE, W.listOf vE.toArray cE) ?hm).1) hIE ?k0 ?kh ?_ ?_ ?ks); (case hm => exact .tail _ (.tail _ (List.mem_append_left _ hmE))); (case ks => with_unfolding_all rfl); (case k0 => omega); (case kh => omega); (intro hin u9); rotate_left; (intro hout h9 tk9 e9 t9 hx9); rotate_left)
  | ((with_unfolding_all refine' item_or (l := lA) (vs := vA) (ns := xA) rfl (PySem.IsL.isList (n := cA) (N' (lA, W.listOf vA.toArray cA) ?hm).1) hIA ?k0 ?kh ?_ ?_ ?ks); (case hm => exact .tail _ (.tail _ (List.mem_append_left _ hmA))); (case ks => with_unfolding_all rfl); (case k0 => omega); (case kh => omega); (intro hin u9); rotate_left; (intro hout h9 tk9 e9 t9 hx9); rotate_left)
  | ((with_unfolding_all refine' item_or_behind (l := lA) (vs := vA) (ns := xA) rfl (N' (e1, ob) (.head _)).1 y2 rfl (PySem.IsL.isList (n := cA) (N' (lA, W.listOf vA.toArray cA) ?hm).1) hIA ?k0 ?kh ?_ ?_ ?ks); (case hm => exact .tail _ (.tail _ (.tail _ (.tail _ (List.mem_append_left _ hmA))))); (case ks => with_unfolding_all rfl); (case k0 => omega); (case kh => omega); (intro hin u9); rotate_left; (intro hout h9 tk9 e9 t9 hx9); rotate_left)))
set_option hygiene false in
local macro_rules | `(tactic| walk_at "call builtin:list.append") => `(tactic| (k_here; (with_reducible show wpAny _ _ (call (Value.builtin _) [Value.ref _, _]) _ _ _); (rename Fr _ _ _ _ => F'); (rename News _ _ _ _ => N'); (first | refine' append_K F' N' (Upd.head (hdB _)) ?_ ?kz | refine' append_K F' N' (Upd.tail hAB (Upd.head hdA)) ?_ ?kz); (case kz => (rw [sizeLine_eq]; simp only [List.size_toArray]; omega)); intro h' F' N'; simp only [List.push_toArray] at N'))
theorem sld (w : World) (p : Program) (loose : List Str) (mean : ExcName → Option Value) (mg mb : Str → Option Value) (news : List (Addr × Obj)) (lE lA : Addr) (vE vA : List Value) (xE xA : List Int) (cE cA : Nat) (hmE : (lE, W.listOf vE.toArray cE) ∈ news) (hmA : (lA, W.listOf vA.toArray cA) ∈ news) (hIE : IntsAre vE xE) (hIA : IntsAre vA xA) (sE : xE.Pairwise (· < ·)) (sA : xA.Pairwise (· < ·)) (nE : xE.length ≤ 100) (nA : xA.length ≤ 100)
    (dp un : Nat) (gd : Option (List Code)) (cn : Str) (cs : Scope) (a : Addr) (ccd : Value) (cl : List (Str × Addr)) (h₀ : Heap) (L : Addr) (m : Str → Option Value) (s : Shared) (Q E : Value → Shared → Prop)
    (F : Fr h₀ L s.heap m) (X : (hd.heap_39 w.params).In h₀) (N : News h₀ L s.heap news) (T : Top p loose mean mg mb h₀) (hk : cs.kind = .function) (hdp : dp + 5 < recursionLimit) (hun : un + 40 < cLine)
    (ret : ∀ T lm lu vm vu cm cu h' tk', Fr h₀ L h' m → News h₀ L h' ((T, { cls := .type "tuple", data := .seq #[.ref lm, .ref lu] }) :: (lu, W.listOf (List.toArray vu) cu) :: (lm, W.listOf (List.toArray vm) cm) :: news) → (∀ p ∈ news, p.1 < lm) → lm < lu → lu < T → IntsAre vm (mrg xE xA).1 → IntsAre vu (mrg xE xA).2 → Q (.ref T) { s with heap := h', toks := tk' }) :
    wpAny (model PySem.Challenge.pw_tx0015_01 w) (ktrTop dp un gd cn cs L a ccd cl []) (call (.ref 35) [.ref lE, .ref lA]) Q E s := by
  k_dflt (refine' call_oneK (env := envX cn cs L a ccd cl) F X N T ?k6 ?hcd ?hroom rfl ?hek ?hbind ?hloc ?_ ?c1 ?c2 ?c3 ?c4; (case k6 => k_is); (case hcd => k_is); (case hroom => ktr_room); (case hek => (show cs.kind ≠ .module; rw [hk]; decide)); (case hbind => exact rfl); (case hloc => exact locs rfl); (case c1 => exact rfl); (case c2 => exact rfl); (case c3 => exact rfl); (case c4 => decide))
  intro oL L' h₁ C Fs F1 N1
  dsimp only
  k_fold
  walk_at "go"
  (rename Fr _ _ _ _ => lF'); (rename News _ _ _ _ => lN')
  have hLA : L < lNewA := lfA _ (List.mem_append_right _ (.head _))
  have hAB' : lNewA < lNewB := lfB _ (.head _)
  have hAB : lNewB ≠ lNewA := Nat.ne_of_gt hAB'
  have hdA : ∀ p ∈ news ++ [(L, oL)], p.1 ≠ lNewA := fun p hp => Nat.ne_of_lt (lfA p hp)
  have hdB : ∀ o : Obj, ∀ p ∈ (lNewA, o) :: (news ++ [(L, oL)]), p.1 ≠ lNewB := fun o p hp => by
    rcases List.mem_cons.mp hp with e | hp
    · rw [e]; exact Nat.ne_of_lt hAB'
    · exact Nat.ne_of_lt (Nat.lt_trans (lfA p hp) hAB')
  have hNL : ∀ p ∈ news, p.1 ≠ L := fun p hp => (N p hp).2.1
  with_unfolding_all refine' whileS (σ := (Nat × Tok) × (Nat × Tok) × (List Value × Nat) × (List Value × Nat)) (fun c => (lNewB, W.listOf (List.toArray c.2.2.2.1) c.2.2.2.2) :: (lNewA, W.listOf (List.toArray c.2.2.1.1) c.2.2.1.2) :: (news ++ [(L, oL)])) (fun c => [(Str.ofString "i", Value.int (c.1.1 : Int) c.1.2), (Str.ofString "j", Value.int (c.2.1.1 : Int) c.2.1.2)]) [Str.ofString "e", Str.ofString "a"] (fun c => ∃ mis unx : List Int, IntsAre c.2.2.1.1 mis ∧ IntsAre c.2.2.2.1 unx ∧ c.1.1 ≤ xE.length ∧ c.2.1.1 ≤ xA.length ∧ mis.length ≤ c.1.1 ∧ unx.length ≤ c.2.1.1 ∧ mis ++ (mrg (xE.drop c.1.1) (xA.drop c.2.1.1)).1 = (mrg xE xA).1 ∧ unx ++ (mrg (xE.drop c.1.1) (xA.drop c.2.1.1)).2 = (mrg xE xA).2) (fun c => (xE.length - c.1.1) + (xA.length - c.2.1.1)) ((0, _), (0, _), ([], 0), ([], 0)) lF' lN' (fun _ h => h) ?kk ⟨[], [], .nil, .nil, Nat.zero_le _, Nat.zero_le _, Nat.le_refl _, Nat.le_refl _, rfl, rfl⟩ ?_ ?kE
  case kk => walk_at "hasN"
  case kE => passes_own
  rintro ⟨⟨i, ti⟩, ⟨j, tj⟩, ⟨vm, cm⟩, ⟨vu, cu⟩⟩ u h2 tk2 ⟨mis, unx, hvm, hvu, hi, hj, hmi, huj, hm1, hm2⟩ F1 N1
  dsimp only at hvm hvu hi hj hmi huj hm1 hm2 F1 N1
  clear lF' lN'
  k_fold
  have hlm := hvm.length
  have hlu := hvu.length
  walk_at "go"
  refine wpAny_Try_except ?_
  have hBL : lNewB ≠ L := Nat.ne_of_gt (Nat.lt_trans hLA hAB')
  have hAL : lNewA ≠ L := Nat.ne_of_gt hLA
  refine sld_cut F1 L lNewA lNewB oL news (fun i j mis unx _ _ => i ≤ xE.length ∧ j ≤ xA.length ∧ mis.length ≤ i ∧ unx.length ≤ j ∧ mis ++ xE.drop i = (mrg xE xA).1 ∧ unx ++ xA.drop j = (mrg xE xA).2) ?_ ?_
  · intro EE hEE hPass
    k_fold
    walk_at "go"
    · -- the one's item is the lesser
      rename xE.getD _ 0 < xA.getD _ 0 => hlt
      rw [Int.toNat_natCast, Int.toNat_natCast] at hlt
      obtain ⟨hn1, hn2⟩ := sld_lt (by omega) (by omega) hlt hm1 hm2
      refine while_once hPass ?_
      walk_at "go"
      · rename xE.getD _ 0 = xE.getD _ 0 => hsame
        rw [show ((i : Int) + 1).toNat = i + 1 by omega, Int.toNat_natCast] at hsame
        exact sorted_ne sE (by omega) hsame
      · refine wsend ((i + 1, _), (j, _), (_, _), (_, _)) (by assumption) (by assumption) (by walk_at "sameS") (by walk_at "hasN") (fun _ h => h) ⟨mis ++ [xE.getD i 0], unx, IntsAre.append hvm (.cons _ _ .nil), hvu, by dsimp only; omega, hj, by simp; omega, huj, hn1, hn2⟩ (by dsimp only; omega)
      · refine sld_raise (ex := []) (i := i + 1) (j := j) (mis := mis ++ [xE.getD i 0]) hEE rfl rfl Fs ⟨_, rfl⟩ hx9 (by assumption) (by assumption) (fun _ h => nomatch h) hBL hAL hNL (by walk_at "sameS") (by walk_at "hasN") (IntsAre.append hvm (.cons _ _ .nil)) hvu ?_
        exact ⟨by omega, hj, by simp; omega, huj, sld_end (.inl (by omega)) hn1 hn2⟩
    · -- the other's item is the lesser
      rename xA.getD _ 0 < xE.getD _ 0 => hlt
      rw [Int.toNat_natCast, Int.toNat_natCast] at hlt
      obtain ⟨hn1, hn2⟩ := sld_gt (by omega) (by omega) hlt hm1 hm2
      refine while_once hPass ?_
      walk_at "go"
      · rename xA.getD _ 0 = xA.getD _ 0 => hsame
        rw [show ((j : Int) + 1).toNat = j + 1 by omega, Int.toNat_natCast] at hsame
        exact sorted_ne sA (by omega) hsame
      · refine wsend ((i, _), (j + 1, _), (_, _), (_, _)) (by assumption) (by assumption) (by walk_at "sameS") (by walk_at "hasN") (fun _ h => h) ⟨mis, unx ++ [xA.getD j 0], hvm, IntsAre.append hvu (.cons _ _ .nil), hi, by dsimp only; omega, hmi, by simp; omega, hn1, hn2⟩ (by dsimp only; omega)
      · refine sld_raise (ex := []) (i := i) (j := j + 1) (unx := unx ++ [xA.getD j 0]) hEE rfl rfl Fs ⟨_, rfl⟩ hx9 (by assumption) (by assumption) (fun _ h => nomatch h) hBL hAL hNL (by walk_at "sameS") (by walk_at "hasN") hvm (IntsAre.append hvu (.cons _ _ .nil)) ?_
        exact ⟨hi, by omega, hmi, by simp; omega, sld_end (.inr (by omega)) hn1 hn2⟩
    · -- the same
      rename ¬ xE.getD _ 0 < xA.getD _ 0 => hge
      rename ¬ xA.getD _ 0 < xE.getD _ 0 => hle
      rw [Int.toNat_natCast, Int.toNat_natCast] at hge hle
      obtain ⟨hn1, hn2⟩ := sld_eq (by omega) (by omega) hge hle hm1 hm2
      refine wpAny_Try_finally ?_
      refine sld_cut2 hEE (fun i' j' mis' unx' ctx u' => i' = i + 1 ∧ j' = j ∧ mis' = mis ∧ unx' = unx ∧ i + 1 = xE.length ∧ ctx = .none ∧ ∃ tk, u' (Str.ofString "a") = some (Value.int (xA.getD j 0) tk)) ?_ ?_
      · intro EE3 hEE3 hPass3
        k_fold
        walk_at "go"
        refine while_once hPass3 ?_
        walk_at "go"
        · rename xE.getD _ 0 = xE.getD _ 0 => hsame
          rw [show ((i : Int) + 1).toNat = i + 1 by omega, Int.toNat_natCast] at hsame
          exact sorted_ne sE (by omega) hsame
        · refine wpAny_passesOwn hPass ?_
          refine while_once hPass ?_
          walk_at "go"
          · rename xA.getD _ 0 = xA.getD _ 0 => hsame
            rw [show ((j : Int) + 1).toNat = j + 1 by omega, Int.toNat_natCast] at hsame
            exact sorted_ne sA (by omega) hsame
          · refine wsend ((i + 1, _), (j + 1, _), (_, _), (_, _)) (by assumption) (by assumption) (by walk_at "sameS") (by walk_at "hasN") (fun _ h => h) ⟨mis, unx, hvm, hvu, by dsimp only; omega, by dsimp only; omega, by dsimp only; omega, by dsimp only; omega, hn1, hn2⟩ (by dsimp only; omega)
          · refine sld_raise (ex := []) (i := i + 1) (j := j + 1) hEE rfl rfl Fs ⟨_, rfl⟩ hx9 (by assumption) (by assumption) (fun _ h => nomatch h) hBL hAL hNL (by walk_at "sameS") (by walk_at "hasN") hvm hvu ?_
            exact ⟨by omega, by omega, by omega, by omega, sld_end (.inr (by omega)) hn1 hn2⟩
        · refine sld_raise (ex := []) (i := i + 1) (j := j) hEE3 rfl rfl Fs ⟨_, rfl⟩ hx9 (by assumption) (by assumption) (fun _ h => nomatch h) hBL hAL hNL (by walk_at "sameS") (by walk_at "hasN") hvm hvu ?_
          exact ⟨rfl, rfl, rfl, rfl, by omega, rfl, _, by walk_at "look"⟩
      · rintro v s₂ ⟨e1, i1, j1, ti1, tj1, vm1, vu1, cm1, cu1, mis1, unx1, ctx, sl, u1, h5, tk5, rfl, rfl, H, hvm1, hvu1, rfl, rfl, rfl, rfl, hlast, rfl, tka, hka⟩
        refine ⟨ref_ne_byPass _, noted_hot H (flight_hot none H fun h6 H6 => ?_)⟩
        obtain ⟨ob, t1, T1, oT, ts, y1, y2, y3, y4, y5, y6, y7, y8, F6, N6⟩ := H6.toNews
        dsimp only [List.cons_append] at N6
        rw [upd_know (ps' := [(Str.ofString "i", Value.int ((i + 1 : Nat) : Int) ti1), (Str.ofString "j", Value.int (j1 : Int) tj1), (Str.ofString "a", Value.int (xA.getD j1 0) tka)]) (by walk_at "sameU") (by walk_at "hasU")] at F6
        refine sld_cut2 hEE (fun i' j' mis' unx' _ _ => i' = i + 1 ∧ j' = j1 + 1 ∧ mis' = mis1 ∧ unx' = unx1 ∧ j1 + 1 = xA.length) ?_ ?_
        · intro EE4 hEE4 hPass4
          k_fold
          walk_at "go"
          refine while_once hPass4 ?_
          walk_at "go"
          · rename xA.getD _ 0 = xA.getD _ 0 => hsame
            rw [show ((j1 : Int) + 1).toNat = j1 + 1 by omega] at hsame
            exact sorted_ne sA (by omega) hsame
          · (rename Fr _ _ _ _ => F7); (rename News _ _ _ _ => N7)
            refine sld_pass (i := i + 1) (j := j1 + 1) (sl := sl) hEE y1 y2 y3 y4 y5 y6 y7 y8 F7 N7 (by walk_at "sameS") (by walk_at "hasN") hvm1 hvu1 ?_
            exact ⟨by omega, by omega, by omega, by omega, sld_end (.inl hlast) hn1 hn2⟩
          · refine sld_raise (oX := { oL with slots := sl }) (ex := [(e1, ob), (T1, oT)]) (i := i + 1) (j := j1 + 1) hEE4 rfl rfl ⟨Fs.1, Fs.2.1, Fs.2.2.1, trivial⟩ ⟨sl, rfl⟩ hx9 (by assumption) (by (rename News _ _ _ _ => N7); exact N7) (List.forall_mem_cons.mpr ⟨(y7 _ (List.mem_append_right _ (.head _))).symm, List.forall_mem_cons.mpr ⟨(y8 _ (List.mem_append_right _ (.head _))).symm, fun _ h => nomatch h⟩⟩) hBL hAL hNL (by walk_at "sameS") (by walk_at "hasN") hvm1 hvu1 ?_
            exact ⟨rfl, rfl, rfl, rfl, by omega⟩
        · rintro v s₂ ⟨e2, i2, j2, ti2, tj2, vm2, vu2, cm2, cu2, mis2, unx2, ctx2, sl2, u2, h7, tk7, rfl, rfl, H2, hvm2, hvu2, rfl, rfl, rfl, rfl, hlast2⟩
          refine hotBy_cameBack H2 fun h8 H8 => hEE _ _ (noted_hot H8 ⟨e2, _, _, ti2, tj2, vm2, vu2, cm2, cu2, _, _, ctx2, sl2, u2, h8, tk7, rfl, rfl, H8, hvm2, hvu2, by omega, by omega, by omega, by omega, sld_end (.inl hlast) hn1 hn2⟩)
    · refine sld_raise (ex := []) (i := i) (j := j) hEE rfl rfl Fs ⟨_, rfl⟩ hx9 (by assumption) (by assumption) (fun _ h => nomatch h) hBL hAL hNL (by walk_at "sameS") (by walk_at "hasN") hvm hvu ?_
      exact ⟨hi, hj, hmi, huj, sld_end (.inr (by omega)) hm1 hm2⟩
    · refine sld_raise (ex := []) (i := i) (j := j) hEE rfl rfl Fs ⟨_, rfl⟩ hx9 (by assumption) (by assumption) (fun _ h => nomatch h) hBL hAL hNL (by walk_at "sameS") (by walk_at "hasN") hvm hvu ?_
      exact ⟨hi, hj, hmi, huj, sld_end (.inl (by omega)) hm1 hm2⟩
  · rintro v s₂ ⟨e1, i1, j1, ti1, tj1, vm1, vu1, cm1, cu1, mis1, unx1, ctx, sl, u1, h5, tk5, rfl, rfl, H, hvm1, hvu1, hi1, hj1, hmi1, huj1, hq1, hq2⟩
    refine flight_hot none H fun h6 H6 => ?_
    clear H N1 F1
    k_fold
    refine wpAny_handleBy_builtin (X := "IndexError") (T := "IndexError") (b := true) (isSubtype_of_subB (by decide +kernel)) (isSubtype_of_subB (by decide +kernel)) (isSubtype_of_subB (by decide +kernel)) ?_
    k_fold
    have F6 := H6.held.held.fr
    walk1
    refine ⟨rfl, H6.held.isA, ?_⟩
    rw [if_pos rfl]
    clear F6
    refine H6.held.lands fun h8 F8 N8 => ?_
    clear H6
    replace N8 : News h₀ L' h8 ((lE, W.listOf vE.toArray cE) :: (lA, W.listOf vA.toArray cA) :: (lNewB, W.listOf vu1.toArray cu1) :: (lNewA, W.listOf vm1.toArray cm1) :: (news ++ [(L, { oL with slots := sl })])) := fun p hp => by
      rcases List.mem_cons.mp hp with q | hp
      · rw [q]; exact N8 _ (List.mem_append_left _ (.tail _ (.tail _ hmE)))
      · rcases List.mem_cons.mp hp with q | hp
        · rw [q]; exact N8 _ (List.mem_append_left _ (.tail _ (.tail _ hmA)))
        · exact N8 p hp
    walk_at "go"
    (rename Fr _ _ _ _ => F9); (rename News _ _ _ _ => N9)
    k_dflt (refine' kmk_slice_ints (l := lE) (vs := vE) (lo := some (i1 : Int)) F9 N9 (PySem.IsL.isList (n := cE) (N9 (lE, W.listOf vE.toArray cE) ?ehm).1) ?ep ?eq hIE (kmk_from hIE ?ek0) (List.length_drop ..) ?_ ?es ?et (kmk_sz hIE ?ez); (case ehm => exact .head _); (case ep => (dsimp only; kmk_part)); (case eq => kmk_part); (case ek0 => exact Int.natCast_nonneg _); (case es => with_unfolding_all rfl); (case et => kmk_pure); (case ez => (rw [sizeLine_eq]; omega)))
    intro lS1 wS1 h9 F10 N10 lf1 hI1 _ _
    rw [Int.toNat_natCast] at hI1
    clear F9 N9
    have hEA : lE ≠ lNewA := Nat.ne_of_lt (lfA _ (List.mem_append_left _ hmE))
    have hAA : lA ≠ lNewA := Nat.ne_of_lt (lfA _ (List.mem_append_left _ hmA))
    have hEB : lE ≠ lNewB := Nat.ne_of_lt (lfB _ (.tail _ (List.mem_append_left _ hmE)))
    have hAB2 : lA ≠ lNewB := Nat.ne_of_lt (lfB _ (.tail _ (List.mem_append_left _ hmA)))
    have hdA' : ∀ o : Obj, ∀ p ∈ news ++ [(L, o)], p.1 ≠ lNewA := fun o p hp => by
      rcases List.mem_append.mp hp with hp | hp
      · exact hdA p (List.mem_append_left _ hp)
      · rw [List.mem_singleton.mp hp]; exact hAL.symm
    have hdB' : ∀ o o' : Obj, ∀ p ∈ (lNewA, o) :: (news ++ [(L, o')]), p.1 ≠ lNewB := fun o o' p hp => by
      rcases List.mem_cons.mp hp with e | hp
      · rw [e]; exact Nat.ne_of_lt hAB'
      · rcases List.mem_append.mp hp with hp | hp
        · exact hdB o p (.tail _ (List.mem_append_left _ hp))
        · rw [List.mem_singleton.mp hp]; exact hBL.symm
    have q1 : lNewA < lS1 := lf1 _ (.tail _ (.tail _ (.tail _ (.head _))))
    have q1' : lNewB < lS1 := lf1 _ (.tail _ (.tail _ (.head _)))
    walk_at "go"
    refine extend_K F10 N10 (.head _) (fun c => Upd.tail (Nat.ne_of_gt q1) (Upd.tail hEA (Upd.tail hAA (Upd.tail hAB (Upd.head (hdA' _)))))) (by rw [hvm1.length, hI1.length, List.length_drop]; omega) fun h9 c9 F11 N11 => ?_
    clear F10 N10
    walk_at "go"
    (rename Fr _ _ _ _ => F9); (rename News _ _ _ _ => N9)
    k_dflt (refine' kmk_slice_ints (l := lA) (vs := vA) (lo := some (j1 : Int)) F9 N9 (PySem.IsL.isList (n := cA) (N9 (lA, W.listOf vA.toArray cA) ?fhm).1) ?fp ?fq hIA (kmk_from hIA ?fk0) (List.length_drop ..) ?_ ?fs ?ft (kmk_sz hIA ?fz); (case fhm => exact .tail _ (.tail _ (.head _))); (case fp => (dsimp only; kmk_part)); (case fq => kmk_part); (case fk0 => exact Int.natCast_nonneg _); (case fs => with_unfolding_all rfl); (case ft => kmk_pure); (case fz => (rw [sizeLine_eq]; omega)))
    intro lS2 wS2 h9 F10 N10 lf2 hI2 _ _
    rw [Int.toNat_natCast] at hI2
    clear F9 N9
    have q2 : lNewB < lS2 := lf2 _ (.tail _ (.tail _ (.tail _ (.head _))))
    walk_at "go"
    refine extend_K F10 N10 (.head _) (fun c => Upd.tail (Nat.ne_of_gt q2) (Upd.tail (Nat.ne_of_gt q1') (Upd.tail hEB (Upd.tail hAB2 (Upd.head (hdB' _ _)))))) (by rw [hvu1.length, hI2.length, List.length_drop]; omega) fun h9 c10 F11 N11 => ?_
    clear F10 N10
    walk_at "go"
    (rename Fr _ _ _ _ => F9); (rename News _ _ _ _ => N9)
    rename lS2 < _ ∧ _ => l9
    obtain ⟨r1, r2, r3, r4, r5, r6, r7⟩ := l9
    have hB := back_one (sl := sl) (new := (_, { cls := .type "tuple", data := .seq #[.ref lNewA, .ref lNewB] }) :: (lNewB, W.listOf (List.toArray (vu1 ++ wS2)) c10) :: (lNewA, W.listOf (List.toArray (vm1 ++ wS1)) c9) :: news) C F9 (fun p hp => N9 p (by
      rcases List.mem_cons.mp hp with q | hp
      · rw [q]; exact .head _
      · refine .tail _ (.tail _ (.tail _ (.tail _ (.tail _ ?_))))
        exact hp)) (fun p hp => by
      rcases List.mem_cons.mp hp with q | hp
      · rw [q]; exact Nat.ne_of_gt (Nat.lt_trans hLA r6)
      · rcases List.mem_cons.mp hp with q | hp
        · rw [q]; exact hBL
        · rcases List.mem_cons.mp hp with q | hp
          · rw [q]; exact hAL
          · exact hNL p hp)
    refine ret _ lNewA lNewB _ _ c9 c10 _ _ hB.1 hB.2 (fun p hp => lfA p (List.mem_append_left _ hp)) hAB' r5 ?_ ?_
    · rw [← hq1]; exact IntsAre.append hvm1 hI1
    · rw [← hq2]; exact IntsAre.append hvu1 hI2
end
section
theorem k_clean2 : True := by
  w_top off
  k_with_none
  trivial
theorem fillK15 : PySem.Challenge.rw_tx0015_01 = PySem.Challenge.rw_tx0015_01 ∧ hd.heap_39 = hd.heap_39 := by
  k_fill
  exact ⟨rfl, rfl⟩
-- walk on, but not into a loop
local macro_rules | `(tactic| walk_at "stop") => `(tactic| with_reducible first | show wpAny _ _ (call (Value.builtin "str.join") _) _ _ _ | show wpAny _ _ (eval (PySem.Expr.ListComp _ _ _ _) _) _ _ _ | show wpAny _ _ (eval (PySem.Expr.IfExp _ _ _ _) _) _ _ _ | show wpAny _ _ (exec (Stmt.Assign [PySem.Expr.Name _ _] (PySem.Expr.ListComp _ _ _ _) _) _) _ _ _ | show wpAny _ _ (call (Value.ref _) _) _ _ _ | show wpAny _ _ (binaryOp Operator.Add (Value.ref _) (Value.ref _)) _ _ _ | show wpAny _ _ (call (Value.builtin "len") [Value.str _ _]) _ _ _ | show wpAny _ _ (binaryOp Operator.Add (Value.str _ _) (Value.str _ _)) _ _ _ | show wpAny _ _ (call (Value.type _) [Value.ref _, Value.ref _]) _ _ _ | show ZEnd _ _ _ _ _ | show LCg.CompSrc _ _ _ _ _ _ _ _ _ _ _ _ _ _ | show LCt.CompSrcT _ _ _ _ _ _ _ _ _ _ _ _ _ _ _ | show wpAny _ _ (subscriptTail _ (PySem.Expr.Slice _ _ _ _) _ _) _ _ _ | show LCp.SrcLP _ _ _ _ _ _ _ _ _ _ _ _ _ _ _ | show LCg.CompEnd _ _ _ _ _ _ _ _ _ _ _ _ _ _ | show UEnd _ _ _ _ _ _ _ _ _ _ _ _ _)
-- a for, up to its iterator
set_option hygiene false in
local macro_rules | `(tactic| walk_at "newTuple") => `(tactic| (k_here; (rename Fr _ _ _ _ => F'); (rename News _ _ _ _ => N'); (refine' kup_newTuple F' N' ?_ ?nz; (case nz => exact Nat.le_of_ble_eq_true rfl)); intro lTu h' F' N' lfTu))
set_option hygiene false in
local macro_rules | `(tactic| walk_at "enterC") => `(tactic| (refine' code_defC ?k1 ?k2 ?k3 ?k4 ?k5 ?kA ?kF ?kK ?k6 ?k7 ?k8 ?k9 ?kB ?kD ?_ ?c2 ?c3 ?c4; (case kA => exact rfl); (case kF => exact rfl); (case kK => assumption); (case k1 => k_asm); (case k2 => k_asm); (case k3 => k_asm); (case k4 => k_asm); (case k5 => k_asm); (case k6 => k_is); (case k7 => k_is); (case k8 => ktr_room); (case k9 => exact BindsTo.of_eq rfl); (case kB => exact rfl); (case kD => decide +kernel); (case c2 => exact rfl); (case c3 => exact rfl); (case c4 => exact rfl); k_whole; intro gC LC' hC' tkC' cellsC FGC F' N' YC BC XC TC lC1; (have hYC := PyProof.Rows.CellsAre.one YC); (obtain ⟨oC0, hEC, dC0⟩ := hYC); subst hEC; clear YC; (try simp only [List.cons_append, List.nil_append] at N'); (try dsimp only); (try k_lift BC); (try k_fold)))
set_option hygiene false in
local macro_rules | `(tactic| walk_at "newList") => `(tactic| (k_here; (rename Fr _ _ _ _ => F'); (rename News _ _ _ _ => N'); (refine newList_K F' N' ?_); intro lS h' F' N' lfS))
def drawn16 (xs : List Int) : List Int := (xs.take 5).map fun x => x.fmod 16
def familyOf (xs : List Int) : List Int := drawn16 xs ++ [9, 6, 1].drop (drawn16 xs).length
theorem lackI (a b c : Tok) : IntsAre [Value.int 9 a, Value.int 6 b, Value.int 1 c] [9, 6, 1] := .cons _ _ (.cons _ _ (.cons _ _ .nil))
theorem family (w : World) (p : Program) (loose : List Str) (mean : ExcName → Option Value) (mg mb : Str → Option Value) (news : List (Addr × Obj)) (lQ : Addr) (vS : List Value) (xS : List Int) :
    ClaimL 5 PySem.Challenge.pw_tx0015_01 w (hd.heap_39 w.params) p loose mean mg mb 40 news (fun b => b.IsList lQ vS.toArray ∧ IntsAre vS xS ∧ xS.length ≤ 63) [.ref lQ] (familyOf xS) := by
  unfold ClaimL; intros; rename_i hpre _ _ hret
  obtain ⟨hLS, hIS, h63⟩ := hpre
  have cbI : CbIn 40 := CbIn.mk
  refine wpAny_call ?_
  k_dflt cell_enter
  walk_at "go"
  k_dflt (refine LCg.Assign_ListComp_U (F₀ := by k_asm) (by rfl) (by with_unfolding_all rfl) (by with_unfolding_all rfl) (by decide) (by rfl) (by decide) (by rfl) (by rfl) (by rfl) ?_)
  walk_at "go"
  (rename Fr _ _ _ _ => F3); (rename News _ _ _ _ => N3)
  k_dflt (refine' kmk_slice_ints (lo := none) (hi := some 5) (ms := xS.take 5) ?gF ?gN ?gl ?gp ?gq ?gi ?ge ?gc ?_ ?gs ?gt ?gz; (case gF => exact F3); (case gN => exact N3); (case gp => kmk_part); (case gq => kmk_part); (case gs => with_unfolding_all rfl); (case gt => kmk_pure); (case gi => exact hIS); (case gl => is_list); (case ge => exact kmk_upto hIS (by decide)); (case gc => rfl); (case gz => (rw [sizeLine_eq, List.size_toArray, hIS.length]; omega)))
  intro l6 v6 h6 F6 N6 lf6 hI6 _ _
  walk_at "go"
  refine LCg.CompSrc.ledger (its := v6.toArray) (by rfl) F6 N6 (.head _) (by rw [sizeLine_eq, List.size_toArray, hI6.length, List.length_take]; omega) (fun g => restU_of (fun i ys nx => nx = (l6, W.listOf v6.toArray 0) :: _ ∧ IntsAre ys (((xS.take 5).take i).map fun x => x.fmod 16)) ?_ ?_ _ 0 [] _ (Nat.zero_add _) ⟨rfl, .nil⟩)
  · rintro i v ys nx hi hv ⟨rfl, hys⟩ I oI oC C D m₂ h tk E hN hx F7 N7 off7 ne7
    k_fold
    obtain ⟨x, tx, hx6, rfl⟩ := ints_get hI6 (by simpa using hv)
    walk_at "go"
    (rename Fr _ _ _ _ => F8); (rename News _ _ _ _ => N8)
    refine LCg.CompEnd.intro F8 N8 _ (fun _ h => h) off7 (Or.inr ⟨_, .head _, rfl, _, rfl⟩) ⟨rfl, ?_⟩
    rw [take_map_succ hx6]
    exact ints_snoc hys
  · rintro ys nx ⟨rfl, hys⟩
    show LCg.FinA _ _ _ _ _ _ _ _
    intro lD h7 tk7 F7 N7 o7
    change News _ _ _ ((lD, W.listOf ys.toArray ys.length) :: _) at N7
    have hv6 := hI6.length
    rw [List.length_take] at hv6
    have hys : IntsAre ys (drawn16 xS) := by
      rw [List.take_take, List.size_toArray, hv6, show min (min 5 xS.length) 5 = min 5 xS.length by omega, kmk_take_min] at hys
      exact hys
    have hyl := hys.length
    have hyd : (drawn16 xS).length = min 5 xS.length := by unfold drawn16; rw [List.length_map, List.length_take]
    have hy7 : ys.length ≤ 5 := by omega
    walk_at "go"
    (rename Fr _ _ _ _ => F8); (rename News _ _ _ _ => N8)
    k_dflt (refine' kmk_slice_ints (l := lS) (lo := some ((drawn16 xS).length : Int)) (hi := none) (ms := [9, 6, 1].drop ((drawn16 xS).length : Int).toNat) ?gF ?gN ?gl ?gp ?gq ?gi ?ge ?gc ?_ ?gs ?gt ?gz; (case gF => exact F8); (case gN => exact N8); (case gp => kmk_part); (case gq => kmk_part); (case gs => with_unfolding_all rfl); (case gt => kmk_pure); (case gl => exact (PySem.IsL.isList (n := 0) (N8 _ (.tail _ (.tail _ (.head _)))).1)); (case gi => exact lackI _ _ _); (case ge => exact kmk_from (lackI _ _ _) (by omega)); (case gc => rfl); (case gz => (rw [sizeLine_eq]; show 3 ≤ 16777216; decide)))
    intro lR vR hR FR NR lfR hIR _ _
    rw [Int.toNat_natCast] at hIR
    walk_at "go"
    refine kmk_add_ints FR NR (PySem.IsL.isList (n := ys.length) (NR (lD, W.listOf ys.toArray ys.length) (.tail _ (.head _))).1) (PySem.IsL.isList (n := 0) (NR _ (.head _)).1) hys hIR (fun lW vW hW FW NW lfW hIW => ?_) (by rw [sizeLine_eq, List.length_drop, hyd]; simp; omega)
    clear NR FR
    walk_at "go"
    refine hret lW vW 0 _ _ (by assumption) (cb_drop (by assumption) fun p hp => ?_) (fun p hp => Nat.ne_of_lt (lfW p (.tail _ (.tail _ (.tail _ (.tail _ ?_)))))) hIW
    · rcases List.mem_cons.mp hp with q | hp
      · rw [q]; exact .head _
      · exact .tail _ (.tail _ (.tail _ (.tail _ (.tail _ hp))))
    · exact hp
def placesOf (c : Int) : List Int := ((List.range 4).map fun (i : Nat) => (i : Int)).filter fun q => decide ((c.fdiv (2 ^ q.toNat)).fmod 2 = 1)
theorem terms_succ' (i : Nat) (p : Int → Bool) : (((List.range (i + 1)).map fun (i : Nat) => (i : Int)).filter p) = (((List.range i).map fun (i : Nat) => (i : Int)).filter p) ++ (if p (i : Int) then [(i : Int)] else []) := by
  rw [List.range_succ, List.map_append, List.filter_append]
  cases hp : p (i : Int) <;> simp [hp]
theorem small_nat' {k : Nat} (h : k ≤ 16) : Builtin.Range.small 0 (k : Int) 1 = true := small_one (by omega) (by omega) (by omega) (by omega)
theorem places (w : World) (p : Program) (loose : List Str) (mean : ExcName → Option Value) (mg mb : Str → Option Value) (news : List (Addr × Obj)) (c : Int) (tc : Tok) :
    ClaimL 5 PySem.Challenge.pw_tx0015_01 w (hd.heap_39 w.params) p loose mean mg mb 45 news (fun _ => 0 ≤ c ∧ c < 16) [.int c tc] (placesOf c) := by
  unfold ClaimL; intros; rename_i hpre _ _ hret
  obtain ⟨hc0, hc1⟩ := hpre
  have cbI : CbIn 45 := CbIn.mk
  refine wpAny_call ?_
  k_dflt walk_at "enterC"
  walk_at "go"
  k_dflt (refine LCt.ListComp_T (F₀ := by k_asm) (by with_unfolding_all rfl) (by decide) (by rfl) (by decide) (by rfl) ?_)
  walk_at "go"
  rename IsRange _ _ _ _ _ _ _ _ => rgX
  (rename Fr _ _ _ _ => F3); (rename News _ _ _ _ => N3)
  refine LCt.CompSrcT.range (n := 4) (by rfl) F3 N3 rgX (small_nat' (k := 4) (by decide)) (range_len 4) (by rw [sizeLine_eq]; omega) (fun g => restT_of (fun i ys nx => nx = _ :: _ ∧ IntsAre ys (((List.range i).map fun (i : Nat) => (i : Int)).filter fun q => decide ((c.fdiv (2 ^ q.toNat)).fmod 2 = 1))) ?_ ?_ _ 0 [] _ (Nat.zero_add _) ⟨rfl, .nil⟩)
  · rintro i v ys2 nx hi ⟨tv, rfl⟩ ⟨rfl, hys2⟩ I oI oC C D m₂ h tk E hN hx F7 N7 off7 ne7
    rw [Int.zero_add] at hx
    k_fold
    walk_at "go"
    · rename (c.fdiv _).fmod 2 = 1 => hb
      refine LCg.CompEnd.intro (by assumption) (by assumption) _ (fun p hp => hp) off7 trivial ⟨rfl, ?_⟩
      rw [terms_succ', if_pos (by simpa using hb)]
      exact ints_snoc hys2
    · rename ¬ (c.fdiv _).fmod 2 = 1 => hb
      refine LCg.CompEnd.intro (by assumption) (by assumption) _ (fun p hp => hp) off7 trivial ⟨rfl, ?_⟩
      rw [terms_succ', if_neg (by simpa using hb), List.append_nil]
      exact hys2
  · rintro ys2 nx ⟨rfl, hys2⟩
    show LCg.FinE _ _ _ _ _ _ _
    intro l1st h7 tk7 F7 N7 o7
    change News _ _ _ ((l1st, W.listOf ys2.toArray ys2.length) :: _) at N7
    walk_at "go"
    refine hret l1st ys2 ys2.length _ _ (by assumption) (cb_drop (by assumption) fun p hp => ?_) (fun p hp => off1_mem o7 p (.tail _ hp)) hys2
    rcases List.mem_cons.mp hp with q | hp
    · rw [q]; exact .head _
    · exact .tail _ (.tail _ hp)
/-- the sign of a word at a place -/
def glyph (xT : List Int) (f q : Nat) : Nat := if xT.any (· == (q : Int)) then f + q - 32 else f + q
theorem word (w : World) (p : Program) (loose : List Str) (mean : ExcName → Option Value) (mg mb : Str → Option Value) (news : List (Addr × Obj)) (lT : Addr) (vT : List Value) (xT : List Int) (cT : Nat) (f : Nat) (tn : Tok) :
    Claim PySem.Challenge.pw_tx0015_01 w (hd.heap_39 w.params) p loose mean mg mb 52 news ((lT, W.listOf vT.toArray cT) ∈ news ∧ IntsAre vT xT ∧ 97 ≤ f ∧ f ≤ 119) [.ref lT, .int (f : Int) tn] (fun t => .str ⟨((List.range 4).map (glyph xT f)).toArray⟩ t) := by
  unfold Claim; intros; rename_i hpre _ _ hret
  obtain ⟨hmT, hIT, hf0, hf1⟩ := hpre
  have cbI : CbIn 52 := CbIn.mk
  refine wpAny_call ?_
  k_dflt cell_enter
  walk_at "go"
  walk_at "for"
  rename IsRange _ _ _ _ _ _ _ _ => rgX
  (rename Fr _ _ _ _ => lF'); (rename News _ _ _ _ => lN')
  with_unfolding_all refine' for_range0 (n := 4) (σ := List Value × Nat) (fun c => (_, W.listOf c.1.toArray c.2) :: news) (fun c => []) [] (fun i c => CarriedAll c.1 (((List.range i).map (glyph xT f)).map fun a => PyData.str ⟨#[a]⟩)) ([], 0) ?k0 rgX (by omega) lF' lN' (fun _ h => h) ?kk .nil ?_ ?_
  case k0 => rfl
  case kk => walk_at "hasN"
  · rintro ⟨vs, cs⟩ i t u h1 tk1 own hi hoff hvs F1 N1
    dsimp only at hvs F1 N1
    k_fold
    clear lF' lN'
    have lisT : h1.IsList lT vT.toArray := PySem.IsL.isList (n := cT) (N1 _ (.tail _ (List.mem_append_left _ hmT))).1
    walk_at "go"
    · rename List.any _ _ = true => hb
      (rename Fr _ _ _ _ => F'); (rename News _ _ _ _ => N')
      have hlv := hvs.length_eq
      simp only [List.length_map, List.length_range] at hlv
      refine append_Y F' N' (fun y => Upd.head ?_) (by omega) (fun y h' hy F' N' => ?_)
      · intro p hp
        rcases List.mem_append.mp hp with hp | hp
        · exact Nat.ne_of_lt (lfS p hp)
        · exact hoff p hp _ (.head _)
      walk_at "go"
      refine fend (vs ++ [y], cs + 1) (by assumption) (by assumption) ?_ ?_ rfl (by walk_at "hasN") (by walk_at "sameN") ?_
      · intro p hp
        rcases List.mem_cons.mp hp with q | hp
        · rw [q]; exact .head _
        · exact .tail _ (List.mem_append_left _ hp)
      · intro p hp; exact .tail _ (List.mem_append_right _ hp)
      · dsimp only
        rw [List.range_succ, List.map_append, List.map_append]
        refine carried_append hvs ?_
        rw [hy]
        have e : ((f : Int) + (i : Int) - 32).toNat = glyph xT f i := by
          unfold glyph
          rw [hb]
          rw [if_pos rfl]; omega
        rw [e]
        exact .str _ _
    · rename List.any _ _ = false => hb
      (rename Fr _ _ _ _ => F'); (rename News _ _ _ _ => N')
      have hlv := hvs.length_eq
      simp only [List.length_map, List.length_range] at hlv
      refine append_Y F' N' (fun y => Upd.head ?_) (by omega) (fun y h' hy F' N' => ?_)
      · intro p hp
        rcases List.mem_append.mp hp with hp | hp
        · exact Nat.ne_of_lt (lfS p hp)
        · exact hoff p hp _ (.head _)
      walk_at "go"
      refine fend (vs ++ [y], cs + 1) (by assumption) (by assumption) ?_ ?_ rfl (by walk_at "hasN") (by walk_at "sameN") ?_
      · intro p hp
        rcases List.mem_cons.mp hp with q | hp
        · rw [q]; exact .head _
        · exact .tail _ (List.mem_append_left _ hp)
      · intro p hp; exact .tail _ (List.mem_append_right _ hp)
      · dsimp only
        rw [List.range_succ, List.map_append, List.map_append]
        refine carried_append hvs ?_
        rw [hy]
        have e : ((f : Int) + (i : Int)).toNat = glyph xT f i := by
          unfold glyph
          rw [hb]
          rw [if_neg (by decide)]; omega
        rw [e]
        exact .str _ _
  · rintro ⟨vs, cs⟩ u h1 tk1 hvs F1 N1
    dsimp only at hvs F1 N1
    clear lF' lN'
    walk_at "go"
    (rename News _ _ _ _ => N')
    refine KT.join_1 (l := (List.range 4).map (glyph xT f)) (g := fun a => ⟨#[a]⟩) (PySem.IsL.isList (N' _ (.head _)).1) hvs (fun _ _ => rfl) (by simp) ?_
    intro t9 k9 e9
    rw [glued_ones]
    walk_at "go"
    cb_end hret
theorem cutV {α : Type} {M : Model} {A : Around} {E : Value → Shared → Prop} {Q : α → Shared → Prop} {s : Shared} {t : Sem α} (P : α → Prop)
    (h1 : ∀ R : α → Shared → Prop, (∀ v tk, P v → R v { s with toks := tk }) → wpAny M A t R E s)
    (h2 : ∀ v tk, P v → Q v { s with toks := tk }) : wpAny M A t Q E s := h1 Q h2
/-- the rows of _law_wave -/
def wrow (d : Int) : Nat → List Int
  | 0 => [1]
  | k + 1 => (List.range (k + 2)).map fun i => (wrow d k ++ [0]).getD i 0 + (if (k : Int) < d then -1 else 1) * (0 :: wrow d k).getD i 0
theorem wrow_length (d : Int) : ∀ k, (wrow d k).length = k + 1
  | 0 => rfl
  | k + 1 => by rw [wrow]; simp
theorem wave (w : World) (p : Program) (loose : List Str) (mean : ExcName → Option Value) (mg mb : Str → Option Value) (news : List (Addr × Obj)) (d : Int) (td : Tok) :
    ClaimL 5 PySem.Challenge.pw_tx0015_01 w (hd.heap_39 w.params) p loose mean mg mb 57 news (fun _ => True) [.int d td] (wrow d 4) := by
  unfold ClaimL; intros; rename_i _ _ _ hret
  have cbI : CbIn 57 := CbIn.mk
  refine wpAny_call ?_
  k_dflt walk_at "enterC"
  walk_at "go"
  refine For_T ?_
  walk_at "go"
  rename IsRange _ _ _ _ _ _ _ _ => rgX
  (rename Fr _ _ _ _ => lF'); (rename News _ _ _ _ => lN')
  have hLn : ∀ p ∈ news, p.1 ≠ LC' + 1 := fun p hp => Nat.ne_of_lt (Nat.lt_succ_of_lt (lC1 p hp))
  have hT2 : LC' + 1 < lS := lfS _ (.head _)
  have hSn : ∀ p ∈ news, p.1 ≠ lS := fun p hp => Nat.ne_of_lt (lfS p (.tail _ hp))
  with_unfolding_all refine' for_rangeT (n := 4) (σ := Obj × Addr × List Value × Nat) (fun c => (LC' + 1, c.1) :: (c.2.1, W.listOf c.2.2.1.toArray c.2.2.2) :: news) (fun c => [(Str.ofString "row", Value.ref c.2.1)]) [Str.ofString "step"] (fun i c => (∃ v₀, c.1.data = .cell v₀) ∧ IntsAre c.2.2.1 (wrow d i) ∧ c.2.1 ≠ LC' + 1 ∧ ∀ p ∈ news, p.1 ≠ c.2.1) (oC0, lS, [Value.int 1 tkC'], 0) ?hgo ?hE ?k0 rgX (by omega) lF' lN' ?hn ?kk ?hp ?_ ?_
  case k0 => rfl
  case kk => walk_at "hasN"
  case hE => passes_own
  case hgo => intro s' I v Q' E' hq; exact wpAny_pure hq
  case hp => exact ⟨⟨_, dC0⟩, .cons _ _ .nil, Nat.ne_of_gt hT2, hSn⟩
  case hn =>
    intro p hp
    rcases List.mem_cons.mp hp with q | hp
    · rw [q]; exact .tail _ (.head _)
    rcases List.mem_cons.mp hp with q | hp
    · rw [q]; exact .head _
    · exact .tail _ (.tail _ hp)
  · rintro ⟨oC, lr, vr, cr⟩ i t u s₁ I oI own hi ⟨⟨v₀, hcd⟩, hIr, hd1, hd2⟩ hI hmI hown F1 N1
    dsimp only at hcd hIr hd1 hd2 F1 N1
    k_fold
    clear lF' lN'
    have hIc : I ≠ LC' + 1 := fun e => hI _ (.head _) e.symm
    have hIr2 : I ≠ lr := fun e => hI _ (.tail _ (.head _)) e.symm
    refine wpAny_assign_Name (storeX_L F1 N1 fun h2 F2 N2 => ?_)
    clear F1 N1
    walk_at "go"
    refine cutV (fun v => ∃ tk, v = .int (if (i : Int) < d then -1 else 1) tk) ?_ ?_
    · intro R hR
      walk1
      walk_at "go"
      · rename (i : Int) < d => hlt
        have hR2 := fun t tk => hR _ tk ⟨t, rfl⟩
        rw [if_pos hlt] at hR2
        exact hR2 _ _
      · rename ¬ (i : Int) < d => hlt
        have hR2 := fun t tk => hR _ tk ⟨t, rfl⟩
        rw [if_neg hlt] at hR2
        exact hR2 _ _
    · rintro _ tk ⟨tkv, rfl⟩
      generalize hsg : (if (i : Int) < d then (-1 : Int) else 1) = sg
      have hoff : ∀ p ∈ (lr, W.listOf vr.toArray cr) :: news ++ own, p.1 ≠ LC' + 1 := by
        intro p hp
        rcases List.mem_append.mp hp with hp | hp
        · rcases List.mem_cons.mp hp with q | hp
          · rw [q]; exact hd1
          · exact hLn p hp
        · rw [hown p hp]; exact hIc
      (first | refine storeX_C F2 N2 rfl (UpdF.head hoff) hcd fun h3 oC2 F3 N3 hcd2 => ?_ | refine wpAny_assign_Name (storeX_C F2 N2 rfl (UpdF.head hoff) hcd fun h3 oC2 F3 N3 hcd2 => ?_))
      clear F2 N2
      walk_at "go"
      k_dflt (refine Assign_ListComp_Z (F₀ := by k_asm) (by rfl) (by with_unfolding_all rfl) (by with_unfolding_all rfl) (by decide) (by rfl) (by decide) (by rfl) (by rfl) (by decide) (by rfl) (by rfl) ?_)
      walk_at "go"
      have hrl := wrow_length d i
      (rename Fr _ _ _ _ => F4); (rename News _ _ _ _ => N4)
      refine kmk_add_ints F4 N4 (PySem.IsL.isList (n := cr) (N4 (lr, W.listOf vr.toArray cr) (.tail _ (.tail _ (.head _)))).1) (PySem.IsL.isList (n := 0) (N4 _ (.head _)).1) hIr (.cons 0 _ .nil) (fun lU vU hU FU NU lfU hIU => ?_) (by rw [sizeLine_eq, hrl]; simp; omega)
      have hU2 : LC' + 1 < lU := lfU _ (.tail _ (.head _))
      clear F4 N4
      walk_at "go"
      (rename Fr _ _ _ _ => F4); (rename News _ _ _ _ => N4)
      refine kmk_add_ints F4 N4 (PySem.IsL.isList (n := 0) (N4 _ (.head _)).1) (PySem.IsL.isList (n := cr) (N4 (lr, W.listOf vr.toArray cr) (.tail _ (.tail _ (.tail _ (.tail _ (.head _)))))).1) (.cons 0 _ .nil) hIr (fun lV vV hV FV NV lfV hIV => ?_) (by rw [sizeLine_eq, hrl]; simp; omega)
      have hV2 : LC' + 1 < lV := lfV _ (.tail _ (.tail _ (.tail _ (.head _))))
      clear F4 N4
      walk_at "go"
      refine zip_src (c1 := 0) (c2 := 0) (fun k => (wrow d i ++ [0]).getD k 0 + sg * (0 :: wrow d i).getD k 0) (by rfl) FV NV (.tail _ (.tail _ (.head _))) (.head _) hIU hIV (by rw [List.length_append, hrl]; simp; omega) ?_ ?_
      · intro k a b ta tb ha hb C oC5 m₂ h tk E hN hx1 hx2 F7 N7
        k_fold
        walk_at "go"
        refine zend ?_
        show a + sg * b = (wrow d i ++ [0]).getD k 0 + sg * ([0] ++ wrow d i).getD k 0
        rw [List.getD_eq_getElem?_getD, List.getD_eq_getElem?_getD, ha, hb]
        rfl
      · intro zs h9 hzs lD h7 tk7 F7 N7 o7
        change News _ _ _ ((lD, W.listOf zs.toArray zs.length) :: _) at N7
        have oD := off1_mem o7
        clear o7
        walk_at "go"
        have mNews : ∀ p ∈ news ++ own, p ∈ ((lr, W.listOf vr.toArray cr) :: news).append own := fun p hp => by
          rcases List.mem_append.mp hp with hp | hp
          · exact List.mem_append_left _ (.tail _ hp)
          · exact List.mem_append_right _ hp
        refine uend (oC2, lD, zs, zs.length) (by assumption) (by assumption) ?_ ?_ ?_ (by walk_at "hasN") ?_ ?_
        · intro p hp
          rcases List.mem_cons.mp hp with q | hp
          · rw [q]; exact .tail _ (.tail _ (.tail _ (.tail _ (.tail _ (.head _)))))
          rcases List.mem_cons.mp hp with q | hp
          · rw [q]; exact .head _
          · exact .tail _ (.tail _ (.tail _ (.tail _ (.tail _ (.tail _ (mNews p (List.mem_append_left _ hp)))))))
        · exact fun p hp => .tail _ (.tail _ (.tail _ (.tail _ (.tail _ (.tail _ (mNews p (List.mem_append_right _ hp)))))))
        · intro p hp
          rcases List.mem_cons.mp hp with q | hp
          · rw [q]; exact fun e => hIc e.symm
          rcases List.mem_cons.mp hp with q | hp
          · rw [q]; exact fun e => oD (I, oI) (.tail _ (.tail _ (.tail _ (.tail _ (.tail _ (mNews _ (List.mem_append_right _ hmI))))))) e.symm
          · exact hI p (.tail _ (.tail _ hp))
        · intro z hz hs
          have hz1 := hz _ (.head _)
          dsimp only at hz1
          simp only [List.contains_cons, List.contains_nil, Bool.or_false, beq_eq_false_iff_ne] at hs
          simp [upd, hz1, hs]
        · refine ⟨⟨_, hcd2⟩, ?_, fun e => oD (LC' + 1, oC2) (.tail _ (.tail _ (.tail _ (.tail _ (.head _))))) e.symm, fun p hp => oD p (.tail _ (.tail _ (.tail _ (.tail _ (.tail _ (mNews p (List.mem_append_left _ hp)))))))⟩
          rw [List.length_append, List.length_append, hrl, show min (i + 1 + [(0 : Int)].length) ([(0 : Int)].length + (i + 1)) = i + 2 by simp; omega] at hzs
          show IntsAre zs (wrow d (i + 1))
          rw [wrow, hsg]
          exact hzs
  · rintro ⟨oC, lr, vr, cr⟩ u h1 tk1 ⟨_, hIr, hd1, hd2⟩ F1 N1
    dsimp only at hIr hd1 hd2 F1 N1
    clear lF' lN'
    walk_at "go"
    refine hret lr vr cr _ _ (by assumption) (cb_drop (by assumption) fun p hp => ?_) hd2 hIr
    rcases List.mem_cons.mp hp with q | hp
    · rw [q]; exact .tail _ (.head _)
    · exact .tail _ (.tail _ hp)
/-- lists of ints in a list: the places of each word's great letters -/
abbrev GL := List (Addr × (List Value × Nat) × List Int)
def grefs (g : GL) : List Value := g.map fun e => .ref e.1
def GOK (g : GL) (news : List (Addr × Obj)) : Prop := ∀ e ∈ g, (e.1, W.listOf e.2.1.1.toArray e.2.1.2) ∈ news ∧ IntsAre e.2.1.1 e.2.2
def gints (g : GL) : List (List Int) := g.map (·.2.2)
theorem grefs_get {g : GL} {i : Nat} {v : Value} (h : (grefs g)[i]? = some v) : ∃ e, g[i]? = some e ∧ e ∈ g ∧ v = .ref e.1 := by
  unfold grefs at h
  rw [List.getElem?_map] at h
  cases e : g[i]? with
  | none => rw [e] at h; cases h
  | some x => rw [e] at h; injection h with h; exact ⟨x, rfl, List.mem_of_getElem? e, h.symm⟩
theorem sum_map_take_succ {α : Type} {xs : List α} {f : α → Int} {j : Nat} {x : α} (h : xs[j]? = some x) : ((xs.take (j + 1)).map f).sum = ((xs.take j).map f).sum + f x := by
  rw [List.take_add_one, h, List.map_append, List.sum_append]
  simp
def sgnOf (ch xa : List Int) : Int := if (ch.filter fun t => xa.any (· == t)).length % 2 = 0 then 1 else -1
theorem more_bd (ch : List Int) : ∀ gs : List (List Int), -(gs.length : Int) ≤ (gs.map (sgnOf ch)).sum ∧ (gs.map (sgnOf ch)).sum ≤ (gs.length : Int)
  | [] => by simp
  | x :: gs => by
    have ih := more_bd ch gs
    have : sgnOf ch x = 1 ∨ sgnOf ch x = -1 := by unfold sgnOf; split <;> simp
    simp only [List.map_cons, List.sum_cons, List.length_cons]
    omega
def moreOf (gs : List (List Int)) (ch : List Int) : Int := (gs.map (sgnOf ch)).sum
def sqs (gs : List (List Int)) : Nat → List Int
  | 0 => [0, 0, 0, 0, 0]
  | i + 1 => (sqs gs i).set (placesOf (i : Int)).length ((sqs gs i).getD (placesOf (i : Int)).length 0 + moreOf gs (placesOf (i : Int)) * moreOf gs (placesOf (i : Int)))
theorem sqs_length (gs : List (List Int)) : ∀ i, (sqs gs i).length = 5
  | 0 => rfl
  | i + 1 => by rw [sqs, List.length_set, sqs_length gs i]
theorem placesOf_len (c : Int) : (placesOf c).length ≤ 4 := by
  unfold placesOf
  exact Nat.le_trans (List.length_filter_le _ _) (by simp)
theorem squares (w : World) (p : Program) (loose : List Str) (mean : ExcName → Option Value) (mg mb : Str → Option Value) (news : List (Addr × Obj)) (lG : Addr) (g : GL) (cG : Nat) :
    ClaimL 8 PySem.Challenge.pw_tx0015_01 w (hd.heap_39 w.params) p loose mean mg mb 62 news (fun _ => (lG, W.listOf (grefs g).toArray cG) ∈ news ∧ GOK g news ∧ g.length ≤ 10) [.ref lG] (sqs (gints g) 16) := by
  unfold ClaimL; intro dp' un'; intros; rename_i hpre _ _ hret
  obtain ⟨hmG, hG, hgl⟩ := hpre
  have cbI : CbIn 62 := CbIn.mk
  refine wpAny_call ?_
  k_dflt walk_at "enterC"
  walk_at "go"
  walk_at "for"
  rename IsRange _ _ _ _ _ _ _ _ => rgX
  (rename Fr _ _ _ _ => lF'); (rename News _ _ _ _ => lN')
  have hLn : ∀ p ∈ news, p.1 ≠ LC' + 1 := fun p hp => Nat.ne_of_lt (Nat.lt_succ_of_lt (lC1 p hp))
  have hT2 : LC' + 1 < lS := lfS _ (.head _)
  have hSn : ∀ p ∈ news, p.1 ≠ lS := fun p hp => Nat.ne_of_lt (lfS p (.tail _ hp))
  with_unfolding_all refine' for_range0 (n := 16) (σ := Obj × List Value × Nat) (fun c => (lS, W.listOf c.2.1.toArray c.2.2) :: (LC' + 1, c.1) :: news) (fun c => []) [Str.ofString "chosen", Str.ofString "more"] (fun i c => (∃ v₀, c.1.data = .cell v₀) ∧ IntsAre c.2.1 (sqs (gints g) i)) (oC0, [Value.int 0 tkC', Value.int 0 (tkC' + 1), Value.int 0 (tkC' + 1 + 1), Value.int 0 (tkC' + 1 + 1 + 1), Value.int 0 (tkC' + 1 + 1 + 1 + 1)], 0) ?k0 rgX (by omega) lF' lN' (fun _ h => h) ?kk ⟨⟨_, dC0⟩, .cons _ _ (.cons _ _ (.cons _ _ (.cons _ _ (.cons _ _ .nil))))⟩ ?_ ?_
  case k0 => rfl
  case kk => walk_at "hasN"
  · rintro ⟨oC, vq, cq⟩ i t u h1 tk1 own hi hoff ⟨⟨v₀, hcd⟩, hIq⟩ F1 N1
    dsimp only at hcd hIq F1 N1
    k_fold
    clear lF' lN'
    walk_at "go"
    (rename Fr _ _ _ _ => F2); (rename News _ _ _ _ => N2)
    k_dflt (refine' places _ _ _ _ _ _ _ (i : Int) t _ _ _ _ _ _ _ _ _ _ _ _ _ _ _ _ _ BC F2 XC N2 TC rfl ⟨by omega, by omega⟩ ?kd ?ku ?_; (case kd => (show dp' + 1 + 5 < _; omega)); (case ku => (show un' + 3 + 8 * 5 < _; omega)))
    clear F2 N2
    intro lc wc cc hc tkc F2 N2 lfc hIc
    walk_at "go"
    refine For_T ?_
    walk_at "go"
    (rename Fr _ _ _ _ => lF'); (rename News _ _ _ _ => lN')
    have hoffC : ∀ p ∈ own, p.1 ≠ LC' + 1 := fun p hp => hoff p hp _ (.tail _ (.head _))
    have hoffS : ∀ p ∈ own, p.1 ≠ lS := fun p hp => hoff p hp _ (.head _)
    have hcC : lc ≠ LC' + 1 := fun e => lfc (LC' + 1, oC) (.tail _ (.head _)) e.symm
    have hcS : lS ≠ lc := lfc (lS, W.listOf vq.toArray cq) (.head _)
    with_unfolding_all refine' for_listT (σ := Obj × Int × Tok) (vs := grefs g) (nn := cG) (fun c => (LC' + 1, c.1) :: (lc, W.listOf wc.toArray cc) :: (lS, W.listOf vq.toArray cq) :: (news ++ own)) (fun c => [(Str.ofString "more", Value.int c.2.1 c.2.2)]) [] (fun i' c => (∃ v₀, c.1.data = .cell v₀) ∧ c.2.1 = (((gints g).take i').map (sgnOf (placesOf (i : Int)))).sum) (oC, 0, _) ?hgo ?hE ?k0 (.tail _ (.tail _ (.tail _ (List.mem_append_left _ hmG)))) lF' lN' ?hn ?kk ⟨⟨_, hcd⟩, rfl⟩ ?_ ?_
    case k0 => rfl
    case kk => walk_at "hasN"
    case hE => passes_own
    case hgo => intro s' I v Q' E' _ hq; exact wpAny_pure hq
    case hn =>
      intro p hp
      rcases List.mem_cons.mp hp with q | hp
      · rw [q]; exact .tail _ (.tail _ (.head _))
      rcases List.mem_cons.mp hp with q | hp
      · rw [q]; exact .head _
      rcases List.mem_cons.mp hp with q | hp
      · rw [q]; exact .tail _ (.head _)
      · exact .tail _ (.tail _ (.tail _ hp))
    · rintro ⟨oC1, mo, tmo⟩ i2 v u2 s₁ I oI own2 hv ⟨⟨v₁, hcd1⟩, hmo⟩ hI hmI hown2 F1 N1
      dsimp only at hcd1 hmo F1 N1
      k_fold
      clear lF' lN'
      obtain ⟨e, he, heg, rfl⟩ := grefs_get hv
      obtain ⟨hme, hIe⟩ := hG e heg
      simp only [List.cons_append] at N1
      refine wpAny_assign_Name (storeX_C F1 N1 rfl (UpdF.head ?_) hcd1 fun h2 oC2 F2 N2 hcd2 => ?_)
      · intro p hp
        rcases List.mem_cons.mp hp with q | hp
        · rw [q]; exact hcC
        rcases List.mem_cons.mp hp with q | hp
        · rw [q]; exact Nat.ne_of_gt hT2
        rcases List.mem_append.mp hp with hp | hp
        · rcases List.mem_append.mp hp with hp | hp
          · exact hLn p hp
          · exact hoffC p hp
        · rcases hown2 p hp with q | q
          · rw [q]; exact fun e => hI _ (.head _) e.symm
          · rw [q]; exact hLn _ hmG
      clear F1 N1
      walk_at "go"
      k_dflt (refine LCt.ListComp_T (F₀ := by k_asm) (by with_unfolding_all rfl) (by decide) (by rfl) (by decide) (by rfl) ?_)
      walk_at "go"
      (rename Fr _ _ _ _ => F3); (rename News _ _ _ _ => N3)
      refine LCt.CompSrcT.ledger (k := cc) (its := wc.toArray) (by rfl) F3 N3 (.tail _ (.head _)) (by rw [sizeLine_eq, List.size_toArray, hIc.length]; have := placesOf_len (i : Int); omega) (fun g9 => restT_of (fun i3 ys nx => nx = _ :: _ ∧ IntsAre ys (((placesOf (i : Int)).take i3).filter fun t => e.2.2.any (· == t))) ?_ ?_ _ 0 [] _ (Nat.zero_add _) ⟨rfl, .nil⟩)
      · rintro i3 v ys4 nx hi3 hv3 ⟨rfl, hys4⟩ I5 oI5 C oC5 D m₂ h tk E hN hx F7 N7 off7 ne7
        k_fold
        obtain ⟨x, tx, hx6, rfl⟩ := ints_get hIc (by simpa using hv3)
        have lisE : h.IsList e.1 e.2.1.1.toArray := PySem.IsL.isList (n := e.2.1.2) (N7 (e.1, W.listOf e.2.1.1.toArray e.2.1.2) (.tail _ (.tail _ (.tail _ (.tail _ (.tail _ (.tail _ (List.mem_append_left _ (List.mem_append_left _ hme))))))))).1
        walk_at "go"
        · rename List.any _ _ = true => hb
          refine LCg.CompEnd.intro (by assumption) (by assumption) _ (fun p hp => hp) off7 (Or.inr ⟨_, .tail _ (.head _), rfl, _, rfl⟩) ⟨rfl, ?_⟩
          rw [take_filter_succ hx6, hb]
          exact ints_snoc hys4
        · rename List.any _ _ = false => hb
          refine LCg.CompEnd.intro (by assumption) (by assumption) _ (fun p hp => hp) off7 (Or.inr ⟨_, .tail _ (.head _), rfl, _, rfl⟩) ⟨rfl, ?_⟩
          rw [take_filter_succ hx6, hb]
          simpa using hys4
      · rintro ys4 nx ⟨rfl, hys4⟩
        show LCg.FinE _ _ _ _ _ _ _
        intro lX h7 tk7 F7 N7 o9
        change News _ _ _ ((lX, W.listOf ys4.toArray ys4.length) :: _) at N7
        rw [List.size_toArray, hIc.length, List.take_length] at hys4
        have hyl := hys4.length
        have hpl := placesOf_len (i : Int)
        have hy4 : ys4.length ≤ 4 := by
          have := List.length_filter_le (fun t => e.2.2.any (· == t)) (placesOf (i : Int))
          omega
        have hIoff : ∀ p ∈ own ++ own2, p ∈ news ++ own ++ own2 := fun p hp => by
          rcases List.mem_append.mp hp with hp | hp
          · exact List.mem_append_left _ (List.mem_append_right _ hp)
          · exact List.mem_append_right _ hp
        walk_at "go"
        · rename Int.fmod _ 2 = 0 => hb
          rw [Int.fmod_eq_emod_of_nonneg _ (by decide)] at hb
          refine uend (oC2, mo + 1, _) (by assumption) (by assumption) ?_ ?_ (fun p hp => (List.mem_cons.mp hp).elim (fun q => by rw [q]; exact hI (LC' + 1, oC1) (.head _)) fun hp => hI p (.tail _ hp)) (by walk_at "hasN") ?_ ⟨⟨_, hcd2⟩, ?_⟩
          · intro p hp
            rcases List.mem_cons.mp hp with q | hp
            · rw [q]; exact .tail _ (.head _)
            rcases List.mem_cons.mp hp with q | hp
            · rw [q]; exact .tail _ (.tail _ (.head _))
            rcases List.mem_cons.mp hp with q | hp
            · rw [q]; exact .tail _ (.tail _ (.tail _ (.head _)))
            · exact .tail _ (.tail _ (.tail _ (.tail _ (List.mem_append_left _ hp))))
          · exact fun p hp => .tail _ (.tail _ (.tail _ (.tail _ (List.mem_append_right _ hp))))
          · intro z hz _
            have hz1 := hz _ (.head _)
            dsimp only at hz1
            simp [upd, hz1]
          · have hge : (gints g)[i2]? = some e.2.2 := by unfold gints; rw [List.getElem?_map, he]; rfl
            show mo + 1 = _
            rw [sum_map_take_succ hge, hmo]
            unfold sgnOf
            rw [if_pos (by omega)]
        · rename ¬ Int.fmod _ 2 = 0 => hb
          rw [Int.fmod_eq_emod_of_nonneg _ (by decide)] at hb
          refine uend (oC2, mo - 1, _) (by assumption) (by assumption) ?_ ?_ (fun p hp => (List.mem_cons.mp hp).elim (fun q => by rw [q]; exact hI (LC' + 1, oC1) (.head _)) fun hp => hI p (.tail _ hp)) (by walk_at "hasN") ?_ ⟨⟨_, hcd2⟩, ?_⟩
          · intro p hp
            rcases List.mem_cons.mp hp with q | hp
            · rw [q]; exact .tail _ (.head _)
            rcases List.mem_cons.mp hp with q | hp
            · rw [q]; exact .tail _ (.tail _ (.head _))
            rcases List.mem_cons.mp hp with q | hp
            · rw [q]; exact .tail _ (.tail _ (.tail _ (.head _)))
            · exact .tail _ (.tail _ (.tail _ (.tail _ (List.mem_append_left _ hp))))
          · exact fun p hp => .tail _ (.tail _ (.tail _ (.tail _ (List.mem_append_right _ hp))))
          · intro z hz _
            have hz1 := hz _ (.head _)
            dsimp only at hz1
            simp [upd, hz1]
          · have hge : (gints g)[i2]? = some e.2.2 := by unfold gints; rw [List.getElem?_map, he]; rfl
            show mo - 1 = _
            rw [sum_map_take_succ hge, hmo]
            unfold sgnOf
            rw [if_neg (by omega)]
            omega
    · rintro ⟨oC1, mo, tmo⟩ u h3 tk3 ⟨hcd1, hmo⟩ F1 N1
      dsimp only at hcd1 hmo F1 N1
      clear lF' lN'
      have hcl := hIc.length
      have hpl := placesOf_len (i : Int)
      have hcl4 : wc.length ≤ 4 := by omega
      have hql := sqs_length (gints g) i
      have hdis : ∀ p ∈ (LC' + 1, oC1) :: (lc, W.listOf wc.toArray cc) :: (news ++ own), p.1 ≠ lS := fun p hp => by
        rcases List.mem_cons.mp hp with q | hp
        · rw [q]; exact Nat.ne_of_lt hT2
        rcases List.mem_cons.mp hp with q | hp
        · rw [q]; exact fun e => hcS e.symm
        rcases List.mem_append.mp hp with hp | hp
        · exact hSn p hp
        · exact hoffS p hp
      have N9 : News _ _ _ ((lS, W.listOf vq.toArray cq) :: ((LC' + 1, oC1) :: (lc, W.listOf wc.toArray cc) :: (news ++ own))) := fun p hp => N1 p (by
        rcases List.mem_cons.mp hp with q | hp
        · rw [q]; exact .tail _ (.tail _ (.head _))
        rcases List.mem_cons.mp hp with q | hp
        · rw [q]; exact .head _
        rcases List.mem_cons.mp hp with q | hp
        · rw [q]; exact .tail _ (.head _)
        · exact .tail _ (.tail _ (.tail _ hp)))
      clear N1
      have hmb : -10 ≤ mo ∧ mo ≤ 10 := by
        rw [hmo]
        have h1 := more_bd (placesOf (i : Int)) ((gints g).take (grefs g).length)
        have h2 : ((gints g).take (grefs g).length).length ≤ g.length := by rw [List.length_take]; unfold gints grefs; simp
        omega
      walk_at "go"
      (rename Fr _ _ _ _ => F'); (rename News _ _ _ _ => N')
      (with_unfolding_all refine' ksa_set F' N' (Upd.head hdis) hIq ?k5 ?k6 ?k7 ?_); (case k5 => omega); (case k6 => rw [hql]; omega); (case k7 => omega)
      intro h' F' N' hi' hl' hs'
      walk_at "go"
      refine' fend (oC1, vq.set ((placesOf (i : Int)).length : Int).toNat (Value.int _ _), cq) ?F ?N ?hn ?ho rfl ?hk ?hm ?hp
      case F => assumption
      case N => assumption
      case hk => walk_at "hasN"
      case hm => walk_at "sameN"
      case hn =>
        intro p hp
        rcases List.mem_cons.mp hp with q | hp
        · rw [q]; exact .head _
        rcases List.mem_cons.mp hp with q | hp
        · rw [q]; exact .tail _ (.head _)
        · exact .tail _ (.tail _ (.tail _ (List.mem_append_left _ hp)))
      case ho => exact fun p hp => .tail _ (.tail _ (.tail _ (List.mem_append_right _ hp)))
      case hp =>
        refine ⟨hcd1, ?_⟩
        have hmo' : mo = moreOf (gints g) (placesOf (i : Int)) := by
          rw [hmo, List.take_of_length_le (by unfold gints grefs; simp)]
          rfl
        rw [Int.toNat_natCast] at hi'
        rw [sqs, ← hmo']
        exact hi'
  · rintro ⟨oC, vq, cq⟩ u h1 tk1 ⟨_, hIq⟩ F1 N1
    dsimp only at hIq F1 N1
    clear lF' lN'
    walk_at "go"
    refine hret lS vq cq _ _ (by assumption) (cb_drop (by assumption) fun p hp => ?_) hSn hIq
    rcases List.mem_cons.mp hp with q | hp
    · rw [q]; exact .head _
    · exact .tail _ (.tail _ hp)
theorem low_great : ∀ q, q < 26 → Txt.lower ⟨#[65 + q]⟩ = ⟨#[97 + q]⟩ := by decide +kernel
theorem low_small : ∀ q, q < 26 → Txt.lower ⟨#[97 + q]⟩ = ⟨#[97 + q]⟩ := by decide +kernel
theorem low_zero : Txt.lower ⟨#[48]⟩ = ⟨#[48]⟩ := by decide +kernel
theorem one_eq {a b : Nat} : ((⟨#[a]⟩ : Str) = ⟨#[b]⟩) ↔ a = b := ⟨fun h => by injection h with h; simpa using h, fun h => by rw [h]⟩
theorem subC_one {a b la lb : Nat} (h1 : Txt.lower ⟨#[a]⟩ = ⟨#[la]⟩) (h2 : Txt.lower ⟨#[b]⟩ = ⟨#[lb]⟩) : subC ⟨#[a]⟩ ⟨#[b]⟩ = if a = b then 0 else if la = lb then 1 else 2 := by
  unfold subC
  rw [h1, h2]
  simp only [one_eq]
theorem low_glyph (xs : List Int) {f q : Nat} (hf : 97 ≤ f) (hf2 : f ≤ 119) (hq : q < 4) : Txt.lower ⟨#[glyph xs f q]⟩ = ⟨#[f + q]⟩ := by
  unfold glyph
  split
  · have := low_great (f + q - 97) (by omega)
    rw [show 65 + (f + q - 97) = f + q - 32 by omega, show 97 + (f + q - 97) = f + q by omega] at this
    exact this
  · have := low_small (f + q - 97) (by omega)
    rw [show 97 + (f + q - 97) = f + q by omega] at this
    exact this
/-- the signs of the two words differ at p -/
def apart (a b : List Int) (p : Nat) : Int := if a.any (· == (p : Int)) = b.any (· == (p : Int)) then 0 else 1
theorem apart_01 (a b : List Int) (p : Nat) : apart a b p = 0 ∨ apart a b p = 1 := by unfold apart; split <;> simp
theorem glyph_eq {a b : List Int} {f p : Nat} (hf : 97 ≤ f) : glyph a f p = glyph b f p ↔ a.any (· == (p : Int)) = b.any (· == (p : Int)) := by
  unfold glyph
  cases a.any (· == (p : Int)) <;> cases b.any (· == (p : Int)) <;> simp <;> omega
theorem subC_glyphs (a b : List Int) {f p q : Nat} (hf : 97 ≤ f) (hf2 : f ≤ 119) (hp : p < 4) (hq : q < 4) : subC ⟨#[glyph b f p]⟩ ⟨#[glyph a f q]⟩ = if p = q then apart a b p else 2 := by
  rw [subC_one (low_glyph b hf hf2 hp) (low_glyph a hf hf2 hq)]
  by_cases e : p = q
  · subst e
    rw [if_pos (rfl : p = p), if_pos (rfl : f + p = f + p)]
    unfold apart
    by_cases g : glyph b f p = glyph a f p
    · rw [if_pos g, if_pos ((glyph_eq hf).mp g.symm)]
    · rw [if_neg g, if_neg (fun h => g ((glyph_eq hf).mpr h).symm)]
  · have : glyph b f p ≠ glyph a f q := fun h => by
      have h1 := low_glyph b hf hf2 hp
      rw [h, low_glyph a hf hf2 hq, one_eq] at h1
      omega
    rw [if_neg e, if_neg this, if_neg (by omega)]
theorem glyph_big (xs : List Int) {f : Nat} (hf : 97 ≤ f) (q : Nat) : 65 ≤ glyph xs f q := by unfold glyph; split <;> omega
theorem subC_zero_r (b : List Int) {f p : Nat} (hf : 97 ≤ f) (hf2 : f ≤ 119) (hp : p < 4) : subC ⟨#[glyph b f p]⟩ ⟨#[48]⟩ = 2 := by
  have := glyph_big b hf p
  rw [subC_one (low_glyph b hf hf2 hp) low_zero, if_neg (by omega), if_neg (by omega)]
theorem subC_zero_l (b : List Int) {f p : Nat} (hf : 97 ≤ f) (hf2 : f ≤ 119) (hp : p < 4) : subC ⟨#[48]⟩ ⟨#[glyph b f p]⟩ = 2 := by
  have := glyph_big b hf p
  rw [subC_one low_zero (low_glyph b hf hf2 hp), if_neg (by omega), if_neg (by omega)]
theorem subC_nonneg (x y : Str) : 0 ≤ subC x y := by unfold subC; split; · decide
                                                     split <;> decide
theorem S_zero {h : Nat → Int} : ∀ k, (∀ i, i < k → h i = 0) → S h k = 0
  | 0, _ => rfl
  | k + 1, e => by simp only [S]; rw [S_zero k (fun i hi => e i (by omega)), e k (by omega)]; rfl
theorem S_add {h : Nat → Int} (i : Nat) : ∀ k, S h (i + k) = S h i + S (fun a => h (i + a)) k
  | 0 => by simp [S]
  | k + 1 => by rw [← Nat.add_assoc]; simp only [S]; rw [S_add i k]; omega
theorem S_window {h : Nat → Int} {N i j : Nat} (hij : i + j ≤ N) (hl : ∀ p, p < i → h p = 0) (hr : ∀ p, N - j ≤ p → p < N → h p = 0) : S (fun a => h (i + a)) (N - i - j) = S h N := by
  have e1 := S_add (h := h) i (N - i - j)
  rw [S_zero i hl] at e1
  have e2 := S_add (h := h) (N - j) j
  rw [S_zero j (fun p hp => hr (N - j + p) (by omega) (by omega)), show N - j + j = N by omega] at e2
  rw [show i + (N - i - j) = N - j by omega] at e1
  omega
def wordStr (xs : List Int) (f : Nat) : Str := ⟨((List.range 4).map (glyph xs f)).toArray⟩
theorem wordStr_length (xs : List Int) (f : Nat) : (wordStr xs f).length = 4 := by
  show (((List.range 4).map (glyph xs f)).toArray).size = _
  simp
theorem word_at (xs : List Int) (f : Nat) {q : Nat} (h : q < 4) : ((List.range 4).map (glyph xs f))[q]? = some (glyph xs f q) := by
  rw [List.getElem?_map, List.getElem?_range h]; rfl
theorem apart_zero {a b : List Int} {f q : Nat} (hf : 97 ≤ f) (h : glyph a f q = glyph b f q) : apart a b q = 0 := by
  unfold apart
  rw [if_pos ((glyph_eq hf).mp h)]
theorem take_at {α : Type} {x y : List α} {i p : Nat} (h : x.take i = y.take i) (hp : p < i) : x[p]? = y[p]? := by
  have e := congrArg (·[p]?) h
  simpa [List.getElem?_take, hp] using e
theorem drop_at {α : Type} {x y : List α} {i p : Nat} (h : x.drop i = y.drop i) (hp : i ≤ p) : x[p]? = y[p]? := by
  have e := congrArg (·[p - i]?) h
  simp only [List.getElem?_drop] at e
  rwa [show i + (p - i) = p by omega] at e
theorem levPre_even (a b : List Int) {f : Nat} (hf : 97 ≤ f) (hf2 : f ≤ 119) : LevPre (wordStr a f) (wordStr b f) (S (apart a b) 4) (S (apart a b) 4) := by
  have xl : (wordStr a f).length = 4 := wordStr_length a f
  have yl : (wordStr b f).length = 4 := wordStr_length b f
  have xe : (wordStr a f).cps.toList = (List.range 4).map (glyph a f) := rfl
  have ye : (wordStr b f).cps.toList = (List.range 4).map (glyph b f) := rfl
  have xa : ∀ q, q < 4 → ((List.range 4).map (glyph a f))[q]? = some (glyph a f q) := fun q h => word_at a f h
  have ya : ∀ q, q < 4 → ((List.range 4).map (glyph b f))[q]? = some (glyph b f q) := fun q h => word_at b f h
  have h0 : ∀ i, i < 4 → apart a b i = 0 ∨ apart a b i = 1 := fun i _ => apart_01 a b i
  refine ⟨by omega, by omega, (S_bounds h0 4 (Nat.le_refl _)).1, fun e => ?_, fun _ i j hij ht _ _ hd => ?_⟩
  · refine S_zero 4 fun q hq => apart_zero hf ?_
    have e1 := xa q hq
    rw [← xe, e, ye, ya q hq] at e1
    injection e1 with e1
    exact e1.symm
  · rw [xl] at hij hd ⊢
    rw [xe, ye] at ht hd
    have hw := S_window (h := apart a b) (N := 4) (i := i) (j := j) (by omega) (fun p hp => apart_zero hf (by
      have e1 := take_at ht hp
      rw [xa p (by omega), ya p (by omega)] at e1
      injection e1)) (fun p h1 h2 => apart_zero hf (by
      have e1 := drop_at hd h1
      rw [xa p (by omega), ya p (by omega)] at e1
      injection e1))
    have hc : ∀ p q, p < 4 - i - j → q < 4 - i - j → cst (wordStr a f) (wordStr b f) i p q = if i + p = i + q then apart a b (i + p) else 2 := by
      intro p q hp hq
      unfold cst
      rw [xe, ye, List.getD_eq_getElem?_getD, List.getD_eq_getElem?_getD, ya _ (by omega), xa _ (by omega)]
      exact subC_glyphs a b hf hf2 (by omega) (by omega)
    have g0 : ∀ p, p < 4 - i - j → (fun p => apart a b (i + p)) p = 0 ∨ (fun p => apart a b (i + p)) p = 1 := fun p _ => apart_01 a b (i + p)
    have g1 : ∀ p, p < 4 - i - j → cst (wordStr a f) (wordStr b f) i p p = (fun p => apart a b (i + p)) p := fun p hp => by rw [hc p p hp hp, if_pos rfl]
    have g2 : ∀ p q, p < 4 - i - j → q < 4 - i - j → p ≠ q → cst (wordStr a f) (wordStr b f) i p q = 2 := fun p q hp hq hne => by rw [hc p q hp hq, if_neg (by omega)]
    refine ⟨?_, fun p hp => ⟨p, hp, ?_⟩⟩
    · rw [dp_diag g0 g1 g2, hw]
    · have e1 := dp_diag_le g1 (p + 1) hp
      have e2 := S_mono g0 (p + 1) (4 - i - j) hp (Nat.le_refl _)
      omega
theorem levPre_odd (a b : List Int) {f : Nat} (hf : 97 ≤ f) (hf2 : f ≤ 119) (x y : Str) (hx : x.cps.toList = 48 :: (wordStr a f).cps.toList) (hy : y.cps.toList = (wordStr b f).cps.toList ++ [48]) :
    LevPre x y (S (apart a b) 4 + 5) (S (apart a b) 4 + 4) := by
  have xe : x.cps.toList = 48 :: (List.range 4).map (glyph a f) := hx
  have ye : y.cps.toList = (List.range 4).map (glyph b f) ++ [48] := hy
  have xl : x.length = 5 := by rw [← cps_len, xe]; simp
  have yl : y.length = 5 := by rw [← cps_len, ye]; simp
  have xa : ∀ q, q < 4 → x.cps.toList[q + 1]? = some (glyph a f q) := fun q h => by
    rw [xe, List.getElem?_cons_succ]; exact word_at a f h
  have x0 : x.cps.toList[0]? = some 48 := by rw [xe]; rfl
  have ya : ∀ q, q < 4 → y.cps.toList[q]? = some (glyph b f q) := fun q h => by
    rw [ye, List.getElem?_append_left (by simpa using h)]; exact word_at b f h
  have yN : y.cps.toList[4]? = some 48 := by
    rw [ye, List.getElem?_append_right (by simp)]; simp
  have h0 : ∀ i, i < 4 → apart a b i = 0 ∨ apart a b i = 1 := fun i _ => apart_01 a b i
  have hb := S_bounds h0 4 (Nat.le_refl _)
  refine ⟨by omega, by omega, by omega, fun e => ?_, fun _ i j hij ht _ _ hd => ?_⟩
  · exfalso
    have e1 := x0
    rw [e, ya 0 (by omega)] at e1
    injection e1 with e1
    have := glyph_big b hf 0
    omega
  · rw [xl] at hij hd ⊢
    have i0 : i = 0 := by
      refine Nat.eq_zero_of_not_pos fun h => ?_
      have e1 := take_at ht h
      rw [x0, ya 0 (by omega)] at e1
      injection e1 with e1
      have := glyph_big b hf 0
      omega
    have j0 : j = 0 := by
      refine Nat.eq_zero_of_not_pos fun h => ?_
      have e1 := drop_at (p := 4) hd (by omega)
      have e2 := xa 3 (by omega)
      rw [show x.cps.toList[4]? = _ from e2, yN] at e1
      injection e1 with e1
      have := glyph_big a hf 3
      omega
    subst i0 j0
    rw [Nat.sub_zero, Nat.sub_zero]
    have hc : ∀ p q, cst x y 0 p q = subC ⟨#[y.cps.toList[p]?.getD 0]⟩ ⟨#[x.cps.toList[q]?.getD 0]⟩ := by
      intro p q
      unfold cst
      rw [List.getD_eq_getElem?_getD, List.getD_eq_getElem?_getD, Nat.zero_add, Nat.zero_add]
    have g1 : ∀ p, p < 4 → cst x y 0 p (p + 1) = apart a b p := fun p hp => by
      rw [hc, ya p hp, xa p hp]
      show subC ⟨#[glyph b f p]⟩ ⟨#[glyph a f p]⟩ = _
      rw [subC_glyphs a b hf hf2 (by omega) (by omega), if_pos rfl]
    have gz : 0 ≤ cst x y 0 4 0 := by rw [hc]; exact subC_nonneg _ _
    have g2 : ∀ p q, p ≤ 4 → q ≤ 4 → q ≠ p + 1 → (p ≠ 4 ∨ q ≠ 0) → cst x y 0 p q = 2 := by
      intro p q hp hq hne hor
      rw [hc]
      by_cases pn : p = 4
      · subst pn
        obtain ⟨q', rfl⟩ : ∃ q', q = q' + 1 := ⟨q - 1, by omega⟩
        rw [yN, xa q' (by omega)]
        exact subC_zero_l a hf hf2 (by omega)
      · rw [ya p (by omega)]
        by_cases q0 : q = 0
        · subst q0
          rw [x0]
          exact subC_zero_r b hf hf2 (by omega)
        · obtain ⟨q', rfl⟩ : ∃ q', q = q' + 1 := ⟨q - 1, by omega⟩
          rw [xa q' (by omega)]
          show subC ⟨#[glyph b f p]⟩ ⟨#[glyph a f q']⟩ = _
          rw [subC_glyphs a b hf hf2 (by omega) (by omega), if_neg (by omega)]
    refine ⟨dp_shift (by omega) h0 g1 gz g2, fun p hp => ?_⟩
    by_cases pn : p = 4
    · refine ⟨4, by omega, ?_⟩
      subst pn
      have := dp_shift_last_le (c := cst x y 0) g1
      omega
    · refine ⟨p + 1, by omega, ?_⟩
      have e1 := dp_shift_le (c := cst x y 0) g1 (p + 1) (by omega)
      have e2 := S_mono h0 (p + 1) 4 (by omega) (Nat.le_refl _)
      omega
def distOf (a b : List Int) : Int := ((mrg a b).1.length : Int) + ((mrg a b).2.length : Int)
/-- the sums behind i turns of the inner loop -/
def sumsI (gs : List (List Int)) (j : Nat) (s0 : List Int) : Nat → List Int
  | 0 => s0
  | i + 1 => (List.range 5).map fun k => (sumsI gs j s0 i).getD k 0 + 2 * (wrow (distOf (gs.getD i []) (gs.getD j [])) 4).getD k 0
def sumsJ (gs : List (List Int)) (s0 : List Int) : Nat → List Int
  | 0 => s0
  | j + 1 => sumsI gs j (sumsJ gs s0 j) j
theorem placesOf_up (c : Int) : (placesOf c).Pairwise (· < ·) := by
  unfold placesOf
  refine List.Pairwise.filter _ ?_
  rw [List.pairwise_map]
  exact List.pairwise_lt_range.imp fun h => by omega
/-! tables -/
def pc (c : Nat) : Nat := [0, 1, 1, 2, 1, 2, 2, 3, 1, 2, 2, 3, 2, 3, 3, 4].getD c 0
def sgt (c : Nat) : Int := if pc c % 2 = 0 then 1 else -1
def sg (c x : Nat) : Int := sgnOf (placesOf (c : Int)) (placesOf (x : Int))
def Kf (k : Nat) (d : Int) : Int := (wrow d 4).getD k 0
theorem pc_eq : ∀ c : Nat, c < 16 → (placesOf (c : Int)).length = pc c := by decide +kernel
theorem sg_eq : ∀ c : Nat, c < 16 → ∀ x : Nat, x < 16 → sg c x = sgt (c &&& x) := by decide +kernel
theorem xor_lt : ∀ x : Nat, x < 16 → ∀ y : Nat, y < 16 → x ^^^ y < 16 := by decide +kernel
theorem sgt_mul : ∀ c : Nat, c < 16 → ∀ x : Nat, x < 16 → ∀ y : Nat, y < 16 → sgt (c &&& x) * sgt (c &&& y) = sgt (c &&& (x ^^^ y)) := by decide +kernel
theorem kraw : ∀ z : Nat, z < 16 → ∀ k : Nat, k < 5 → ((List.range 16).map fun c => if pc c = k then sgt (c &&& z) else 0).sum = Kf k (pc z : Int) := by decide +kernel
theorem dist_raw : ∀ x : Nat, x < 16 → ∀ y : Nat, y < 16 → ((placesOf (x : Int)).filter (fun t => decide (t ∉ placesOf (y : Int)))).length + ((placesOf (y : Int)).filter (fun t => decide (t ∉ placesOf (x : Int)))).length = pc (x ^^^ y) := by decide +kernel
theorem apart_raw : ∀ x : Nat, x < 16 → ∀ y : Nat, y < 16 → S (apart (placesOf (x : Int)) (placesOf (y : Int))) 4 = (pc (x ^^^ y) : Int) := by decide +kernel
theorem dist_eq {x y : Nat} (hx : x < 16) (hy : y < 16) : distOf (placesOf (x : Int)) (placesOf (y : Int)) = (pc (x ^^^ y) : Int) := by
  have h := dist_raw x hx y hy
  unfold distOf
  rw [mrg_eq _ _ (placesOf_up _) (placesOf_up _)]
  show (((placesOf (x : Int)).filter (fun t => decide (t ∉ placesOf (y : Int)))).length : Int) + (((placesOf (y : Int)).filter (fun t => decide (t ∉ placesOf (x : Int)))).length : Int) = _
  omega
theorem pair_id {x y k : Nat} (hx : x < 16) (hy : y < 16) (hk : k < 5) : ((List.range 16).map fun c => if (placesOf ((c : Nat) : Int)).length = k then sg c x * sg c y else 0).sum = Kf k (distOf (placesOf (x : Int)) (placesOf (y : Int))) := by
  rw [dist_eq hx hy, ← kraw (x ^^^ y) (xor_lt x hx y hy) k hk]
  congr 1
  refine List.map_congr_left fun c hc => ?_
  have hc16 := List.mem_range.mp hc
  rw [pc_eq c hc16, sg_eq c hc16 x hx, sg_eq c hc16 y hy, sgt_mul c hc16 x hx y hy]
def firstOf (xs : List Int) : Nat := 97 + xs.length % 23
theorem levPre1 {xi xj : Int} (hi : 0 ≤ xi ∧ xi < 16) (hj : 0 ≤ xj ∧ xj < 16) (xs : List Int) (ah : Str) (hah : ah.cps.toList = List.replicate (xs.length % 2) 48) :
    LevPre (ah ++ wordStr (placesOf xi) (firstOf xs)) (wordStr (placesOf xj) (firstOf xs) ++ ah) (distOf (placesOf xi) (placesOf xj) + 5 * (ah.length : Int)) (distOf (placesOf xi) (placesOf xj) + 4 * (ah.length : Int)) := by
  obtain ⟨x, rfl⟩ := Int.eq_ofNat_of_zero_le hi.1
  obtain ⟨y, rfl⟩ := Int.eq_ofNat_of_zero_le hj.1
  have hf : 97 ≤ firstOf xs := by unfold firstOf; omega
  have hf2 : firstOf xs ≤ 119 := by unfold firstOf; omega
  rw [dist_eq (by omega) (by omega), ← apart_raw x (by omega) y (by omega)]
  have hl : ah.length = xs.length % 2 := by rw [← cps_len, hah, List.length_replicate]
  have : xs.length % 2 = 0 ∨ xs.length % 2 = 1 := by omega
  rcases this with e | e
  · rw [e] at hah hl
    have e1 : ah ++ wordStr (placesOf (x : Int)) (firstOf xs) = wordStr (placesOf (x : Int)) (firstOf xs) := str_ext (by
      show (ah.cps ++ _).toList = _
      rw [Array.toList_append, hah]; rfl)
    have e2 : wordStr (placesOf (y : Int)) (firstOf xs) ++ ah = wordStr (placesOf (y : Int)) (firstOf xs) := str_ext (by
      show (_ ++ ah.cps).toList = _
      rw [Array.toList_append, hah]; simp)
    rw [e1, e2, hl]
    have := levPre_even (placesOf (x : Int)) (placesOf (y : Int)) hf hf2
    simpa using this
  · rw [e] at hah hl
    rw [hl]
    have := levPre_odd (placesOf (x : Int)) (placesOf (y : Int)) hf hf2 (ah ++ wordStr (placesOf (x : Int)) (firstOf xs)) (wordStr (placesOf (y : Int)) (firstOf xs) ++ ah) (by
      show (ah.cps ++ _).toList = _
      rw [Array.toList_append, hah]; rfl) (by
      show (_ ++ ah.cps).toList = _
      rw [Array.toList_append, hah]; rfl)
    simpa using this
/-! the squares -/
theorem sum_map_add {α : Type} (f g : α → Int) : ∀ l : List α, (l.map fun c => f c + g c).sum = (l.map f).sum + (l.map g).sum
  | [] => rfl
  | c :: l => by simp only [List.map_cons, List.sum_cons]; rw [sum_map_add f g l]; omega
theorem sum_map_mul {α : Type} (k : Int) (f : α → Int) : ∀ l : List α, (l.map fun c => k * f c).sum = k * (l.map f).sum
  | [] => by simp
  | c :: l => by simp only [List.map_cons, List.sum_cons]; rw [sum_map_mul k f l, Int.mul_add]
theorem sum_map_mul_r {α : Type} (k : Int) (f : α → Int) (l : List α) : (l.map fun c => f c * k).sum = (l.map f).sum * k := by
  rw [Int.mul_comm, ← sum_map_mul]
  congr 1
  exact List.map_congr_left fun c _ => Int.mul_comm _ _
theorem sum_zero {α : Type} : ∀ l : List α, (l.map fun _ => (0 : Int)).sum = 0
  | [] => rfl
  | _ :: l => by simp only [List.map_cons, List.sum_cons]; rw [sum_zero l]; rfl
theorem sum_swap {α β : Type} (f : α → β → Int) : ∀ (l : List α) (C : List β), (l.map fun q => (C.map (f q)).sum).sum = (C.map fun c => (l.map fun q => f q c).sum).sum
  | [], C => by simp only [List.map_nil, List.sum_nil]; exact (sum_zero C).symm
  | q :: l, C => by
    simp only [List.map_cons, List.sum_cons]
    rw [sum_swap f l C, ← sum_map_add]
def Tk (k : Nat) (us : List Nat) : Int := ((List.range 16).map fun c => if (placesOf ((c : Nat) : Int)).length = k then (us.map (sg c)).sum * (us.map (sg c)).sum else 0).sum
theorem Tk_snoc {k : Nat} (hk : k < 5) (us : List Nat) (v : Nat) (hu : ∀ u ∈ us, u < 16) (hv : v < 16) :
    Tk k (us ++ [v]) = Tk k us + 2 * (us.map fun (u : Nat) => Kf k (distOf (placesOf (u : Int)) (placesOf (v : Int)))).sum + Kf k 0 := by
  have e1 : (us.map fun (u : Nat) => Kf k (distOf (placesOf (u : Int)) (placesOf (v : Int)))).sum = ((List.range 16).map fun c => (us.map fun (u : Nat) => if (placesOf ((c : Nat) : Int)).length = k then sg c u * sg c v else 0).sum).sum := by
    rw [sum_swap]
    congr 1
    exact List.map_congr_left fun u h => (pair_id (hu u h) hv hk).symm
  have e2 : Kf k 0 = ((List.range 16).map fun c => if (placesOf ((c : Nat) : Int)).length = k then sg c v * sg c v else 0).sum := by
    rw [pair_id hv hv hk, dist_eq hv hv, Nat.xor_self]
    rfl
  rw [e1, e2, ← sum_map_mul]
  unfold Tk
  rw [← sum_map_add, ← sum_map_add]
  congr 1
  refine List.map_congr_left fun c _ => ?_
  rw [List.map_append, List.sum_append]
  by_cases h : (placesOf ((c : Nat) : Int)).length = k
  · simp only [h, if_true]
    rw [sum_map_mul_r]
    generalize (us.map (sg c)).sum = A
    simp only [List.map_cons, List.map_nil, List.sum_cons, List.sum_nil, Int.add_zero]
    generalize sg c v = b
    rw [Int.add_mul, Int.mul_add, Int.mul_add, Int.mul_comm b A]
    omega
  · simp only [h, if_false]
    rw [sum_zero]
    rfl
theorem sumsI_get {gs : List (List Int)} {s0 : List Int} {j k : Nat} (hk : k < 5) : ∀ i, (sumsI gs j s0 i).getD k 0 = s0.getD k 0 + 2 * ((List.range i).map fun i' => Kf k (distOf (gs.getD i' []) (gs.getD j []))).sum
  | 0 => by simp [sumsI]
  | i + 1 => by
    rw [sumsI, List.range_succ (n := i), List.map_append (l₁ := List.range i), List.sum_append]
    have e : ((List.range 5).map fun k => (sumsI gs j s0 i).getD k 0 + 2 * (wrow (distOf (gs.getD i []) (gs.getD j [])) 4).getD k 0).getD k 0 = (sumsI gs j s0 i).getD k 0 + 2 * (wrow (distOf (gs.getD i []) (gs.getD j [])) 4).getD k 0 := by
      rw [List.getD_eq_getElem?_getD, List.getElem?_map, List.getElem?_range hk]
      rfl
    rw [e, sumsI_get hk i]
    simp only [List.map_cons, List.map_nil, List.sum_cons, List.sum_nil]
    unfold Kf
    omega
theorem sqs_get (us : List Nat) {k : Nat} (hk : k < 5) : ∀ n, (sqs (us.map fun (x : Nat) => placesOf (x : Int)) n).getD k 0 = ((List.range n).map fun c => if (placesOf ((c : Nat) : Int)).length = k then (us.map (sg c)).sum * (us.map (sg c)).sum else 0).sum
  | 0 => by
    have : k = 0 ∨ k = 1 ∨ k = 2 ∨ k = 3 ∨ k = 4 := by omega
    rcases this with rfl | rfl | rfl | rfl | rfl <;> rfl
  | n + 1 => by
    have hl := sqs_length (us.map fun (x : Nat) => placesOf (x : Int)) n
    have hp := placesOf_len (n : Int)
    have hm : moreOf (us.map fun (x : Nat) => placesOf (x : Int)) (placesOf (n : Int)) = (us.map (sg n)).sum := by
      unfold moreOf sg
      rw [List.map_map]
      rfl
    rw [sqs, hm, List.range_succ, List.map_append, List.sum_append, ← sqs_get us hk n, List.getD_eq_getElem?_getD, List.getElem?_set]
    simp only [List.map_cons, List.map_nil, List.sum_cons, List.sum_nil, Int.add_zero]
    by_cases h : (placesOf (n : Int)).length = k
    · rw [if_pos h, if_pos (by omega), if_pos h, h]
      rfl
    · rw [if_neg h, if_neg h, Int.add_zero, List.getD_eq_getElem?_getD]
theorem sums_eq (us : List Nat) (hu : ∀ u ∈ us, u < 16) {k : Nat} (hk : k < 5) : ∀ j, j ≤ us.length →
    (sumsJ (us.map fun (x : Nat) => placesOf (x : Int)) ((wrow 0 4).map fun x => (us.length : Int) * x) j).getD k 0 + (j : Int) * Kf k 0 = Tk k (us.take j) + (us.length : Int) * Kf k 0
  | 0, _ => by
    have e0 : Tk k (us.take 0) = 0 := by
      unfold Tk
      simp
      exact sum_zero (List.range 16)
    have e1 : ((wrow 0 4).map fun x => (us.length : Int) * x).getD k 0 = (us.length : Int) * Kf k 0 := by
      unfold Kf
      rw [List.getD_eq_getElem?_getD, List.getD_eq_getElem?_getD, List.getElem?_map]
      have hk2 : k < (wrow 0 4).length := by rw [wrow_length]; omega
      rw [List.getElem?_eq_getElem hk2]
      rfl
    rw [sumsJ, e0, e1]
    simp
  | j + 1, hj => by
    have ih := sums_eq us hu hk j (by omega)
    obtain ⟨v, hv⟩ : ∃ v, us[j]? = some v := ⟨_, List.getElem?_eq_getElem (by omega)⟩
    have e1 : us.take (j + 1) = us.take j ++ [v] := by rw [List.take_add_one, hv]; rfl
    rw [e1, Tk_snoc hk (us.take j) v (fun u h => hu u (List.mem_of_mem_take h)) (hu v (List.mem_of_getElem? hv)), sumsJ, sumsI_get hk]
    have e2 : ((List.range j).map fun i' => Kf k (distOf ((us.map fun (x : Nat) => placesOf (x : Int)).getD i' []) ((us.map fun (x : Nat) => placesOf (x : Int)).getD j []))) = (us.take j).map fun (u : Nat) => Kf k (distOf (placesOf (u : Int)) (placesOf (v : Int))) := by
      refine List.ext_getElem? fun i => ?_
      by_cases h : i < j
      · rw [List.getElem?_map, List.getElem?_range h, List.getElem?_map, List.getElem?_take, if_pos h]
        obtain ⟨u, hu'⟩ : ∃ u, us[i]? = some u := ⟨_, List.getElem?_eq_getElem (by omega)⟩
        rw [hu']
        show some _ = some _
        dsimp only
        rw [List.getD_eq_getElem?_getD, List.getD_eq_getElem?_getD, List.getElem?_map, List.getElem?_map, hu', hv]
        rfl
      · rw [List.getElem?_eq_none (by simp; omega), List.getElem?_eq_none (by simp; omega)]
    rw [e2]
    have e3 : ((j + 1 : Nat) : Int) * Kf k 0 = (j : Int) * Kf k 0 + Kf k 0 := by
      rw [Int.natCast_succ, Int.add_mul, Int.one_mul]
    rw [e3]
    omega
theorem sumsI_length {gs : List (List Int)} {s0 : List Int} {j : Nat} (h : s0.length = 5) : ∀ i, (sumsI gs j s0 i).length = 5
  | 0 => h
  | i + 1 => by rw [sumsI]; simp
theorem sumsJ_length {gs : List (List Int)} {s0 : List Int} (h : s0.length = 5) : ∀ j, (sumsJ gs s0 j).length = 5
  | 0 => h
  | j + 1 => by rw [sumsJ]; exact sumsI_length (sumsJ_length h j) j
theorem law_sums (cs : List Int) (hc : ∀ x ∈ cs, 0 ≤ x ∧ x < 16) : sumsJ (cs.map placesOf) ((wrow 0 4).map fun x => (cs.length : Int) * x) cs.length = sqs (cs.map placesOf) 16 := by
  obtain ⟨us, rfl⟩ : ∃ us : List Nat, cs = us.map fun (x : Nat) => (x : Int) := ⟨cs.map Int.toNat, by
    rw [List.map_map]
    conv => lhs; rw [← List.map_id cs]
    refine List.map_congr_left fun x hx => ?_
    have := hc x hx
    show x = ((x.toNat : Nat) : Int)
    omega⟩
  have hu : ∀ u ∈ us, u < 16 := fun u h => by
    have := hc (u : Int) (List.mem_map_of_mem (f := fun (x : Nat) => (x : Int)) h)
    omega
  rw [List.map_map, List.length_map]
  show sumsJ (us.map fun (x : Nat) => placesOf (x : Int)) ((wrow 0 4).map fun x => (us.length : Int) * x) us.length = sqs (us.map fun (x : Nat) => placesOf (x : Int)) 16
  have l1 := sumsJ_length (gs := us.map fun (x : Nat) => placesOf (x : Int)) (s0 := (wrow 0 4).map fun x => (us.length : Int) * x) (by rw [List.length_map, wrow_length]) us.length
  have l2 := sqs_length (us.map fun (x : Nat) => placesOf (x : Int)) 16
  refine List.ext_getElem (by omega) fun k h1 h2 => ?_
  have hk : k < 5 := by omega
  have e1 := sums_eq us hu hk us.length (Nat.le_refl _)
  rw [List.take_length] at e1
  have e2 := sqs_get us hk 16
  have e3 : (sumsJ (us.map fun (x : Nat) => placesOf (x : Int)) ((wrow 0 4).map fun x => (us.length : Int) * x) us.length).getD k 0 = (sqs (us.map fun (x : Nat) => placesOf (x : Int)) 16).getD k 0 := by
    rw [e2]
    show _ = Tk k us
    omega
  rw [List.getD_eq_getElem?_getD, List.getD_eq_getElem?_getD, List.getElem?_eq_getElem h1, List.getElem?_eq_getElem h2] at e3
  exact e3
local macro_rules | `(tactic| walk_at "stop") => `(tactic| with_reducible first | show wpAny _ _ (call (Value.builtin "len") [Value.ref _]) _ _ _ | show wpAny _ _ (subscriptTail _ _ (Value.ref _) (Value.int _ _)) _ _ _)
theorem k_cleanLB : True := by
  w_top off
  k_with_none
  trivial
/-- a list of lists on the ledger -/
def gl (g : GL) : List (Addr × Obj) := g.map fun e => (e.1, W.listOf e.2.1.1.toArray e.2.1.2)
theorem gl_append (g d : GL) : gl (g ++ d) = gl g ++ gl d := by simp [gl]
theorem grefs_append (g d : GL) : grefs (g ++ d) = grefs g ++ grefs d := by simp [grefs]
theorem gints_append (g d : GL) : gints (g ++ d) = gints g ++ gints d := by simp [gints]
theorem grefs_length (g : GL) : (grefs g).length = g.length := by simp [grefs]
theorem gints_length (g : GL) : (gints g).length = g.length := by simp [gints]
theorem drawn16_bd (xs : List Int) : ∀ x ∈ familyOf xs, 0 ≤ x ∧ x < 16 := by
  intro x hx
  unfold familyOf drawn16 at hx
  rcases List.mem_append.mp hx with h | h
  · obtain ⟨y, _, rfl⟩ := List.mem_map.mp h
    rw [Int.fmod_eq_emod_of_nonneg _ (by decide)]
    omega
  · have := List.mem_of_mem_drop h
    simp only [List.mem_cons, List.not_mem_nil, or_false] at this
    omega
theorem familyOf_length (xs : List Int) : 3 ≤ (familyOf xs).length ∧ (familyOf xs).length ≤ 5 := by
  unfold familyOf drawn16
  rw [List.length_append, List.length_drop, List.length_map, List.length_take]
  simp
  omega
theorem news_front {h₀ h : Heap} {L : Addr} {a b c d : Addr × Obj} {l : List (Addr × Obj)} (N : News h₀ L h (a :: (l ++ [b, c, d]))) : News h₀ L h (a :: c :: d :: l) := fun p hp => N p (by
  rcases List.mem_cons.mp hp with q | hp
  · rw [q]; exact .head _
  refine .tail _ (List.mem_append.mpr ?_)
  rcases List.mem_cons.mp hp with q | hp
  · rw [q]; exact .inr (.tail _ (.head _))
  rcases List.mem_cons.mp hp with q | hp
  · rw [q]; exact .inr (.tail _ (.tail _ (.head _)))
  · exact .inl hp)
theorem news_drop2 {h₀ h : Heap} {L : Addr} {a b : Addr × Obj} {l : List (Addr × Obj)} (N : News h₀ L h (a :: b :: l)) : News h₀ L h (a :: l) := fun p hp => N p (by
  rcases List.mem_cons.mp hp with q | hp
  · rw [q]; exact .head _
  · exact .tail _ (.tail _ hp))
theorem aheadL (k : Nat) : (Txt.mul (Str.ofString "0") ((k : Int).fmod 2)).cps.toList = List.replicate (k % 2) 48 := by
  have h : (k : Int).fmod 2 = ((k % 2 : Nat) : Int) := by rw [Int.fmod_eq_emod_of_nonneg _ (by decide)]; omega
  rw [h]
  have : k % 2 = 0 ∨ k % 2 = 1 := by omega
  rcases this with e | e <;> rw [e] <;> rfl
theorem aheadL_length (k : Nat) : (Txt.mul (Str.ofString "0") ((k : Int).fmod 2)).length = k % 2 := by
  have h := congrArg List.length (aheadL k)
  rw [List.length_replicate] at h
  exact h
theorem mrg_len (a b : List Int) (ha : a.Pairwise (· < ·)) (hb : b.Pairwise (· < ·)) : (mrg a b).1.length ≤ a.length ∧ (mrg a b).2.length ≤ b.length := by
  rw [mrg_eq a b ha hb]
  exact ⟨List.length_filter_le _ _, List.length_filter_le _ _⟩
theorem news_rot3 {h₀ h : Heap} {L : Addr} {a b c : Addr × Obj} {l : List (Addr × Obj)} (N : News h₀ L h (a :: b :: c :: l)) : News h₀ L h (c :: a :: b :: l) := fun p hp => N p (by
  rcases List.mem_cons.mp hp with q | hp
  · rw [q]; exact .tail _ (.tail _ (.head _))
  rcases List.mem_cons.mp hp with q | hp
  · rw [q]; exact .head _
  rcases List.mem_cons.mp hp with q | hp
  · rw [q]; exact .tail _ (.head _)
  · exact .tail _ (.tail _ (.tail _ hp)))
theorem firstOf_eq (xs : List Int) : 97 + (xs.length : Int).fmod 23 = ((firstOf xs : Nat) : Int) := by
  unfold firstOf
  rw [Int.fmod_eq_emod_of_nonneg _ (by decide)]
  omega
theorem law1 : PySem.Challenge.rw_tx0015_01.Holds := hd (by
  k_go0
  all_goals (try k_fold)
  rename IntsAre _ _ => hIS
  rename List Int => xS
  rename Heap.IsList _ _ _ => hLS
  rename Frag.In _ _ => hKX
  rename Top _ _ _ _ _ _ => hT0
  rename _ = #[] => hgn
  rename Below _ _ _ _ => hB0
  rename ¬ _ < _ => h63
  walk_at "go"
  k_dflt (refine LCg.Assign_ListComp_U (F₀ := by k_asm) (by rfl) (by with_unfolding_all rfl) (by with_unfolding_all rfl) (by decide) (by rfl) (by decide) (by rfl) (by rfl) (by rfl) ?_)
  walk_at "go"
  (rename Fr _ _ _ _ => F3); (rename News _ _ _ _ => N3)
  have hB1 := fun H : Heap => below_caller H
  have hxl : xS.length ≤ 63 := by omega
  k_dflt (refine' family _ _ _ _ _ _ _ _ _ xS _ _ _ _ _ _ _ _ _ _ _ _ _ _ _ _ _ (below_caller _) F3 hKX N3 hT0 rfl ⟨hLS, hIS, hxl⟩ ?kd ?ku ?_; (case kd => first | decide | cb_room); (case ku => first | decide | cb_room))
  clear F3 N3
  intro lF vF cF hF tkF FF NF lfF hIF
  have hfl := familyOf_length xS
  walk_at "go"
  generalize hrest : (lF, W.listOf vF.toArray cF) :: _ = rest at NF
  have hmF : (lF, W.listOf vF.toArray cF) ∈ rest := by rw [← hrest]; exact .head _
  refine LCg.CompSrc.ledger (its := vF.toArray) (k := cF) (by rfl) FF NF hmF (by rw [sizeLine_eq, List.size_toArray, hIF.length]; omega) (fun g9 => restU_of (fun i ys nx => ∃ g : GL, nx = gl g ++ rest ∧ ys = grefs g ∧ gints g = ((familyOf xS).take i).map placesOf ∧ ∀ e ∈ g, IntsAre e.2.1.1 e.2.2 ∧ ∀ q ∈ rest, q.1 ≠ e.1) ?_ ?_ _ 0 [] _ (Nat.zero_add _) ⟨[], rfl, rfl, rfl, fun _ h => nomatch h⟩)
  · rintro i v ys nx hi hv ⟨g, rfl, rfl, hgi, hgo⟩ I oI C oC D m₂ h tk E hN hx F7 N7 off7 ne7
    k_fold
    obtain ⟨x, tx, hx6, rfl⟩ := ints_get hIF (by simpa using hv)
    have hxb := drawn16_bd xS x (List.mem_of_getElem? hx6)
    walk_at "go"
    (rename Fr _ _ _ _ => F3); (rename News _ _ _ _ => N3)
    k_dflt (refine' places _ _ _ _ _ _ _ x tx _ _ _ _ _ _ _ _ _ _ _ _ _ _ _ _ _ (below_caller _) F3 hKX N3 hT0 rfl hxb ?kd ?ku ?_; (case kd => first | decide | cb_room); (case ku => first | decide | cb_room))
    clear F3 N3
    intro lc wc cc hc tkc Fc Nc lfc hIc
    walk_at "go"
    refine LCg.CompEnd.intro Fc Nc (gl (g ++ [(lc, (wc, cc), placesOf x)]) ++ rest) ?_ ?_ (Or.inr ⟨_, List.mem_append_right _ hmF, rfl, _, rfl⟩) ⟨g ++ [(lc, (wc, cc), placesOf x)], rfl, (grefs_append g [(lc, (wc, cc), placesOf x)]).symm, ?_, ?_⟩
    · intro p hp
      rw [gl_append] at hp
      rcases List.mem_cons.mp hp with q | hp
      · rw [q]; exact .tail _ (.head _)
      rcases List.mem_cons.mp hp with q | hp
      · rw [q]; exact .tail _ (.tail _ (.head _))
      rcases List.mem_cons.mp hp with q | hp
      · rw [q]; exact .tail _ (.tail _ (.tail _ (.head _)))
      rcases List.mem_append.mp hp with hp | hp
      · rcases List.mem_append.mp hp with hp | hp
        · exact .tail _ (.tail _ (.tail _ (.tail _ (List.mem_append_left _ hp))))
        · rw [List.mem_singleton.mp hp]; exact .head _
      · exact .tail _ (.tail _ (.tail _ (.tail _ (List.mem_append_right _ hp))))
    · refine LCg.Off3.of fun p hp => ?_
      rw [gl_append] at hp
      rcases List.mem_append.mp hp with hp | hp
      · rcases List.mem_append.mp hp with hp | hp
        · exact off7.mem _ (List.mem_append_left _ hp)
        · rw [List.mem_singleton.mp hp]
          exact ⟨Ne.symm (lfc (I, oI) (.head _)), Ne.symm (lfc (C, oC) (.tail _ (.head _))), Ne.symm (lfc (D, LCg.lst (grefs g)) (.tail _ (.tail _ (.head _))))⟩
      · exact off7.mem _ (List.mem_append_right _ hp)
    · rw [gints_append, hgi, take_map_succ hx6]
      rfl
    · intro e he
      rcases List.mem_append.mp he with he | he
      · exact hgo e he
      · rw [List.mem_singleton.mp he]
        exact ⟨hIc, fun q hq => lfc q (.tail _ (.tail _ (.tail _ (List.mem_append_right _ hq))))⟩
  · rintro ys nx ⟨g, rfl, rfl, hgi, hgo⟩
    show LCg.FinA _ _ _ _ _ _ _ _
    intro lG h7 tk7 F7 N7 o7
    change News _ _ _ ((lG, W.listOf (grefs g).toArray (grefs g).length) :: (gl g ++ rest)) at N7
    rw [List.size_toArray, hIF.length, List.take_length] at hgi
    have oG := off1_mem o7
    subst hrest
    have N8 := news_front N7
    clear N7 o7
    walk_at "go"
    walk1
    k_dflt (refine LCg.ListComp_U (F₀ := by k_asm) (by with_unfolding_all rfl) (by decide) (by rfl) (by decide) (by rfl) ?_)
    walk_at "go"
    have hgl : g.length = (familyOf xS).length := by rw [← gints_length, hgi, List.length_map]
    (rename Fr _ _ _ _ => F3); (rename News _ _ _ _ => N3)
    refine LCg.CompSrc.ledger (its := (grefs g).toArray) (k := (grefs g).length) (by rfl) F3 N3 (.head _) (by rw [sizeLine_eq, List.size_toArray, grefs_length]; omega) (fun g9 => restU_of (fun i ys nx => nx = _ :: _ ∧ ys.length = i ∧ ∀ k e, k < i → g[k]? = some e → ∃ t, ys[k]? = some (Value.str (wordStr e.2.2 (firstOf xS)) t)) ?_ ?_ _ 0 [] _ (Nat.zero_add _) ⟨rfl, rfl, fun _ _ h => absurd h (Nat.not_lt_zero _)⟩)
    · rintro i v ys nx hi hv ⟨rfl, hyl, hys⟩ I oI C oC D m₂ h tk E hN hx F7 N7 off7 ne7
      k_fold
      obtain ⟨e, he, heg, rfl⟩ := grefs_get (by simpa using hv)
      have hge := (hgo e heg).1
      walk_at "go"
      walk1
      walk_at "go"
      rw [firstOf_eq]
      (rename Fr _ _ _ _ => F4); (rename News _ _ _ _ => N4)
      k_dflt (refine' word _ _ _ _ _ _ _ e.1 e.2.1.1 e.2.2 e.2.1.2 (firstOf xS) _ _ _ _ _ _ _ _ _ _ _ _ _ _ _ _ _ _ (below_caller _) F4 hKX N4 hT0 rfl ⟨?km, hge, by unfold firstOf; omega, by unfold firstOf; omega⟩ ?kd ?ku ?_; (case kd => first | decide | cb_room); (case ku => first | decide | cb_room); (case km => exact .tail _ (.tail _ (.tail _ (.tail _ (.tail _ (.tail _ (List.mem_map_of_mem (f := fun e : Addr × (List Value × Nat) × List Int => (e.1, W.listOf e.2.1.1.toArray e.2.1.2)) heg))))))))
      clear F4 N4
      intro tw hw tkw Fw Nw
      walk_at "go"
      refine LCg.CompEnd.intro Fw Nw _ (fun _ h => h) off7 (Or.inr ⟨_, .head _, rfl, _, rfl⟩) ⟨rfl, by rw [List.length_append, hyl]; rfl, ?_⟩
      intro k e' hk he'
      by_cases hki : k < i
      · obtain ⟨t, ht⟩ := hys k e' hki he'
        exact ⟨t, by rw [List.getElem?_append_left (by omega)]; exact ht⟩
      · obtain rfl : k = i := by omega
        rw [he] at he'
        injection he' with he'
        rw [← he']
        exact ⟨tw, by rw [List.getElem?_append_right (by omega), hyl, Nat.sub_self]; rfl⟩
    · rintro ys nx ⟨rfl, hyl, hys⟩
      show LCg.FinE _ _ _ _ _ _ _
      intro lW h7 tk7 F7 N7 o7
      change News _ _ _ ((lW, W.listOf ys.toArray ys.length) :: _) at N7
      have oW := off1_mem o7
      clear o7
      rw [List.size_toArray, grefs_length] at hyl hys
      have N8 := news_rot3 N7
      (first | refine storeX_C F7 N8 rfl (UpdF.head ?hu) (by assumption) fun h3 oC2 F3 N3 hcd2 => ?_ | refine wpAny_assign_Name (storeX_C F7 N8 rfl (UpdF.head ?hu) (by assumption) fun h3 oC2 F3 N3 hcd2 => ?_))
      case hu =>
        intro p hp
        rcases List.mem_cons.mp hp with q | hp
        · rw [q]; exact fun e => oW _ (.tail _ (.head _)) e.symm
        rcases List.mem_cons.mp hp with q | hp
        · rw [q]; exact fun e => oG _ (List.mem_append_right _ (.tail _ (.head _))) e.symm
        rcases List.mem_cons.mp hp with q | hp
        · rw [q]; exact Nat.ne_of_lt (Nat.lt_succ_self _)
        · obtain ⟨e, he, rfl⟩ := List.mem_map.mp hp
          exact fun q => (hgo e he).2 _ (.tail _ (.head _)) q.symm
      clear F7 N7 N8
      have hy5 : ys.length ≤ 5 := by omega
      walk_at "go"
      walk1
      walk_at "go"
      k_dflt (refine LCg.Assign_ListComp_U (F₀ := by k_asm) (by rfl) (by with_unfolding_all rfl) (by with_unfolding_all rfl) (by decide) (by rfl) (by decide) (by rfl) (by rfl) (by rfl) ?_)
      walk_at "go"
      (rename Fr _ _ _ _ => F4); (rename News _ _ _ _ => N4)
      k_dflt (refine' wave _ _ _ _ _ _ _ 0 _ _ _ _ _ _ _ _ _ _ _ _ _ _ _ _ _ _ (below_caller _) F4 hKX N4 hT0 rfl trivial ?kd ?ku ?_; (case kd => first | decide | cb_room); (case ku => first | decide | cb_room))
      clear F4 N4
      intro lw vw cw hw tkw Fw Nw lfw hIw
      walk_at "go"
      refine LCg.CompSrc.ledger (its := vw.toArray) (k := cw) (by rfl) Fw Nw (.head _) (by rw [sizeLine_eq, List.size_toArray, hIw.length, wrow_length]; omega) (fun g9 => restU_of (fun i zs nx => nx = _ :: _ ∧ IntsAre zs (((wrow 0 4).take i).map fun x => (ys.length : Int) * x)) ?_ ?_ _ 0 [] _ (Nat.zero_add _) ⟨rfl, .nil⟩)
      · rintro i v zs nx hi hv ⟨rfl, hzs⟩ I oI C oC D m₂ h tk E hN hx F7 N7 off7 ne7
        k_fold
        obtain ⟨x, tx, hx6, rfl⟩ := ints_get hIw (by simpa using hv)
        walk_at "go"
        refine len_list (PySem.IsL.isList (n := ys.length) (N7 (lW, W.listOf ys.toArray ys.length) (.tail _ (.tail _ (.tail _ (.tail _ (.tail _ (.head _))))))).1) (by rw [List.size_toArray]; omega) ?_
        walk_at "go"
        refine LCg.CompEnd.intro (by assumption) (by assumption) _ (fun p hp => hp) off7 (Or.inr ⟨_, .head _, rfl, _, rfl⟩) ⟨rfl, ?_⟩
        rw [take_map_succ hx6]
        exact ints_snoc hzs
      · rintro zs nx ⟨rfl, hzs⟩
        show LCg.FinA _ _ _ _ _ _ _ _
        intro lS h7 tk7 F7 N7 o7
        change News _ _ _ ((lS, W.listOf zs.toArray zs.length) :: _) at N7
        rw [List.size_toArray, hIw.length, List.take_length] at hzs
        have oS := off1_mem o7
        clear o7
        walk_at "go"
        refine For_T ?_
        walk_at "go"
        (rename Fr _ _ _ _ => F4); (rename News _ _ _ _ => N4)
        refine len_list (PySem.IsL.isList (n := ys.length) (N4 (lW, W.listOf ys.toArray ys.length) (.tail _ (.tail _ (.tail _ (.head _))))).1) (by rw [List.size_toArray]; omega) ?_
        walk_at "go"
        rename IsRange _ _ _ _ _ _ _ _ => rgX
        try clear F4
        try clear N4
        try clear N3
        try clear F3
        try clear Fw
        try clear Nw
        try clear F7
        try clear N7
        try clear lfw
        try clear oS
        (rename Fr _ _ _ _ => lF'); (rename News _ _ _ _ => lN')
        replace lN' := news_drop2 lN'
        rename IntsAre zs _ => hzs
        have hgx : ∀ e ∈ g, ∃ x, e.2.2 = placesOf x ∧ 0 ≤ x ∧ x < 16 := fun e he => by
          have h1 : e.2.2 ∈ gints g := List.mem_map_of_mem (f := fun e : Addr × (List Value × Nat) × List Int => e.2.2) he
          rw [hgi] at h1
          obtain ⟨x, hxm, hx⟩ := List.mem_map.mp h1
          exact ⟨x, hx.symm, drawn16_bd xS x hxm⟩
        with_unfolding_all refine' for_rangeT (n := ys.length) (σ := Addr × List Value × Nat) (fun c => (c.1, W.listOf c.2.1.toArray c.2.2) :: (_, oC2) :: (lW, W.listOf ys.toArray ys.length) :: (lG, W.listOf (grefs g).toArray (grefs g).length) :: (_, _) :: gl g) (fun c => [(Str.ofString "sums", Value.ref c.1)]) [Str.ofString "j", Str.ofString "i", Str.ofString "missing", Str.ofString "unexpected", Str.ofString "due", Str.ofString "bound", Str.ofString "told"] (fun j c => IntsAre c.2.1 (sumsJ (gints g) ((wrow 0 4).map fun x => (ys.length : Int) * x) j)) (lS, zs, zs.length) ?hgo ?hE ?k0 rgX (by omega) lF' lN' (fun _ h => h) ?kk hzs ?_ ?_
        case k0 => rfl
        case kk => walk_at "hasN"
        case hE => passes_own
        case hgo => intro s' I v Q' E' hq; exact wpAny_pure hq
        · rintro ⟨lS, vS, cS⟩ j t u s₁ I oI own hj hP hI hmI hown F1 N1
          dsimp only at hP F1 N1
          k_fold
          clear lF' lN'
          simp only [List.cons_append] at N1
          refine wpAny_assign_Name (storeX_L F1 N1 fun h2 F2 N2 => ?_)
          clear F1 N1
          walk_at "go"
          refine For_T ?_
          walk_at "go"
          rename IsRange _ _ _ _ _ _ _ _ => rgY
          (rename Fr _ _ _ _ => lF'); (rename News _ _ _ _ => lN')
          with_unfolding_all refine' for_rangeT (n := j) (σ := Addr × List Value × Nat) (fun c => (c.1, W.listOf c.2.1.toArray c.2.2) :: (_, oC2) :: (lW, W.listOf ys.toArray ys.length) :: (lG, W.listOf (grefs g).toArray (grefs g).length) :: (_, _) :: (gl g ++ own)) (fun c => [(Str.ofString "sums", Value.ref c.1)]) [Str.ofString "i", Str.ofString "missing", Str.ofString "unexpected", Str.ofString "due", Str.ofString "bound", Str.ofString "told"] (fun i c => IntsAre c.2.1 (sumsI (gints g) j (sumsJ (gints g) ((wrow 0 4).map fun x => (ys.length : Int) * x) j) i) ∧ c.1 ≠ I) (lS, vS, cS) ?hgo2 ?hE2 ?k02 rgY (by omega) lF' lN' (fun _ h => h) ?kk2 ⟨hP, fun e => hI _ (.head _) e⟩ ?_ ?_
          case k02 => rfl
          case kk2 => walk_at "hasN"
          case hE2 => passes_own
          case hgo2 => intro s' I v Q' E' hq; exact wpAny_pure hq
          · rintro ⟨lS, vS, cS⟩ i t u s₁ I2 oI2 own2 hi ⟨hP2, hSI⟩ hI2 hmI2 hown2 F1 N1
            dsimp only at hP2 hSI F1 N1
            k_fold
            clear lF' lN'
            simp only [List.cons_append] at N1
            refine wpAny_assign_Name (storeX_L F1 N1 fun h3 F3 N3 => ?_)
            clear F1 N1
            walk_at "go"
            obtain ⟨ei, hei⟩ : ∃ e, g[i]? = some e := ⟨_, List.getElem?_eq_getElem (by omega)⟩
            obtain ⟨ej, hej⟩ : ∃ e, g[j]? = some e := ⟨_, List.getElem?_eq_getElem (by omega)⟩
            have hmi := List.mem_of_getElem? hei
            have hmj := List.mem_of_getElem? hej
            obtain ⟨xi, hxi, bxi⟩ := hgx ei hmi
            obtain ⟨xj, hxj, bxj⟩ := hgx ej hmj
            have uI : ei.2.2.Pairwise (· < ·) := by rw [hxi]; exact placesOf_up xi
            have uJ : ej.2.2.Pairwise (· < ·) := by rw [hxj]; exact placesOf_up xj
            have lI4 : ei.2.2.length ≤ 4 := by rw [hxi]; exact placesOf_len xi
            have lJ4 : ej.2.2.length ≤ 4 := by rw [hxj]; exact placesOf_len xj
            have ml := mrg_len ei.2.2 ej.2.2 uI uJ
            (rename Fr _ _ _ _ => F8); (rename News _ _ _ _ => N8)
            refine item_listL (x := .ref ei.1) (PySem.IsL.isList (n := (grefs g).length) (N8 (lG, W.listOf (grefs g).toArray (grefs g).length) (.tail _ (.tail _ (.tail _ (.head _))))).1) (by omega) (by omega) (by rw [Int.toNat_natCast]; unfold grefs; rw [List.getElem?_map, hei]; rfl) ?_
            walk_at "go"
            refine item_listL (x := .ref ej.1) (PySem.IsL.isList (n := (grefs g).length) (N8 (lG, W.listOf (grefs g).toArray (grefs g).length) (.tail _ (.tail _ (.tail _ (.head _))))).1) (by omega) (by omega) (by rw [Int.toNat_natCast]; unfold grefs; rw [List.getElem?_map, hej]; rfl) ?_
            walk_at "go"
            k_dflt (refine' sld _ _ _ _ _ _ _ ei.1 ej.1 ei.2.1.1 ej.2.1.1 ei.2.2 ej.2.2 ei.2.1.2 ej.2.1.2 ?m1 ?m2 (hgo ei hmi).1 (hgo ej hmj).1 uI uJ ?n1 ?n2 _ _ _ _ _ _ _ _ _ _ _ _ _ _ F8 hKX N8 hT0 rfl ?kd ?ku ?_; (case m1 => exact .tail _ (.tail _ (.tail _ (.tail _ (.tail _ (List.mem_append_left _ (List.mem_append_left _ (List.mem_map_of_mem (f := fun e : Addr × (List Value × Nat) × List Int => (e.1, W.listOf e.2.1.1.toArray e.2.1.2)) hmi)))))))); (case m2 => exact .tail _ (.tail _ (.tail _ (.tail _ (.tail _ (List.mem_append_left _ (List.mem_append_left _ (List.mem_map_of_mem (f := fun e : Addr × (List Value × Nat) × List Int => (e.1, W.listOf e.2.1.1.toArray e.2.1.2)) hmj)))))))); (case n1 => omega); (case n2 => omega); (case kd => first | decide | cb_room); (case ku => first | decide | cb_room))
            clear F8 N8
            intro lT lm lu vm vu cm cu hS tkS FS NS ltS ltm ltu hIm hIu
            have hah2 := aheadL xS.length
            have hah3 := aheadL_length xS.length
            generalize hah1 : Txt.mul (Str.ofString "0") ((xS.length : Int).fmod 2) = ah at *
            have hlm := hIm.length
            have hlu := hIu.length
            obtain ⟨ti, hti⟩ := hys i ei (by omega) hei
            obtain ⟨tj, htj⟩ := hys j ej (by omega) hej
            walk_at "go"
            (rename Fr _ _ _ _ => F8); (rename News _ _ _ _ => N8)
            refine len_list (PySem.IsL.isList (n := cm) (N8 (lm, W.listOf vm.toArray cm) (.tail _ (.tail _ (.head _)))).1) (by rw [List.size_toArray, hlm]; omega) ?_
            rw [show vm.toArray.size = (mrg ei.2.2 ej.2.2).1.length by rw [List.size_toArray, hlm]]
            walk_at "go"
            refine len_list (PySem.IsL.isList (n := cu) (N8 (lu, W.listOf vu.toArray cu) (.tail _ (.head _))).1) (by rw [List.size_toArray, hlu]; omega) ?_
            rw [show vu.toArray.size = (mrg ei.2.2 ej.2.2).2.length by rw [List.size_toArray, hlu]]
            walk_at "go"
            refine SBL.len (by omega) ?_
            walk_at "go"
            try clear F8
            try clear N8
            (rename Fr _ _ _ _ => F8); (rename News _ _ _ _ => N8)
            refine item_listL (PySem.IsL.isList (n := ys.length) (N8 (lW, W.listOf ys.toArray ys.length) (.tail _ (.tail _ (.tail _ (.tail _ (.tail _ (.head _))))))).1) (by omega) (by omega) (by rw [Int.toNat_natCast]; exact hti) ?_
            walk_at "go"
            refine SBL.add (fun tP kP _ => ?_) (by rw [sizeLine_eq, wordStr_length]; omega)
            walk_at "go"
            refine item_listL (PySem.IsL.isList (n := ys.length) (N8 (lW, W.listOf ys.toArray ys.length) (.tail _ (.tail _ (.tail _ (.tail _ (.tail _ (.head _))))))).1) (by omega) (by omega) (by rw [Int.toNat_natCast]; exact htj) ?_
            walk_at "go"
            refine SBL.add (fun tP kP _ => ?_) (by rw [sizeLine_eq, wordStr_length]; omega)
            walk_at "go"
            k_dflt (refine' lev _ _ _ _ _ _ _ (ah ++ wordStr ei.2.2 (firstOf xS)) _ (wordStr ej.2.2 (firstOf xS) ++ ah) _ _ _ (distOf ei.2.2 ej.2.2 + 4 * (ah.length : Int)) _ _ _ _ _ _ _ _ _ _ _ _ _ _ _ _ _ (below_caller _) F8 hKX N8 hT0 rfl ?kp ?kd ?ku ?_; (case kp => (rw [hxi, hxj]; exact levPre1 bxi bxj xS ah hah2)); (case kd => first | decide | cb_room); (case ku => first | decide | cb_room))
            try clear F8
            try clear N8
            intro tR hR tkR FR NR
            walk_at "go"
            refine SBL.len (by omega) ?_
            walk_at "go"
            · exfalso
              rename _ ≠ _ => hne
              exact hne (by unfold distOf; omega)
            k_dflt (refine Assign_ListComp_Z (F₀ := by k_asm) (by rfl) (by with_unfolding_all rfl) (by with_unfolding_all rfl) (by decide) (by rfl) (by decide) (by rfl) (by rfl) (by decide) (by rfl) (by rfl) ?_)
            walk_at "go"
            (rename Fr _ _ _ _ => F8); (rename News _ _ _ _ => N8)
            k_dflt (refine' wave _ _ _ _ _ _ _ _ _ _ _ _ _ _ _ _ _ _ _ _ _ _ _ _ _ _ (below_caller _) F8 hKX N8 hT0 rfl trivial ?kd ?ku ?_; (case kd => first | decide | cb_room); (case ku => first | decide | cb_room))
            try clear F8
            try clear N8
            intro lv vv cv hv tkv Fv Nv lfv hIv
            rw [show distOf ei.2.2 ej.2.2 + 4 * (ah.length : Int) - 4 * (ah.length : Int) = distOf ei.2.2 ej.2.2 by omega] at hIv
            have hsl : (sumsI (gints g) j (sumsJ (gints g) ((wrow 0 4).map fun x => (ys.length : Int) * x) j) i).length = 5 := sumsI_length (sumsJ_length (by rw [List.length_map, wrow_length]) j) i
            walk_at "go"
            refine zip_src (c1 := cS) (c2 := cv) (fun k => (sumsI (gints g) j (sumsJ (gints g) ((wrow 0 4).map fun x => (ys.length : Int) * x) j) i).getD k 0 + 2 * (wrow (distOf ei.2.2 ej.2.2) 4).getD k 0) (by rfl) Fv Nv (.tail _ (.tail _ (.tail _ (.tail _ (.head _))))) (.head _) hP2 hIv (by rw [hsl]; omega) ?_ ?_
            · intro k a b ta tb ha hb C oC5 m₂ h tk E hN hx1 hx2 F7 N7
              k_fold
              walk_at "go"
              refine zend ?_
              show a + 2 * b = (sumsI (gints g) j (sumsJ (gints g) ((wrow 0 4).map fun x => (ys.length : Int) * x) j) i).getD k 0 + 2 * (wrow (distOf ei.2.2 ej.2.2) 4).getD k 0
              rw [List.getD_eq_getElem?_getD, List.getD_eq_getElem?_getD, ha, hb]
              rfl
            · intro zs9 h9 hzs9 lD h7 tk7 F7 N7 o7
              change News _ _ _ ((lD, W.listOf zs9.toArray zs9.length) :: _) at N7
              have oD := off1_mem o7
              clear o7
              walk_at "go"
              refine uend (lD, zs9, zs9.length) (by assumption) (by assumption) ?_ ?_ ?_ (by walk_at "hasN") ?_ ⟨?_, ?_⟩
              · intro p hp
                rcases List.mem_cons.mp hp with q | hp
                · rw [q]; exact .head _
                refine .tail _ (.tail _ (.tail _ (.tail _ (.tail _ (.tail _ ?_)))))
                rcases List.mem_cons.mp hp with q | hp
                · rw [q]; exact .head _
                rcases List.mem_cons.mp hp with q | hp
                · rw [q]; exact .tail _ (.head _)
                rcases List.mem_cons.mp hp with q | hp
                · rw [q]; exact .tail _ (.tail _ (.head _))
                rcases List.mem_cons.mp hp with q | hp
                · rw [q]; exact .tail _ (.tail _ (.tail _ (.head _)))
                · exact .tail _ (.tail _ (.tail _ (.tail _ (List.mem_append_left _ hp))))
              · exact fun p hp => .tail _ (.tail _ (.tail _ (.tail _ (.tail _ (.tail _ (.tail _ (.tail _ (.tail _ (.tail _ (List.mem_append_right _ hp))))))))))
              · intro p hp
                rcases List.mem_cons.mp hp with q | hp
                · rw [q]
                  exact fun e => oD (I2, oI2) (.tail _ (.tail _ (.tail _ (.tail _ (.tail _ (.tail _ (.tail _ (.tail _ (.tail _ (List.mem_append_right _ hmI2)))))))))) e.symm
                · exact hI2 p (.tail _ hp)
              · intro z hz hs
                have hz1 := hz _ (.head _)
                dsimp only at hz1
                simp only [List.contains_cons, List.contains_nil, Bool.or_false, Bool.or_eq_false_iff, beq_eq_false_iff_ne] at hs
                obtain ⟨s1, s2, s3, s4, s5, s6⟩ := hs
                simp [upd, hz1, s1, s2, s3, s4, s5, s6]
              · have gi9 : (gints g).getD i [] = ei.2.2 := by unfold gints; rw [List.getD_eq_getElem?_getD, List.getElem?_map, hei]; rfl
                have gj9 : (gints g).getD j [] = ej.2.2 := by unfold gints; rw [List.getD_eq_getElem?_getD, List.getElem?_map, hej]; rfl
                rw [hsl, wrow_length] at hzs9
                show IntsAre zs9 (sumsI _ _ _ (i + 1))
                rw [sumsI, gi9, gj9]
                exact hzs9
              · exact fun e => oD (I, oI) (.tail _ (.tail _ (.tail _ (.tail _ (.tail _ (.tail _ (.tail _ (.tail _ (.tail _ (List.mem_append_left _ (List.mem_append_right _ hmI))))))))))) e.symm
          · rintro ⟨lS, vS, cS⟩ u h3 tk3 ⟨hP2, hSI⟩ F1 N1
            dsimp only at hP2 hSI F1 N1
            clear lF' lN'
            walk_at "go"
            refine uend (lS, vS, cS) (by assumption) (by assumption) ?_ ?_ ?_ (by walk_at "hasN") ?_ ?_
            · intro p hp
              rcases List.mem_cons.mp hp with q | hp
              · rw [q]; exact .head _
              rcases List.mem_cons.mp hp with q | hp
              · rw [q]; exact .tail _ (.head _)
              rcases List.mem_cons.mp hp with q | hp
              · rw [q]; exact .tail _ (.tail _ (.head _))
              rcases List.mem_cons.mp hp with q | hp
              · rw [q]; exact .tail _ (.tail _ (.tail _ (.head _)))
              rcases List.mem_cons.mp hp with q | hp
              · rw [q]; exact .tail _ (.tail _ (.tail _ (.tail _ (.head _))))
              · exact .tail _ (.tail _ (.tail _ (.tail _ (.tail _ (List.mem_append_left _ hp)))))
            · exact fun p hp => .tail _ (.tail _ (.tail _ (.tail _ (.tail _ (List.mem_append_right _ hp)))))
            · intro p hp
              rcases List.mem_cons.mp hp with q | hp
              · rw [q]; exact hSI
              · exact hI p (.tail _ hp)
            · intro z hz hs
              have hz1 := hz _ (.head _)
              dsimp only at hz1
              simp only [List.contains_cons, List.contains_nil, Bool.or_false, Bool.or_eq_false_iff, beq_eq_false_iff_ne] at hs
              obtain ⟨s1, s2, s3, s4, s5, s6, s7⟩ := hs
              simp [upd, hz1, s1, s2, s3, s4, s5, s6, s7]
            · show IntsAre vS (sumsJ _ _ (j + 1))
              rw [sumsJ]
              exact hP2
        · rintro ⟨lS, vS, cS⟩ u h1 tk1 hP F1 N1
          dsimp only at hP F1 N1
          clear lF' lN'
          walk_at "go"
          (rename Fr _ _ _ _ => F8); (rename News _ _ _ _ => N8)
          k_dflt (refine' squares _ _ _ _ _ _ _ lG g (grefs g).length _ _ _ _ _ _ _ _ _ _ _ _ _ _ _ _ _ (below_caller _) F8 hKX N8 hT0 rfl ⟨?km, ?kg, by omega⟩ ?kd ?ku ?_; (case kg => exact fun e he => ⟨.tail _ (.tail _ (.tail _ (.tail _ (.tail _ (List.mem_map_of_mem (f := fun e : Addr × (List Value × Nat) × List Int => (e.1, W.listOf e.2.1.1.toArray e.2.1.2)) he))))), (hgo e he).1⟩); (case km => exact .tail _ (.tail _ (.tail _ (.head _)))); (case kd => first | decide | cb_room); (case ku => first | decide | cb_room))
          try clear F8
          try clear N8
          intro lQ vQ cQ hQ tkQ FQ NQ lfQ hIQ
          have hP9 : IntsAre vS (sqs (gints g) 16) := by
            have h9 := law_sums (familyOf xS) (drawn16_bd xS)
            rw [hyl, hgl, hgi] at hP
            rw [hgi, ← h9]
            exact hP
          clear hP
          walk_at "go"
          refine goodW_bool (by assumption) hgn (raisesW_false ?_) ?_
          · wrow_none_raised
          · wrow_post)
end
end Mine
end
theorem PySem.Challenge.cw_tx0015_01_holds : PySem.Challenge.rw_tx0015_01.Holds :=
  Mine.law1
