import PyProof.Rows.All
import Wide.All
import OpenK.AllK
import Wide.FinOn
import Lean
import PySem.Challenge.RW_wa0019_01
set_option Elab.async false
/- TOPW -/
section
open PySem PySem.W PyProof.Rows
namespace Mine
set_option maxRecDepth 100000 in
set_option maxHeartbeats 8000000 in
open_top hd for PySem.Challenge.rw_wa0019_01
end Mine
end
/- ARITH -/
section
set_option genSizeOf false
set_option genInjectivity false
namespace Mine
/-! ## small sums, said once (their proofs by omega are fat) -/
theorem leBig {a k n : Nat} (h : a ≤ k) (q : Nat.ble k n = true := by exact rfl) : a ≤ n := Nat.le_trans h (Nat.le_of_ble_eq_true q)
theorem ltBig {a k n : Nat} (h : a < k) (q : Nat.ble k n = true := by exact rfl) : a < n := Nat.lt_of_lt_of_le h (Nat.le_of_ble_eq_true q)
theorem leLt {a k n : Nat} (h : a ≤ k) (q : Nat.ble (k + 1) n = true := by exact rfl) : a < n := Nat.lt_of_le_of_lt h (Nat.le_of_ble_eq_true q)
theorem ltLe {a k n : Nat} (h : a < k) (q : Nat.ble k (n + 1) = true := by exact rfl) : a ≤ n := Nat.le_of_lt_succ (Nat.lt_of_lt_of_le h (Nat.le_of_ble_eq_true q))
theorem room {a k c : Nat} (n : Nat) (h : a + k < c) (q : Nat.ble n k = true := by exact rfl) : a + n < c := Nat.lt_of_le_of_lt (Nat.add_le_add_left (Nat.le_of_ble_eq_true q) a) h
theorem room0 {a k c : Nat} (h : a + k < c) : a < c := Nat.lt_of_le_of_lt (Nat.le_add_right a k) h
theorem roomT {a k c : Nat} (i n : Nat) (h : a + k < c) (q : Nat.ble (i + n) k = true := by exact rfl) : a + i + n < c := by
  rw [Nat.add_assoc]; exact room (i + n) h q
theorem downTurn {i n : Nat} (h : i < n) : n + 1 - (i + 1) < n + 1 - i := Nat.sub_lt_sub_left (Nat.lt_succ_of_lt h) (Nat.lt_succ_self i)
theorem eqOf {i n : Nat} (h : i ≤ n) (g : ¬ i < n) : i = n := Nat.le_antisymm h (Nat.le_of_not_lt g)
theorem twoCases {i : Nat} (h : i < 2) : i = 0 ∨ i = 1 := match i, h with
  | 0, _ => .inl rfl
  | 1, _ => .inr rfl
theorem twoOne {i : Nat} (h : i < 2) (g : 1 ≤ i) : i = 1 := Nat.le_antisymm (Nat.le_of_lt_succ h) g
theorem oneZero {i : Nat} (h : i < 1) : i = 0 := Nat.le_zero.mp (Nat.le_of_lt_succ h)
theorem fiveCases {i : Nat} (h : i < 5) : i = 0 ∨ i = 1 ∨ i = 2 ∨ i = 3 ∨ i = 4 := match i, h with
  | 0, _ => .inl rfl
  | 1, _ => .inr (.inl rfl)
  | 2, _ => .inr (.inr (.inl rfl))
  | 3, _ => .inr (.inr (.inr (.inl rfl)))
  | 4, _ => .inr (.inr (.inr (.inr rfl)))
theorem predLt {a x : Nat} (ha : 1 ≤ a) (h : a ≤ x) : x - 1 < x := Nat.sub_lt (Nat.le_trans ha h) Nat.one_pos
theorem predSize {x m n : Nat} (h : x < m) (hm : m ≤ n) : x - 1 < n := Nat.lt_of_le_of_lt (Nat.sub_le x 1) (Nat.lt_of_lt_of_le h hm)
theorem natLt {a c : Nat} (h : a < c) : (a : Int) < (c : Int) := Int.ofNat_lt.mpr h
theorem natLe {a c : Nat} (h : a ≤ c) : (a : Int) ≤ (c : Int) := Int.ofNat_le.mpr h
theorem leSz {a k : Nat} (h : a ≤ k) (q : Nat.ble k 16777216 = true := by exact rfl) : a ≤ PySem.sizeLine := Nat.le_trans h (PySem.sizeLine_eq ▸ Nat.le_of_ble_eq_true q)
theorem natSmall {i k : Nat} (h : i < k) (q : Nat.ble k 9223372036854775808 = true := by exact rfl) : (i : Int) < 2 ^ 63 := Int.lt_of_lt_of_le (Int.ofNat_lt.mpr (ltBig h q)) (by decide)
theorem idMul (i : Int) : 0 + i * 1 = i := by rw [Int.mul_one, Int.zero_add]
theorem lenSnoc {α : Type} {a b : Nat} {l : List α} {x : α} (h : a ≤ b + 1) (g : b ≤ l.length) : a ≤ (l ++ [x]).length := by rw [List.length_append]; exact Nat.le_trans h (Nat.succ_le_succ g)
theorem minLt {i n m : Nat} (h : i < min n m) : i < n := Nat.lt_of_lt_of_le h (Nat.min_le_left n m)
theorem inRange {i hi : Nat} (h : i < hi + 1) : i ∈ List.range' 0 (hi + 1 - 0) := List.mem_range'_1.mpr ⟨Nat.zero_le _, by rw [Nat.zero_add]; exact h⟩
end Mine
end
/- PURE -/
section
/- THE PLAIN LAW: no program in sight. Texts are lists of numbers. -/
set_option autoImplicit false
set_option genSizeOf false
set_option genInjectivity false
namespace Mine
noncomputable abbrev Tx := List Nat

/-! ## shorn -/
noncomputable def shStep (st : Tx × Tx × Bool) (c : Nat) : Tx × Tx × Bool :=
  if st.2.1 = [] ∧ ¬ (c = 34 ∧ st.2.2 = false) then (st.1 ++ [c], st.2.1, decide (c = 92 ∧ st.2.2 = false))
  else if st.2.1 ≠ [] ∧ (c = 34 ∧ st.2.2 = false) then (st.1, [], decide (c = 92 ∧ st.2.2 = false))
  else (st.1, st.2.1 ++ [c], decide (c = 92 ∧ st.2.2 = false))

noncomputable def sh (held : Tx) (b : Bool) : Tx → Tx
  | [] => held
  | c :: r =>
    if held = [] then (if c = 34 ∧ b = false then sh [c] false r else c :: sh [] (decide (c = 92 ∧ b = false)) r)
    else if c = 34 ∧ b = false then sh [] false r else sh (held ++ [c]) (decide (c = 92 ∧ b = false)) r
noncomputable def shorn (t : Tx) : Tx := sh [] false t

theorem sh_fold (t : Tx) : ∀ (k h : Tx) (b : Bool), (t.foldl shStep (k, h, b)).1 ++ (t.foldl shStep (k, h, b)).2.1 = k ++ sh h b t := by
  induction t with
  | nil => intro k h b; simp [sh]
  | cons c r ih =>
    intro k h b
    rw [List.foldl_cons]
    by_cases hh : h = []
    · subst hh
      by_cases hm : c = 34 ∧ b = false
      · obtain ⟨rfl, rfl⟩ := hm
        have e : shStep (k, [], false) 34 = (k, [34], false) := by simp [shStep]
        rw [e, ih]; simp [sh]
      · have e : shStep (k, [], b) c = (k ++ [c], [], decide (c = 92 ∧ b = false)) := by simp [shStep, hm]
        rw [e, ih]; simp [sh, hm]
    · by_cases hm : c = 34 ∧ b = false
      · obtain ⟨rfl, rfl⟩ := hm
        have e : shStep (k, h, false) 34 = (k, [], false) := by simp [shStep, hh]
        rw [e, ih]; simp [sh, hh]
      · have e : shStep (k, h, b) c = (k, h ++ [c], decide (c = 92 ∧ b = false)) := by simp [shStep, hm, hh]
        rw [e, ih]; simp [sh, hm, hh]

/-- at most one open mark: the scan's state is (behind, a mark was seen) -/
noncomputable def omS : Tx → Bool → Bool → Option (Bool × Bool)
  | [], b, s => some (b, s)
  | c :: r, b, s => if c = 34 ∧ b = false then (if s = true then none else omS r false true) else omS r (decide (c = 92 ∧ b = false)) s

theorem omS_append (x y : Tx) : ∀ b s, omS (x ++ y) b s = (omS x b s).bind fun p => omS y p.1 p.2 := by
  induction x with
  | nil => intro b s; rfl
  | cons c r ih =>
    intro b s
    simp only [List.cons_append, omS]
    split
    · split
      · rfl
      · exact ih _ _
    · exact ih _ _

theorem sh_of_om (t : Tx) : (∀ b, (omS t b false).isSome = true → sh [] b t = t) ∧ (∀ h b, h ≠ [] → (omS t b true).isSome = true → sh h b t = h ++ t) := by
  induction t with
  | nil => exact ⟨fun b _ => rfl, fun h b _ _ => by simp [sh]⟩
  | cons c r ih =>
    refine ⟨fun b e => ?_, fun h b hh e => ?_⟩
    · by_cases hm : c = 34 ∧ b = false
      · obtain ⟨rfl, rfl⟩ := hm
        simp only [omS, and_self, if_true] at e
        simp only [sh, if_true, and_self]
        rw [ih.2 [34] false (by simp) (by simpa using e)]
        rfl
      · simp only [omS, if_neg hm] at e
        simp only [sh, if_true, if_neg hm]
        rw [ih.1 _ e]
    · by_cases hm : c = 34 ∧ b = false
      · obtain ⟨rfl, rfl⟩ := hm
        simp [omS] at e
      · simp only [omS, if_neg hm] at e
        simp only [sh, if_neg hh, if_neg hm]
        rw [ih.2 _ _ (by simp) e]
        simp

theorem om_of_sh (t : Tx) : (∀ b, (omS (sh [] b t) b false).isSome = true) ∧
    (∀ x b, (omS x false true) = some (b, true) → (omS (sh (34 :: x) b t) false false).isSome = true) := by
  induction t with
  | nil => exact ⟨fun b => rfl, fun x b e => by simp [sh, omS, e]⟩
  | cons c r ih =>
    refine ⟨fun b => ?_, fun x b e => ?_⟩
    · by_cases hm : c = 34 ∧ b = false
      · obtain ⟨rfl, rfl⟩ := hm
        simp only [sh, if_true, and_self]
        exact ih.2 [] false rfl
      · simp only [sh, if_true, if_neg hm, omS]
        exact ih.1 _
    · by_cases hm : c = 34 ∧ b = false
      · obtain ⟨rfl, rfl⟩ := hm
        simp only [sh, and_self, if_true]
        rw [if_neg (by simp)]
        exact ih.1 false
      · simp only [sh, if_neg hm]
        rw [if_neg (by simp)]
        refine ih.2 (x ++ [c]) _ ?_
        rw [omS_append, e]
        simp [omS, if_neg hm]

theorem shorn_shorn (t : Tx) : shorn (shorn t) = shorn t := (sh_of_om _).1 false ((om_of_sh t).1 false)

theorem mem_sh {c : Nat} (t : Tx) : ∀ h b, c ∈ sh h b t → c ∈ h ∨ c ∈ t := by
  induction t with
  | nil => intro h b m; exact .inl m
  | cons d r ih =>
    intro h b m
    simp only [sh] at m
    split at m
    · split at m
      · rcases ih _ _ m with m | m
        · simp at m; simp [m]
        · simp [m]
      · rcases List.mem_cons.mp m with m | m
        · simp [m]
        · rcases ih _ _ m with m | m
          · cases m
          · simp [m]
    · split at m
      · rcases ih _ _ m with m | m
        · cases m
        · simp [m]
      · rcases ih _ _ m with m | m
        · rcases List.mem_append.mp m with m | m
          · exact .inl m
          · simp at m; simp [m]
        · simp [m]
theorem mem_shorn {c : Nat} {t : Tx} (m : c ∈ shorn t) : c ∈ t := by
  rcases mem_sh t [] false m with m | m
  · cases m
  · exact m
theorem shorn_free {t : Tx} (h : 34 ∉ t) : shorn t = t := by
  refine (sh_of_om t).1 false ?_
  have : ∀ (t : Tx) b s, 34 ∉ t → (omS t b s).isSome = true := by
    intro t
    induction t with
    | nil => intro b s _; rfl
    | cons c r ih =>
      intro b s h
      simp only [List.mem_cons, not_or] at h
      simp only [omS]
      rw [if_neg (fun q => h.1 q.1.symm)]
      exact ih _ _ h.2
  exact this t _ _ h

/-! ## named -/
noncomputable def nmF (p : Nat → Bool) (acc : Tx) : Tx → Tx
  | [] => acc
  | c :: r => if p c = true then nmF p (if c = 46 then [] else acc ++ [c]) r else acc
noncomputable def named (p : Nat → Bool) (t : Tx) : Tx := nmF p [] t
noncomputable def pE : Nat → Bool := fun c => c != 58 && c != 10
noncomputable def pC : Nat → Bool := fun c => c != 58

theorem nmF_good {p : Nat → Bool} (t : Tx) : ∀ acc, (∀ c ∈ acc, p c = true ∧ c ≠ 46) → ∀ c ∈ nmF p acc t, p c = true ∧ c ≠ 46 := by
  induction t with
  | nil => intro acc h; exact h
  | cons d r ih =>
    intro acc h
    simp only [nmF]
    split
    · rename_i hp
      refine ih _ ?_
      split
      · intro c hc; cases hc
      · rename_i h46
        intro c hc
        rcases List.mem_append.mp hc with hc | hc
        · exact h c hc
        · simp at hc; subst hc; exact ⟨hp, h46⟩
    · exact h
theorem named_good {p : Nat → Bool} (t : Tx) : ∀ c ∈ named p t, p c = true ∧ c ≠ 46 := nmF_good t [] (by intro c h; cases h)
theorem nmF_id {p : Nat → Bool} (t : Tx) : ∀ acc, (∀ c ∈ t, p c = true ∧ c ≠ 46) → nmF p acc t = acc ++ t := by
  induction t with
  | nil => intro acc _; simp [nmF]
  | cons d r ih =>
    intro acc h
    have hd := h d (by simp)
    simp only [nmF, hd.1, if_true, if_neg hd.2]
    rw [ih _ fun c hc => h c (by simp [hc])]
    simp
theorem named_id {p : Nat → Bool} {t : Tx} (h : ∀ c ∈ t, p c = true ∧ c ≠ 46) : named p t = t := by
  unfold named; rw [nmF_id t [] h]; rfl
theorem named_named {p q : Nat → Bool} (hpq : ∀ c, p c = true → q c = true) (t : Tx) : named q (named p t) = named p t :=
  named_id fun c hc => ⟨hpq c (named_good t c hc).1, (named_good t c hc).2⟩
theorem named_shorn_named {p q : Nat → Bool} (hpq : ∀ c, p c = true → q c = true) (t : Tx) : named q (shorn (named p t)) = shorn (named p t) :=
  named_id fun c hc => ⟨hpq c (named_good t c (mem_shorn hc)).1, (named_good t c (mem_shorn hc)).2⟩


theorem om_nmF {p : Nat → Bool} (t : Tx) : ∀ (acc : Tx) (b s₁ s₂ : Bool), omS acc false false = some (b, s₁) → (omS t b s₂).isSome = true → (s₁ = true → s₂ = true) →
    (omS (nmF p acc t) false false).isSome = true := by
  induction t with
  | nil => intro acc b s₁ s₂ h _ _; simp [nmF, h]
  | cons c r ih =>
    intro acc b s₁ s₂ h h2 h3
    simp only [nmF]
    split
    · by_cases h46 : c = 46
      · subst h46
        rw [if_pos rfl]
        refine ih [] false false s₂ rfl ?_ (by simp)
        simpa [omS] using h2
      · rw [if_neg h46]
        by_cases hm : c = 34 ∧ b = false
        · obtain ⟨rfl, rfl⟩ := hm
          simp only [omS, and_self, if_true] at h2
          have hs : s₂ = false := by
            cases s₂ with
            | false => rfl
            | true => simp at h2
          subst hs
          have hs1 : s₁ = false := by
            cases s₁ with
            | false => rfl
            | true => exact absurd (h3 rfl) (by simp)
          subst hs1
          refine ih _ false true true ?_ (by simpa using h2) (fun x => x)
          rw [omS_append, h]; simp [omS]
        · simp only [omS, if_neg hm] at h2
          refine ih _ _ s₁ s₂ ?_ h2 h3
          rw [omS_append, h]; simp [omS, if_neg hm]
    · simp [h]
theorem shorn_named_shorn {p : Nat → Bool} (t : Tx) : shorn (named p (shorn t)) = named p (shorn t) :=
  (sh_of_om _).1 false (om_nmF _ [] false false false rfl ((om_of_sh t).1 false) (fun x => x))

/-! ## writers -/
noncomputable def ex (e : Nat → Tx) (t : Tx) : Tx := t.flatMap e
theorem ex_nil_iff {e : Nat → Tx} (he : ∀ c, e c ≠ []) (t : Tx) : ex e t = [] ↔ t = [] := by
  cases t with
  | nil => simp [ex]
  | cons c r => simp [ex, he c]

theorem sh_word (w : Tx) (hw : ∀ c ∈ w, c ≠ 34 ∧ c ≠ 92) (hne : w ≠ []) (r : Tx) : ∀ b, sh [] b (w ++ r) = w ++ sh [] false r := by
  induction w with
  | nil => exact absurd rfl hne
  | cons c v ih =>
    intro b
    have hc := hw c (by simp)
    have h1 : ¬ (c = 34 ∧ b = false) := fun q => hc.1 q.1
    have h2 : decide (c = 92 ∧ b = false) = false := decide_eq_false fun q => hc.2 q.1
    rw [List.cons_append, sh, if_pos rfl, if_neg h1, h2]
    cases v with
    | nil => rfl
    | cons d v => rw [ih (fun c hc => hw c (List.mem_cons_of_mem _ hc)) (by simp)]; rfl
theorem sh_wordH (w : Tx) (hw : ∀ c ∈ w, c ≠ 34 ∧ c ≠ 92) (hne : w ≠ []) (r : Tx) : ∀ b h, h ≠ [] → sh h b (w ++ r) = sh (h ++ w) false r := by
  induction w with
  | nil => exact absurd rfl hne
  | cons c v ih =>
    intro b h hh
    have hc := hw c (by simp)
    have h1 : ¬ (c = 34 ∧ b = false) := fun q => hc.1 q.1
    have h2 : decide (c = 92 ∧ b = false) = false := decide_eq_false fun q => hc.2 q.1
    rw [List.cons_append, sh, if_neg hh, if_neg h1, h2]
    cases v with
    | nil => rfl
    | cons d v => rw [ih (fun c hc => hw c (List.mem_cons_of_mem _ hc)) (by simp) _ _ (by simp)]; simp

structure Plain34 (e : Nat → Tx) : Prop where
  q : e 34 = [34]
  b : e 92 = [92]
  r : ∀ c, c ≠ 34 → c ≠ 92 → e c ≠ [] ∧ ∀ d ∈ e c, d ≠ 34 ∧ d ≠ 92
theorem Plain34.ne {e : Nat → Tx} (P : Plain34 e) (c : Nat) : e c ≠ [] := by
  by_cases h1 : c = 34
  · subst h1; rw [P.q]; simp
  · by_cases h2 : c = 92
    · subst h2; rw [P.b]; simp
    · exact (P.r c h1 h2).1
theorem sh_ex {e : Nat → Tx} (P : Plain34 e) (t : Tx) : ∀ h b, sh (ex e h) b (ex e t) = ex e (sh h b t) := by
  induction t with
  | nil => intro h b; rfl
  | cons c r ih =>
    intro h b
    have ec : ex e (c :: r) = e c ++ ex e r := rfl
    rw [ec]
    by_cases hh : h = []
    · subst hh
      show sh [] b _ = _
      by_cases h1 : c = 34
      · subst h1
        rw [P.q]
        cases b with
        | false =>
          have := ih [34] false
          rw [show ex e [34] = [34] by simp [ex, P.q]] at this
          simp only [List.cons_append, List.nil_append, sh, if_true, and_self]
          exact this
        | true =>
          have := ih [] false
          have h5 : ∀ u : Tx, sh [] true (34 :: u) = 34 :: sh [] false u := fun u => by simp [sh]
          show sh [] true (34 :: ex e r) = _
          rw [h5, h5, show ex e (34 :: sh [] false r) = 34 :: ex e (sh [] false r) by simp [ex, P.q]]
          exact congrArg _ this
      · by_cases h2 : c = 92
        · subst h2
          rw [P.b]
          have hu : ∀ u, ex e (92 :: u) = 92 :: ex e u := fun u => by simp [ex, P.b]
          have h5 : ∀ u : Tx, sh [] b (92 :: u) = 92 :: sh [] (decide (92 = 92 ∧ b = false)) u := fun u => by
            rw [sh, if_pos rfl, if_neg (fun q => absurd q.1 (by decide))]
          show sh [] b (92 :: ex e r) = _
          rw [h5, h5, hu]
          exact congrArg _ (ih [] _)
        · have hw := P.r c h1 h2
          rw [sh_word (e c) hw.2 hw.1]
          have h3 : ¬ (c = 34 ∧ b = false) := fun q => h1 q.1
          have h4 : decide (c = 92 ∧ b = false) = false := decide_eq_false fun q => h2 q.1
          simp only [sh, if_true, if_neg h3, h4]
          rw [show ∀ u, ex e (c :: u) = e c ++ ex e u from fun u => rfl, ← ih [] false]
          rfl
    · have hh' : ex e h ≠ [] := fun q => hh ((ex_nil_iff P.ne h).mp q)
      by_cases h1 : c = 34
      · subst h1
        rw [P.q]
        cases b with
        | false =>
          have := ih [] false
          simp only [List.cons_append, List.nil_append, sh, if_neg hh, if_neg hh', and_self, if_true]
          exact this
        | true =>
          have := ih (h ++ [34]) false
          have h5 : ∀ (g u : Tx), g ≠ [] → sh g true (34 :: u) = sh (g ++ [34]) false u := fun g u hg => by simp [sh, hg]
          show sh (ex e h) true (34 :: ex e r) = _
          rw [h5 _ _ hh', h5 _ _ hh, ← this, show ex e (h ++ [34]) = ex e h ++ [34] by simp [ex, P.q]]
      · by_cases h2 : c = 92
        · subst h2
          rw [P.b]
          have h5 : ∀ (g u : Tx), g ≠ [] → sh g b (92 :: u) = sh (g ++ [92]) (decide (92 = 92 ∧ b = false)) u := fun g u hg => by
            rw [sh, if_neg hg, if_neg (fun q => absurd q.1 (by decide))]
          have := ih (h ++ [92]) (decide (92 = 92 ∧ b = false))
          show sh (ex e h) b (92 :: ex e r) = _
          rw [h5 _ _ hh', h5 _ _ hh, ← this, show ex e (h ++ [92]) = ex e h ++ [92] by simp [ex, P.b]]
        · have hw := P.r c h1 h2
          rw [sh_wordH (e c) hw.2 hw.1 _ _ _ hh']
          have h3 : ¬ (c = 34 ∧ b = false) := fun q => h1 q.1
          have h4 : decide (c = 92 ∧ b = false) = false := decide_eq_false fun q => h2 q.1
          simp only [sh, if_neg hh, if_neg h3, h4]
          rw [← ih (h ++ [c]) false, show ex e (h ++ [c]) = ex e h ++ e c by simp [ex]]
theorem shorn_ex {e : Nat → Tx} (P : Plain34 e) (t : Tx) : shorn (ex e t) = ex e (shorn t) := sh_ex P t [] false

structure PlainN (p q : Nat → Bool) (e : Nat → Tx) : Prop where
  d : e 46 = [46]
  p46 : p 46 = true
  q46 : q 46 = true
  stop : ∀ c, q c = false → e c = [c] ∧ p c = false
  r : ∀ c, q c = true → c ≠ 46 → ∀ x ∈ e c, p x = true ∧ x ≠ 46
theorem nmF_word {p : Nat → Bool} (w r : Tx) : ∀ a, (∀ x ∈ w, p x = true ∧ x ≠ 46) → nmF p a (w ++ r) = nmF p (a ++ w) r := by
  induction w with
  | nil => intro a _; simp
  | cons c v ih =>
    intro a h
    have hc := h c (by simp)
    simp only [List.cons_append, nmF, hc.1, if_true, if_neg hc.2]
    rw [ih _ fun x hx => h x (by simp [hx])]
    simp
theorem nmF_ex {p q : Nat → Bool} {e : Nat → Tx} (P : PlainN p q e) (t : Tx) : ∀ a, nmF p (ex e a) (ex e t) = ex e (nmF q a t) := by
  induction t with
  | nil => intro a; rfl
  | cons c r ih =>
    intro a
    have ec : ex e (c :: r) = e c ++ ex e r := rfl
    rw [ec]
    cases hq : q c with
    | false =>
      obtain ⟨e1, e2⟩ := P.stop c hq
      rw [e1]
      simp [nmF, e2, hq]
    | true =>
      by_cases h46 : c = 46
      · subst h46
        rw [P.d]
        have := ih []
        simp only [List.cons_append, List.nil_append, nmF, P.p46, P.q46, if_true]
        simpa [ex] using this
      · rw [nmF_word _ _ _ (P.r c hq h46)]
        have := ih (a ++ [c])
        rw [show ex e (a ++ [c]) = ex e a ++ e c by simp [ex]] at this
        simp only [nmF, hq, if_true, if_neg h46]
        exact this
theorem named_ex {p q : Nat → Bool} {e : Nat → Tx} (P : PlainN p q e) (t : Tx) : named p (ex e t) = ex e (named q t) := nmF_ex P t []

theorem ex_free {e : Nat → Tx} (h : ∀ c, 34 ∉ e c) (t : Tx) : 34 ∉ ex e t := by
  simp only [ex, List.mem_flatMap, not_exists, not_and]
  intro c _; exact h c
theorem ex_ex (e f : Nat → Tx) (t : Tx) : ex f (ex e t) = ex (fun c => ex f (e c)) t := by
  simp [ex, List.flatMap_assoc]
end Mine
end
/- PURE2 -/
section
set_option autoImplicit false
set_option genSizeOf false
set_option genInjectivity false
namespace Mine
/-! ## the ways, the tables -/
noncomputable def left (t : Tx) : List Tx := [t, shorn t, named pE t, shorn (named pE t), named pE (shorn t), named pC t, named pC (shorn t)]
noncomputable abbrev Tab := List (Nat × Tx)
noncomputable def eT (tab : Tab) (c : Nat) : Tx := (tab.lookup c).getD [c]
noncomputable def amp : Tx := [38, 97, 109, 112, 59]
noncomputable def words : Nat → List Tx
  | 0 => [[38, 97, 109, 112, 59], [60, 108, 116, 59], [62, 103, 116, 59]]
  | 1 => [[38, 97, 109, 112, 59], [60, 108, 116, 59], [62, 103, 116, 59], [34, 113, 117, 111, 116, 59], [13, 35, 49, 51, 59], [10, 35, 49, 48, 59], [9, 35, 48, 57, 59]]
  | 2 => [[38, 97, 109, 112, 59], [62, 103, 116, 59], [34, 113, 117, 111, 116, 59]]
  | 3 => [[38, 97, 109, 112, 59], [60, 108, 116, 59], [62, 103, 116, 59], [13, 35, 120, 68, 59]]
  | _ => [[38, 97, 109, 112, 59], [60, 108, 116, 59], [34, 113, 117, 111, 116, 59], [13, 35, 120, 68, 59], [10, 35, 120, 65, 59], [9, 35, 120, 57, 59]]
noncomputable def tabAdd (tab : Tab) (word : Tx) : Tab := if (tab.lookup (word.headD 0)).isSome then tab else tab ++ [(word.headD 0, 38 :: word.drop 1)]
noncomputable def tabAmp (tab : Tab) : Tab := tab.map fun kv => (kv.1, amp ++ kv.2.drop 1)
noncomputable def tabStep (tab : Tab) (hand : Nat) : Tab := (words hand).foldl tabAdd (tabAmp tab)
noncomputable def tabOf (hands : List Nat) : Tab := hands.foldl tabStep []
noncomputable def waysN (hands : List Nat) : Nat := if 1 ∈ hands ∨ 4 ∈ hands then 7 else 5

theorem lookup_mem {tab : Tab} {c : Nat} {v : Tx} (h : tab.lookup c = some v) : (c, v) ∈ tab := by
  induction tab with
  | nil => cases h
  | cons kv r ih =>
    obtain ⟨k, u⟩ := kv
    rw [List.lookup_cons] at h
    split at h
    · rename_i hb
      cases h
      simp at hb
      simp [hb]
    · exact List.mem_cons_of_mem _ (ih h)

noncomputable def chk34 (tab : Tab) : Bool := (tab.lookup 34).isNone && (tab.lookup 92).isNone && tab.all fun kv => !kv.2.isEmpty && kv.2.all fun d => d != 34 && d != 92
noncomputable def chkF (tab : Tab) : Bool := (tab.lookup 34).isSome && tab.all fun kv => kv.2.all fun d => d != 34
noncomputable def chkN (tab : Tab) : Bool := (tab.lookup 46).isNone && (tab.lookup 58).isNone && tab.all fun kv => kv.2.all fun d => pE d && d != 46
noncomputable def chkE (tab : Tab) : Bool := chkN tab && (tab.lookup 10).isNone
noncomputable def chkC (tab : Tab) : Bool := chkN tab && (tab.lookup 10).isSome

theorem plain34_of {tab : Tab} (h : chk34 tab = true) : Plain34 (eT tab) := by
  simp only [chk34, Bool.and_eq_true, List.all_eq_true, Option.isNone_iff_eq_none, bne_iff_ne] at h
  obtain ⟨⟨h1, h2⟩, h3⟩ := h
  refine ⟨by simp [eT, h1], by simp [eT, h2], fun c c1 c2 => ?_⟩
  unfold eT
  cases e : tab.lookup c with
  | none => simp [c1, c2]
  | some v =>
    have := h3 _ (lookup_mem e)
    simp at this
    exact ⟨by simpa using this.1, fun d hd => this.2 d hd⟩
theorem free_of {tab : Tab} (h : chkF tab = true) : ∀ c, 34 ∉ eT tab c := by
  simp only [chkF, Bool.and_eq_true, List.all_eq_true, bne_iff_ne] at h
  intro c
  unfold eT
  cases e : tab.lookup c with
  | none =>
    simp
    rintro rfl
    rw [e] at h; simp at h
  | some v =>
    intro hm
    exact h.2 _ (lookup_mem e) 34 hm rfl
theorem plainE_of {tab : Tab} (h : chkE tab = true) : PlainN pE pE (eT tab) := by
  simp only [chkE, chkN, Bool.and_eq_true, List.all_eq_true, Option.isNone_iff_eq_none, bne_iff_ne] at h
  obtain ⟨⟨⟨h1, h2⟩, h3⟩, h4⟩ := h
  refine ⟨by simp [eT, h1], rfl, rfl, fun c hc => ?_, fun c hc c46 x hx => ?_⟩
  · refine ⟨?_, hc⟩
    simp [pE] at hc
    by_cases q : c = 58
    · subst q; simp [eT, h2]
    · have := hc q; subst this; simp [eT, h4]
  · unfold eT at hx
    cases e : tab.lookup c with
    | none => rw [e] at hx; simp at hx; subst hx; exact ⟨hc, c46⟩
    | some v => rw [e] at hx; exact h3 _ (lookup_mem e) x hx
theorem plainC_of {tab : Tab} (h : chkC tab = true) : PlainN pE pC (eT tab) := by
  simp only [chkC, chkN, Bool.and_eq_true, List.all_eq_true, Option.isNone_iff_eq_none, bne_iff_ne] at h
  obtain ⟨⟨⟨h1, h2⟩, h3⟩, h4⟩ := h
  refine ⟨by simp [eT, h1], rfl, rfl, fun c hc => ?_, fun c hc c46 x hx => ?_⟩
  · simp [pC] at hc
    subst hc
    exact ⟨by simp [eT, h2], rfl⟩
  · unfold eT at hx
    cases e : tab.lookup c with
    | none =>
      rw [e] at hx; simp at hx; subst hx
      simp [pC] at hc
      refine ⟨?_, c46⟩
      simp [pE, hc]
      rintro rfl
      rw [e] at h4; simp at h4
    | some v => rw [e] at hx; exact h3 _ (lookup_mem e) x hx

/-! ## what the two hands do to the ways -/
noncomputable def N5 (w : Nat) : Nat := [2, 4, 2, 3, 4].getD w w
noncomputable def N7 (w : Nat) : Nat := [5, 6, 2, 3, 4, 5, 6].getD w w
noncomputable def S5 (w : Nat) : Nat := [1, 1, 3, 3, 4].getD w w
noncomputable def at' (t : Tx) (w : Nat) : Tx := (left t).getD w []
theorem pE_pC : ∀ c, pE c = true → pC c = true := by
  intro c h; simp [pE] at h; simp [pC, h.1]
theorem shorn_at (t : Tx) : ∀ w, w < 5 → shorn (at' t w) = at' t (S5 w)
  | 0, _ => rfl
  | 1, _ => shorn_shorn t
  | 2, _ => rfl
  | 3, _ => shorn_shorn _
  | 4, _ => shorn_named_shorn t
  | w + 5, h => absurd h (Nat.not_lt.mpr (Nat.le_add_left 5 w))
theorem named_at (t : Tx) : ∀ w, w < 5 → named pE (at' t w) = at' t (N5 w)
  | 0, _ => rfl
  | 1, _ => rfl
  | 2, _ => named_named (fun _ h => h) t
  | 3, _ => named_shorn_named (fun _ h => h) t
  | 4, _ => named_named (fun _ h => h) _
  | w + 5, h => absurd h (Nat.not_lt.mpr (Nat.le_add_left 5 w))
theorem namedC_at (t : Tx) : ∀ w, w < 7 → named pC (at' t w) = at' t (N7 w)
  | 0, _ => rfl
  | 1, _ => rfl
  | 2, _ => named_named pE_pC t
  | 3, _ => named_shorn_named pE_pC t
  | 4, _ => named_named pE_pC _
  | 5, _ => named_named (fun _ h => h) _
  | 6, _ => named_named (fun _ h => h) _
  | w + 7, h => absurd h (Nat.not_lt.mpr (Nat.le_add_left 7 w))

/-- the kinds of a row of hands: nothing of the mark or the line end spelt, the mark spelt, both spelt -/
inductive Kind where
  | A | B | C
noncomputable def Kind.chk : Kind → Tab → Bool
  | .A, tab => chk34 tab && chkE tab
  | .B, tab => chkF tab && chkE tab
  | .C, tab => chkF tab && chkC tab
noncomputable def Kind.S : Kind → Nat → Nat
  | .A => S5
  | _ => id
noncomputable def Kind.N : Kind → Nat → Nat
  | .C => N7
  | _ => N5
noncomputable def Kind.ways : Kind → Nat
  | .C => 7
  | _ => 5
theorem kind_S {k : Kind} {tab : Tab} (h : k.chk tab = true) (t : Tx) {w : Nat} (hw : w < k.ways) : shorn (ex (eT tab) (at' t w)) = ex (eT tab) (at' t (k.S w)) := by
  cases k with
  | A => simp only [Kind.chk, Bool.and_eq_true] at h; rw [shorn_ex (plain34_of h.1), shorn_at t w hw]; rfl
  | B => simp only [Kind.chk, Bool.and_eq_true] at h; exact shorn_free (ex_free (free_of h.1) _)
  | C => simp only [Kind.chk, Bool.and_eq_true] at h; exact shorn_free (ex_free (free_of h.1) _)
theorem kind_N {k : Kind} {tab : Tab} (h : k.chk tab = true) (t : Tx) {w : Nat} (hw : w < k.ways) : named pE (ex (eT tab) (at' t w)) = ex (eT tab) (at' t (k.N w)) := by
  cases k with
  | A => simp only [Kind.chk, Bool.and_eq_true] at h; rw [named_ex (plainE_of h.2), named_at t w hw]; rfl
  | B => simp only [Kind.chk, Bool.and_eq_true] at h; rw [named_ex (plainE_of h.2), named_at t w hw]; rfl
  | C => simp only [Kind.chk, Bool.and_eq_true] at h; rw [named_ex (plainC_of h.2), namedC_at t w hw]; rfl
theorem Kind.S_lt (k : Kind) {w : Nat} (hw : w < k.ways) : k.S w < k.ways := by
  cases k with
  | A => simp only [Kind.ways] at *; match w, hw with | 0, _ => decide | 1, _ => decide | 2, _ => decide | 3, _ => decide | 4, _ => decide | w + 5, h => exact absurd h (Nat.not_lt.mpr (Nat.le_add_left 5 w))
  | B => exact hw
  | C => exact hw
theorem Kind.N_lt (k : Kind) {w : Nat} (hw : w < k.ways) : k.N w < k.ways := by
  cases k with
  | A => simp only [Kind.ways] at *; match w, hw with | 0, _ => decide | 1, _ => decide | 2, _ => decide | 3, _ => decide | 4, _ => decide | w + 5, h => exact absurd h (Nat.not_lt.mpr (Nat.le_add_left 5 w))
  | B => simp only [Kind.ways] at *; match w, hw with | 0, _ => decide | 1, _ => decide | 2, _ => decide | 3, _ => decide | 4, _ => decide | w + 5, h => exact absurd h (Nat.not_lt.mpr (Nat.le_add_left 5 w))
  | C => simp only [Kind.ways] at *; match w, hw with | 0, _ => decide | 1, _ => decide | 2, _ => decide | 3, _ => decide | 4, _ => decide | 5, _ => decide | 6, _ => decide | w + 7, h => exact absurd h (Nat.not_lt.mpr (Nat.le_add_left 7 w))

/-! ## pairs -/
noncomputable abbrev PT := Tx × Tx
noncomputable def SP (p : PT) : PT := (shorn p.1, shorn p.2)
noncomputable def NP (p : PT) : PT := (named pE p.1, named pE p.2)
noncomputable def pairAt (hands : List Nat) (t u : Tx) (w : Nat) : PT := (ex (eT (tabOf hands)) (at' t w), ex (eT (tabOf hands)) (at' u w))
noncomputable def stage (hands : List Nat) (t u : Tx) : List PT := (List.range (waysN hands)).map (pairAt hands t u)
noncomputable def ClosedP (l : List PT) : Prop := ∀ p ∈ l, SP p ∈ l ∧ NP p ∈ l

noncomputable def kindOf (hands : List Nat) : Kind := if 1 ∈ hands ∨ 4 ∈ hands then .C else if 2 ∈ hands then .B else .A
theorem ways_kind (hands : List Nat) : waysN hands = (kindOf hands).ways := by
  unfold waysN kindOf
  split
  · rfl
  · split <;> rfl

theorem SP_at {hands : List Nat} (h : (kindOf hands).chk (tabOf hands) = true) (t u : Tx) {w : Nat} (hw : w < waysN hands) : SP (pairAt hands t u w) = pairAt hands t u ((kindOf hands).S w) := by
  rw [ways_kind] at hw
  simp only [SP, pairAt, kind_S h _ hw]
theorem NP_at {hands : List Nat} (h : (kindOf hands).chk (tabOf hands) = true) (t u : Tx) {w : Nat} (hw : w < waysN hands) : NP (pairAt hands t u w) = pairAt hands t u ((kindOf hands).N w) := by
  rw [ways_kind] at hw
  simp only [NP, pairAt, kind_N h _ hw]
theorem stage_closed {hands : List Nat} (h : (kindOf hands).chk (tabOf hands) = true) (t u : Tx) : ClosedP (stage hands t u) := by
  intro p hp
  simp only [stage, List.mem_map, List.mem_range] at hp ⊢
  obtain ⟨w, hw, rfl⟩ := hp
  have hw' := hw
  rw [ways_kind] at hw'
  exact ⟨⟨_, by rw [ways_kind]; exact (kindOf hands).S_lt hw', (SP_at h t u hw).symm⟩, ⟨_, by rw [ways_kind]; exact (kindOf hands).N_lt hw', (NP_at h t u hw).symm⟩⟩

/-- the rows of hands that the law makes -/
inductive Row : List Nat → Prop
  | none : Row []
  | one {a : Nat} : a < 5 → Row [a]
  | two {a b : Nat} : a < 5 → b < 5 → Row [a, b]
noncomputable def rows : List (List Nat) := [] :: ((List.range 5).map fun a => [a]) ++ (List.range 5).flatMap fun a => (List.range 5).map fun b => [a, b]
theorem Row.mem {hands : List Nat} (h : Row hands) : hands ∈ rows := by
  cases h with
  | none => simp [rows]
  | one h => simp [rows]; exact h
  | two h1 h2 => simp [rows]; exact ⟨h1, h2⟩
theorem rows_chk : ∀ hands ∈ rows, (kindOf hands).chk (tabOf hands) = true := by decide +kernel
theorem Row.chk {hands : List Nat} (h : Row hands) : (kindOf hands).chk (tabOf hands) = true := rows_chk _ h.mem

/-- the text that is ever the same -/
noncomputable def txt0 : Tx := [38, 34, 46, 34, 92, 34, 34, 60, 34, 10, 46, 62, 34, 46, 34, 13, 58, 9]
noncomputable def nodupB : List Tx → Bool
  | [] => true
  | a :: r => !r.contains a && nodupB r
theorem nodupB_spec : ∀ {l : List Tx}, nodupB l = true → l.Nodup
  | [], _ => .nil
  | a :: r, h => by
    simp only [nodupB, Bool.and_eq_true, Bool.not_eq_true', List.contains_eq_mem, decide_eq_false_iff_not] at h
    exact List.nodup_cons.mpr ⟨h.1, nodupB_spec h.2⟩
theorem rows_nodup : ∀ hands ∈ rows, nodupB ((List.range (waysN hands)).map fun w => ex (eT (tabOf hands)) (at' txt0 w)) = true := by decide +kernel
theorem nodup_of_map {α β : Type} {f : α → β} : ∀ {l : List α}, (l.map f).Nodup → l.Nodup
  | [], _ => .nil
  | a :: r, h => by
    rw [List.map_cons, List.nodup_cons] at h
    exact List.nodup_cons.mpr ⟨fun m => h.1 (List.mem_map_of_mem m), nodup_of_map h.2⟩
theorem stage_nodup {hands : List Nat} (h : Row hands) (u : Tx) : (stage hands txt0 u).Nodup := by
  refine nodup_of_map (f := Prod.fst) ?_
  have := nodupB_spec (rows_nodup _ h.mem)
  simp only [stage, List.map_map]
  exact this

/-! ## one more hand -/
noncomputable def U7 : List Nat := [38, 60, 62, 34, 13, 10, 9]
theorem rows_keys : ∀ hands ∈ rows, ((tabOf hands).all fun kv => U7.contains kv.1) = true := by decide +kernel
theorem eT_out {hands : List Nat} (h : Row hands) {c : Nat} (hc : c ∉ U7) : eT (tabOf hands) c = [c] := by
  unfold eT
  cases e : (tabOf hands).lookup c with
  | none => rfl
  | some v =>
    have := List.all_eq_true.mp (rows_keys _ h.mem) _ (lookup_mem e)
    simp only [List.contains_eq_mem, decide_eq_true_eq] at this
    exact absurd this hc
theorem more_in0 : ∀ b ∈ List.range 5, ∀ c ∈ U7, ex (eT (tabOf [b])) (eT (tabOf []) c) = eT (tabOf [b]) c := by decide +kernel
theorem more_in1 : ∀ a ∈ List.range 5, ∀ b ∈ List.range 5, ∀ c ∈ U7, ex (eT (tabOf [b])) (eT (tabOf [a]) c) = eT (tabOf [a, b]) c := by decide +kernel
/-- a row of hands that takes one more -/
inductive More : List Nat → Nat → Prop
  | none {b : Nat} : b < 5 → More [] b
  | one {a b : Nat} : a < 5 → b < 5 → More [a] b
theorem More.row {hs : List Nat} {b : Nat} (h : More hs b) : Row hs := by
  cases h with
  | none h => exact .none
  | one h1 h2 => exact .one h1
theorem More.next {hs : List Nat} {b : Nat} (h : More hs b) : Row (hs ++ [b]) := by
  cases h with
  | none h => exact .one h
  | one h1 h2 => exact .two h1 h2
theorem More.lt {hs : List Nat} {b : Nat} (h : More hs b) : b < 5 := by cases h <;> assumption
theorem more_eT {hs : List Nat} {b : Nat} (h : More hs b) (c : Nat) : ex (eT (tabOf [b])) (eT (tabOf hs) c) = eT (tabOf (hs ++ [b])) c := by
  by_cases hc : c ∈ U7
  · cases h with
    | none h => exact more_in0 b (List.mem_range.mpr h) c hc
    | one h1 h2 => exact more_in1 _ (List.mem_range.mpr h1) b (List.mem_range.mpr h2) c hc
  · rw [eT_out h.row hc, eT_out h.next hc]
    show eT (tabOf [b]) c ++ [] = [c]
    rw [eT_out (.one h.lt) hc]; rfl
noncomputable def EP (b : Nat) (p : PT) : PT := (ex (eT (tabOf [b])) p.1, ex (eT (tabOf [b])) p.2)
theorem more_at {hs : List Nat} {b : Nat} (h : More hs b) (t u : Tx) (w : Nat) : EP b (pairAt hs t u w) = pairAt (hs ++ [b]) t u w := by
  simp only [EP, pairAt, ex_ex]
  rw [show (fun c => ex (eT (tabOf [b])) (eT (tabOf hs) c)) = eT (tabOf (hs ++ [b])) from funext (more_eT h)]
theorem waysN_more (hs : List Nat) (b : Nat) : waysN hs ≤ waysN (hs ++ [b]) := by
  unfold waysN
  split
  · rename_i h
    rw [if_pos (by simp only [List.mem_append]; rcases h with h | h <;> simp [h])]
    exact Nat.le_refl _
  · split
    · exact Nat.le_of_ble_eq_true rfl
    · exact Nat.le_refl _
theorem waysN_cases (hs : List Nat) : waysN hs = 5 ∨ waysN hs = 7 := by
  unfold waysN
  split
  · exact .inr rfl
  · exact .inl rfl
theorem waysN_le (hs : List Nat) : waysN hs ≤ 7 := (waysN_cases hs).elim (fun e => e ▸ Nat.le_of_ble_eq_true rfl) fun e => Nat.le_of_eq e
theorem waysN_ge (hs : List Nat) : 5 ≤ waysN hs := (waysN_cases hs).elim (fun e => Nat.le_of_eq e.symm) fun e => e ▸ Nat.le_of_ble_eq_true rfl

/-- all is reached from the first hand's pairs on -/
theorem stage_full {hs : List Nat} {b : Nat} (h : More hs b) (t u : Tx) {out : List PT} (hc : ClosedP out) (hi : ∀ p ∈ stage hs t u, EP b p ∈ out) :
    ∀ p ∈ stage (hs ++ [b]) t u, p ∈ out := by
  have low : ∀ w, w < waysN hs → pairAt (hs ++ [b]) t u w ∈ out := fun w hw => by
    rw [← more_at h]
    exact hi _ (by simp only [stage, List.mem_map, List.mem_range]; exact ⟨w, hw, rfl⟩)
  intro p hp
  simp only [stage, List.mem_map, List.mem_range] at hp
  obtain ⟨w, hw, rfl⟩ := hp
  by_cases hl : w < waysN hs
  · exact low w hl
  · have h5 := waysN_ge hs
    have hw5 : 5 ≤ w := Nat.le_trans h5 (Nat.le_of_not_lt hl)
    have h7 : waysN (hs ++ [b]) = 7 := (waysN_cases (hs ++ [b])).resolve_left fun e => absurd (Nat.lt_of_lt_of_eq hw e) (Nat.not_lt.mpr hw5)
    have low5 : ∀ w, w < 5 → w < waysN hs := fun w h => Nat.lt_of_lt_of_le h h5
    have low7 : ∀ w, w < 5 → w < waysN (hs ++ [b]) := fun w h => Nat.lt_of_lt_of_le h (waysN_ge _)
    have hk : kindOf (hs ++ [b]) = .C := by
      have e := ways_kind (hs ++ [b])
      rw [h7] at e
      cases k : kindOf (hs ++ [b]) with
      | C => rfl
      | A => rw [k] at e; cases e
      | B => rw [k] at e; cases e
    have n0 := NP_at h.next.chk t u (w := 0) (low7 0 (by decide))
    have n1 := NP_at h.next.chk t u (w := 1) (low7 1 (by decide))
    rw [hk] at n0 n1
    have e0 := (hc _ (low 0 (low5 0 (by decide)))).2
    have e1 := (hc _ (low 1 (low5 1 (by decide)))).2
    rw [n0] at e0
    rw [n1] at e1
    have : w = 5 ∨ w = 6 := (Nat.eq_or_lt_of_le hw5).imp Eq.symm fun q => Nat.le_antisymm (Nat.le_of_lt_succ (Nat.lt_of_lt_of_eq hw h7)) q
    rcases this with rfl | rfl
    · exact e0
    · exact e1
theorem stage_first (t u : Tx) {out : List PT} (hc : ClosedP out) (hi : (t, u) ∈ out) : ∀ p ∈ stage [] t u, p ∈ out := by
  have z : ∀ x : Tx, ex (eT (tabOf [])) x = x := fun x => by
    show x.flatMap (fun c => [c]) = x
    induction x with
    | nil => rfl
    | cons c r ih => rw [List.flatMap_cons, ih]; rfl
  have p0 : pairAt [] t u 0 ∈ out := by
    show (ex _ t, ex _ u) ∈ out
    rw [z, z]; exact hi
  have hk : ∀ w, w < 5 → w < waysN [] := fun w h => h
  have s0 := SP_at Row.none.chk t u (hk 0 (by decide))
  have n0 := NP_at Row.none.chk t u (hk 0 (by decide))
  have s2 := SP_at Row.none.chk t u (hk 2 (by decide))
  have n1 := NP_at Row.none.chk t u (hk 1 (by decide))
  have p1 : pairAt [] t u 1 ∈ out := s0 ▸ (hc _ p0).1
  have p2 : pairAt [] t u 2 ∈ out := n0 ▸ (hc _ p0).2
  have p3 : pairAt [] t u 3 ∈ out := s2 ▸ (hc _ p2).1
  have p4 : pairAt [] t u 4 ∈ out := n1 ▸ (hc _ p1).2
  intro p hp
  simp only [stage, List.mem_map, List.mem_range] at hp
  obtain ⟨w, hw, rfl⟩ := hp
  have := fiveCases (i := w) hw
  rcases this with rfl | rfl | rfl | rfl | rfl <;> assumption
theorem stage_start (t u : Tx) : (t, u) ∈ stage [] t u := by
  have z : ∀ x : Tx, ex (eT (tabOf [])) x = x := fun x => by
    show x.flatMap (fun c => [c]) = x
    induction x with
    | nil => rfl
    | cons c r ih => rw [List.flatMap_cons, ih]; rfl
  simp only [stage, List.mem_map, List.mem_range]
  refine ⟨0, by decide, ?_⟩
  show (ex _ t, ex _ u) = _
  rw [z, z]
theorem stage_more {hs : List Nat} {b : Nat} (h : More hs b) (t u : Tx) : ∀ p ∈ stage hs t u, EP b p ∈ stage (hs ++ [b]) t u := by
  intro p hp
  simp only [stage, List.mem_map, List.mem_range] at hp ⊢
  obtain ⟨w, hw, rfl⟩ := hp
  exact ⟨w, Nat.lt_of_lt_of_le hw (waysN_more hs b), (more_at h t u w).symm⟩
theorem stage_length (hs : List Nat) (t u : Tx) : (stage hs t u).length ≤ 7 := by
  simp only [stage, List.length_map, List.length_range]
  exact waysN_le hs

/-! ## sorted rows -/
noncomputable def pblt (a b : PT) : Bool := if a.1 = b.1 then decide (a.2 < b.2) else decide (a.1 < b.1)
noncomputable def SortedP (l : List PT) : Prop := l.Pairwise fun a b => pblt b a = false
theorem pblt_total {a b : PT} (h1 : pblt a b = false) (h2 : pblt b a = false) : a = b := by
  unfold pblt at h1 h2
  by_cases e : a.1 = b.1
  · rw [if_pos e] at h1
    rw [if_pos e.symm] at h2
    simp only [decide_eq_false_iff_not] at h1 h2
    exact Prod.ext e (List.le_antisymm (List.not_lt.mp h2) (List.not_lt.mp h1))
  · rw [if_neg e] at h1
    rw [if_neg (fun q => e q.symm)] at h2
    simp only [decide_eq_false_iff_not] at h1 h2
    exact absurd (List.le_antisymm (List.not_lt.mp h2) (List.not_lt.mp h1)) e
theorem sorted_uniq : ∀ {a b : List PT}, a.Perm b → SortedP a → SortedP b → a = b
  | [], _, p, _, _ => p.nil_eq
  | x :: r, b, p, ha, hb => by
    cases b with
    | nil => exact absurd p.length_eq (by simp)
    | cons y t =>
      have hx : x ∈ y :: t := p.mem_iff.mp (.head _)
      have hy : y ∈ x :: r := p.mem_iff.mpr (.head _)
      have e : x = y := by
        rcases List.mem_cons.mp hx with h | h
        · exact h
        · rcases List.mem_cons.mp hy with h' | h'
          · exact h'.symm
          · exact pblt_total ((List.pairwise_cons.mp hb).1 x h) ((List.pairwise_cons.mp ha).1 y h')
      subst e
      rw [sorted_uniq (List.Perm.cons_inv p) (List.pairwise_cons.mp ha).2 (List.pairwise_cons.mp hb).2]
theorem perm_of_nodup {α : Type} [DecidableEq α] : ∀ {a b : List α}, a.Nodup → b.Nodup → (∀ x, x ∈ a ↔ x ∈ b) → a.Perm b
  | [], b, _, _, h => by
    cases b with
    | nil => exact .nil
    | cons y t => exact absurd ((h y).mpr (.head _)) (by simp)
  | x :: r, b, ha, hb, h => by
    have hx : x ∈ b := (h x).mp (.head _)
    have p := List.perm_cons_erase hx
    refine .trans (.cons x (perm_of_nodup (List.nodup_cons.mp ha).2 (hb.erase x) fun z => ?_)) p.symm
    rw [hb.mem_erase_iff]
    constructor
    · intro hz
      refine ⟨?_, (h z).mp (List.mem_cons_of_mem _ hz)⟩
      rintro rfl
      exact (List.nodup_cons.mp ha).1 hz
    · rintro ⟨h1, h2⟩
      rcases List.mem_cons.mp ((h z).mpr h2) with q | q
      · exact absurd q h1
      · exact q
/-- what the search leaves, sorted, is the sorted row of what is due -/
theorem reached_due {hs : List Nat} (h : Row hs) {u : Tx} {out due : List PT} (hn : out.Nodup) (hs1 : SortedP out) (hsub : ∀ p ∈ out, p ∈ stage hs txt0 u) (hfull : ∀ p ∈ stage hs txt0 u, p ∈ out)
    (hd : due.Perm (stage hs txt0 u)) (hs2 : SortedP due) : out = due :=
  sorted_uniq ((perm_of_nodup hn (stage_nodup h u) fun x => ⟨hsub x, hfull x⟩).trans hd.symm) hs1 hs2
end Mine
end
/- BASE -/
section
open PySem PySem.W PyProof.Rows
set_option maxRecDepth 100000
set_option genSizeOf false
set_option genInjectivity false
namespace Mine
noncomputable abbrev pgm : Program := PySem.Challenge.rw_wa0019_01.row.prog

/-- what stays of the heap, and what the walk wants of it -/
structure Gd (w : World) (mean : ExcName → Option Value) (mg mb : Str → Option Value) (h : Heap) : Prop where
  K : (hd.heap_39 w.params).In h
  T : Top hd.view_39 (looseW hd.view_39 []) mean mg mb h

theorem Gd.keeps {w : World} {mean : ExcName → Option Value} {mg mb : Str → Option Value} {h h' : Heap} (G : Gd w mean mg mb h)
    (hk : ∀ b o, h.get? b = some o → h'.get? b = some o) : Gd w mean mg mb h' :=
  ⟨fun a o e => hk a o (G.K a o e), G.T.keeps hk⟩

/-- a def of the text entered, with no word of the frames beneath -/
theorem enter {w : World} {A : Around} {R : Result → Shared → Prop} {s : Shared} {mean : ExcName → Option Value} {mg mb : Str → Option Value}
    {name qual : Str} {params : Arguments} {body : List Stmt} {scope : Scope} {dV kV doc pm cdv ct oc : Value} {an od : Option Addr} {osl : Array (Option Value)}
    {f : Addr} {args : Args} {binds : List (Str × Value)}
    (G : Gd w mean mg mb s.heap) (hroom : A.depth < recursionLimit)
    (ho : (hd.heap_39 w.params).lookup f = some ⟨oc, od, .func (fnOf name qual params body scope dV kV doc pm an cdv ct), osl⟩) (hcd : codeIn (hd.heap_39 w.params) cdv qual = true)
    (hbind : BindsTo s (fnOf name qual params body scope dV kV doc pm an cdv ct) args binds)
    (hloc : ∀ y ∈ binds, scope.names.lookup y.1 = some .local)
    (hcell : ∀ x ∈ scope.names, x.2 ≠ .cell)
    (hco : scope.isCoroutine = false) (hgen : scope.isGenerator = false) (hk : scope.kind = .function)
    (h : ∀ L h₁ tk₁, L = s.heap.objs.size → (∀ b o, s.heap.get? b = some o → h₁.get? b = some o) → Fr s.heap L h₁ (fun y => binds.reverse.lookup y) → News s.heap L h₁ [] →
      wpAny (model pgm w) (A.deeper (envOf qual scope L f cdv)) (execs body (envOf qual scope L f cdv))
        (fun fl s' => R (.ok (.ret (match fl with | .ret v => v | _ => .none))) s') (fun _ _ => False)
        { s with heap := h₁, toks := tk₁ }) : codeAny (model pgm w) A (.call (.ref f) args) R s := by
  refine codeAny_call_def (fd := fnOf name qual params body scope dV kV doc pm an cdv ct) hroom (G.K _ _ ho) rfl G.T.nolimit (codeRec_of G.K hcd) rfl hbind hcell hloc (fun h₁ hns hk₁ => ?_) hco hgen hk
  refine wpAny_mono (h _ h₁ _ rfl hk₁ ⟨hns, hk₁, Nat.le_refl _⟩ News.nil) (fun fl s' hl => hl) fun _ _ x => x.elim
/-- a def of the text entered, with no word of the frames beneath -/
theorem enterT {w : World} {A : Around} {R : Result → Shared → Prop} {s : Shared} {mean : ExcName → Option Value} {mg mb : Str → Option Value}
    {name qual : Str} {params : Arguments} {body : List Stmt} {scope : Scope} {dV kV doc pm cdv ct oc : Value} {an od : Option Addr} {osl : Array (Option Value)}
    {f : Addr} {args : Args} {binds : List (Str × Value)}
    (G : Gd w mean mg mb s.heap) (hroom : A.depth < recursionLimit)
    (ho : (hd.heap_39 w.params).lookup f = some ⟨oc, od, .func (fnOf name qual params body scope dV kV doc pm an cdv ct), osl⟩) (hcd : codeIn (hd.heap_39 w.params) cdv qual = true)
    (hbind : BindsTo s (fnOf name qual params body scope dV kV doc pm an cdv ct) args binds)
    (hloc : ∀ y ∈ binds, scope.names.lookup y.1 = some .local)
    (hcell : ∀ x ∈ scope.names, x.2 ≠ .cell)
    (hco : scope.isCoroutine = false) (hgen : scope.isGenerator = false) (hk : scope.kind = .function)
    (h : ∀ L h₁ tk₁, L = s.heap.objs.size → s.toks ≤ tk₁ → (∀ b o, s.heap.get? b = some o → h₁.get? b = some o) → Fr s.heap L h₁ (fun y => binds.reverse.lookup y) → News s.heap L h₁ [] →
      wpAny (model pgm w) (A.deeper (envOf qual scope L f cdv)) (execs body (envOf qual scope L f cdv))
        (fun fl s' => R (.ok (.ret (match fl with | .ret v => v | _ => .none))) s') (fun _ _ => False)
        { s with heap := h₁, toks := tk₁ }) : codeAny (model pgm w) A (.call (.ref f) args) R s := by
  refine codeAny_call_def (fd := fnOf name qual params body scope dV kV doc pm an cdv ct) hroom (G.K _ _ ho) rfl G.T.nolimit (codeRec_of G.K hcd) rfl hbind hcell hloc (fun h₁ hns hk₁ => ?_) hco hgen hk
  refine wpAny_mono (h _ h₁ _ rfl (Nat.le_add_right _ _) hk₁ ⟨hns, hk₁, Nat.le_refl _⟩ News.nil) (fun fl s' hl => hl) fun _ _ x => x.elim
end Mine
end
/- STR -/
section
open PySem PySem.W PyProof.Rows
set_option maxRecDepth 100000
set_option genSizeOf false
set_option genInjectivity false
namespace Mine
open PySem.Builtin PySem.Builtin.Str

/-- a text out of its numbers -/
noncomputable def toS (l : Tx) : Str := ⟨l.toArray⟩
theorem toS_toList (x : Str) : toS x.cps.toList = x := by cases x; simp [toS]
@[simp] theorem toS_cps (l : Tx) : (toS l).cps.toList = l := by simp [toS]
theorem toS_length (l : Tx) : (toS l).length = l.length := by simp [toS, Str.length]
theorem len_list (x : Str) : x.cps.toList.length = x.length := by simp [Str.length]

noncomputable def hiOf (len : Nat) (e : Int) : Nat := min (max 0 (if e < 0 then e + len else e)).toNat len
noncomputable def fnd (x y : Str) (hi : Nat) : Int := match occurrences x y 0 hi 1 with | i :: _ => (i : Int) | [] => -1
noncomputable def rfnd (x y : Str) (hi : Nat) : Int := match lastOccurrence x y 0 hi with | some i => (i : Int) | none => -1

theorem gives_find4 (x y : Str) (e : Int) (t u v v' : Tok) : Gives («str.find» ⟨[.str x t, .str y u, .int 0 v, .int e v'], []⟩) (.int (fnd x y (hiOf x.length e))) := by
  show Gives (match occurrences x y (fromIndex x.length 0) (hiOf x.length e) 1 with | k :: _ => retInt k | [] => (do rule "str.find.not-found"; retInt (-1))) _
  have h0 : fromIndex x.length 0 = 0 := by simp [fromIndex]
  rw [h0]
  unfold fnd
  cases occurrences x y 0 (hiOf x.length e) 1 with
  | nil => exact .rule (.of_eq rfl)
  | cons k _ => exact .of_eq rfl
theorem gives_rfind4 (x y : Str) (e : Int) (t u v v' : Tok) : Gives («str.rfind» ⟨[.str x t, .str y u, .int 0 v, .int e v'], []⟩) (.int (rfnd x y (hiOf x.length e))) := by
  show Gives (match lastOccurrence x y (fromIndex x.length 0) (hiOf x.length e) with | some k => retInt k | none => (do rule "str.rfind.not-found"; retInt (-1))) _
  have h0 : fromIndex x.length 0 = 0 := by simp [fromIndex]
  rw [h0]
  unfold rfnd
  cases lastOccurrence x y 0 (hiOf x.length e) with
  | none => exact .rule (.of_eq rfl)
  | some k => exact .of_eq rfl

section
variable {prog : Program} {w : World} {A : Around} {E : Value → Shared → Prop} {s : Shared} {x y : Str} {e : Int} {t u v v' : Tok} {Q : Value → Shared → Prop}
theorem find4 (hq : Q (.int (fnd x y (hiOf x.length e)) s.toks) { s with toks := s.toks + 1 }) : wpAny (model prog w) A (call (.builtin "str.find") [.str x t, .str y u, .int 0 v, .int e v']) Q E s :=
  call_gives F.slot_str_find (typeIs_str _ _ _) F.entry_str_find (F.args_str_find_4 _ _ _ _) (gives_find4 x y e t u v v') hq
theorem rfind4 (hq : Q (.int (rfnd x y (hiOf x.length e)) s.toks) { s with toks := s.toks + 1 }) : wpAny (model prog w) A (call (.builtin "str.rfind") [.str x t, .str y u, .int 0 v, .int e v']) Q E s :=
  call_gives F.slot_str_rfind (typeIs_str _ _ _) F.entry_str_rfind (F.args_str_rfind_4 _ _ _ _) (gives_rfind4 x y e t u v v') hq
end

theorem at_one (x : Str) (c hi i : Nat) (hh : hi ≤ x.length) : StrLaws.At x ⟨#[c]⟩ hi i ↔ (x.cps.toList.take hi)[i]? = some c := by
  unfold StrLaws.At
  have h1 : (⟨#[c]⟩ : Str).length = 1 := rfl
  rw [h1]
  have := StrLaws.subAt_one x c i
  rw [h1] at this
  rw [List.getElem?_take]
  constructor
  · rintro ⟨a, b⟩
    rw [if_pos (show i < hi from a)]
    exact this.mp ⟨Nat.le_trans a hh, b⟩
  · intro h
    split at h
    · rename_i hlt
      exact ⟨hlt, (this.mpr h).2⟩
    · cases h

/-- the first place of c below hi -/
theorem fnd_spec (x : Str) (c hi : Nat) (hh : hi ≤ x.length) :
    (fnd x ⟨#[c]⟩ hi = -1 ∧ c ∉ x.cps.toList.take hi) ∨ ∃ i : Nat, fnd x ⟨#[c]⟩ hi = i ∧ (x.cps.toList.take hi)[i]? = some c ∧ c ∉ (x.cps.toList.take hi).take i := by
  have key := StrLaws.occ_first x ⟨#[c]⟩ hi 1 (Nat.le_refl 1) (List.range' 0 (hi + 1 - 0)) 0 (fun _ _ => Nat.zero_le _)
  unfold fnd
  rw [StrLaws.occ_eq]
  rcases key with ⟨h0, hn⟩ | ⟨pre, a, post, e, h0, ha, hn⟩
  · refine .inl ⟨by rw [h0], fun hm => ?_⟩
    obtain ⟨i, hi', he⟩ := List.getElem_of_mem hm
    refine hn i (inRange (Nat.lt_succ_of_lt (Nat.lt_of_lt_of_le hi' (List.length_take_le hi _)))) ((at_one x c hi i hh).mpr ?_)
    rw [List.getElem?_eq_getElem hi', he]
  · refine .inr ⟨a, ?_, (at_one x c hi a hh).mp ha, fun hm => ?_⟩
    · generalize (forIn (List.range' 0 (hi + 1 - 0)) ((#[] : Array Nat), 0) (StrLaws.occBody x ⟨#[c]⟩ hi 1)).run.fst = arr at h0
      have h1 : arr.toList[0]? = some a := by simpa using h0
      cases hL : arr.toList with
      | nil => rw [hL] at h1; cases h1
      | cons b t => rw [hL] at h1; simp at h1; rw [h1]
    · obtain ⟨i, hi', he⟩ := List.getElem_of_mem hm
      have hia : i < a := Nat.lt_of_lt_of_le hi' (List.length_take_le a _)
      refine hn i (StrLaws.range'_split e i hia) ((at_one x c hi i hh).mpr ?_)
      have h2 : ((x.cps.toList.take hi).take a)[i]? = some c := by rw [List.getElem?_eq_getElem hi', he]
      rw [List.getElem?_take, if_pos hia] at h2
      exact h2

/-- the last place of c below hi -/
theorem rfnd_spec (x : Str) (c hi : Nat) (hh : hi ≤ x.length) :
    (rfnd x ⟨#[c]⟩ hi = -1 ∧ c ∉ x.cps.toList.take hi) ∨ ∃ i : Nat, rfnd x ⟨#[c]⟩ hi = i ∧ (x.cps.toList.take hi)[i]? = some c ∧ c ∉ (x.cps.toList.take hi).drop (i + 1) := by
  have key := StrLaws.last_run x ⟨#[c]⟩ hi (List.range' 0 (hi + 1 - 0)) [] none (fun _ h => nomatch h) (fun _ h => nomatch h) (by simpa using List.pairwise_lt_range' (s := 0) (n := hi + 1 - 0))
  have mem : ∀ i, StrLaws.At x ⟨#[c]⟩ hi i → i ∈ [] ++ List.range' 0 (hi + 1 - 0) := fun i hi' => inRange (Nat.lt_succ_of_lt hi'.1)
  unfold rfnd
  rw [StrLaws.last_eq]
  cases hr : (forIn (List.range' 0 (hi + 1 - 0)) none (StrLaws.lastBody x ⟨#[c]⟩ hi)).run with
  | none =>
    rw [hr] at key
    refine .inl ⟨rfl, fun hm => ?_⟩
    obtain ⟨i, hi', he⟩ := List.getElem_of_mem hm
    have hA := (at_one x c hi i hh).mpr (by rw [List.getElem?_eq_getElem hi', he])
    exact key i (mem i hA) hA
  | some a =>
    rw [hr] at key
    refine .inr ⟨a, rfl, (at_one x c hi a hh).mp key.1, fun hm => ?_⟩
    obtain ⟨i, hi', he⟩ := List.getElem_of_mem hm
    have h2 : ((x.cps.toList.take hi).drop (a + 1))[i]? = some c := by rw [List.getElem?_eq_getElem hi', he]
    rw [List.getElem?_drop] at h2
    have hA := (at_one x c hi _ hh).mpr h2
    exact key.2 _ (mem _ hA) (Nat.lt_of_lt_of_le (Nat.lt_succ_self a) (Nat.le_add_right _ _)) hA

/-! ## what the two searches and the cut leave is the name -/
theorem take_until {l : List Nat} {c i : Nat} (h1 : l[i]? = some c) (h2 : c ∉ l.take i) : l.takeWhile (fun d => d != c) = l.take i := by
  induction l generalizing i with
  | nil => simp at h1
  | cons d r ih =>
    cases i with
    | zero => simp at h1; subst h1; simp
    | succ i =>
      simp only [List.take_succ_cons, List.mem_cons, not_or] at h2
      rw [List.takeWhile_cons, if_pos (by simpa using fun q => h2.1 q.symm), ih (by simpa using h1) h2.2]
      rfl
theorem take_none {l : List Nat} {c : Nat} (h2 : c ∉ l) : l.takeWhile (fun d => d != c) = l := by
  induction l with
  | nil => rfl
  | cons d r ih =>
    simp only [List.mem_cons, not_or] at h2
    rw [List.takeWhile_cons, if_pos (by simpa using fun q => h2.1 q.symm), ih h2.2]
theorem nmF_dot (a b acc : Tx) (hb : 46 ∉ b) : nmF (fun _ => true) acc (a ++ 46 :: b) = b := by
  induction a generalizing acc with
  | nil =>
    simp only [List.nil_append, nmF, if_true]
    rw [nmF_id b [] fun c hc => ⟨rfl, fun q => hb (q ▸ hc)⟩]; rfl
  | cons c r ih => simp only [List.cons_append, nmF, if_true]; exact ih _
theorem nmF_take (p : Nat → Bool) (t acc : Tx) : nmF p acc t = nmF (fun _ => true) acc (t.takeWhile p) := by
  induction t generalizing acc with
  | nil => rfl
  | cons c r ih =>
    simp only [nmF, List.takeWhile_cons]
    cases p c with
    | true => simp only [if_true]; rw [ih]; simp [nmF]
    | false => simp [nmF]
theorem takeWhile_two (l : Tx) : (l.takeWhile (fun d => d != 10)).takeWhile (fun d => d != 58) = l.takeWhile pE := by
  induction l with
  | nil => rfl
  | cons c r ih =>
    simp only [List.takeWhile_cons, pE]
    by_cases h1 : c = 10
    · subst h1; simp
    · by_cases h2 : c = 58
      · subst h2; simp
      · have e1 : (c != 10) = true := by simpa using h1
        have e2 : (c != 58) = true := by simpa using h2
        simp only [e1, e2, if_true, List.takeWhile_cons, Bool.and_self]
        rw [← ih]
theorem pick_none {e v d : Int} (h : (0 ≤ (-1 : Int) ∧ e = v) ∨ (¬ 0 ≤ (-1 : Int) ∧ e = d)) : e = d := h.elim (fun q => absurd q.1 (by decide)) (·.2)
theorem pick_some {i : Nat} {e v d : Int} (h : (0 ≤ (i : Int) ∧ e = v) ∨ (¬ 0 ≤ (i : Int) ∧ e = d)) : e = v := h.elim (·.2) fun q => absurd (Int.natCast_nonneg i) q.1
theorem hiOf_of {n m : Nat} (h : m ≤ n) : hiOf n (m : Int) = m := by
  unfold hiOf
  rw [if_neg (Int.not_lt.mpr (Int.natCast_nonneg m)), Int.max_eq_right (Int.natCast_nonneg m), Int.toNat_natCast, Nat.min_eq_left h]
theorem named_cut (x : Str) (e₁ e₂ st : Int)
    (h1 : (0 ≤ fnd x ⟨#[10]⟩ x.length ∧ e₁ = fnd x ⟨#[10]⟩ x.length) ∨ (¬ 0 ≤ fnd x ⟨#[10]⟩ x.length ∧ e₁ = x.length))
    (h2 : (0 ≤ fnd x ⟨#[58]⟩ (hiOf x.length e₁) ∧ e₂ = fnd x ⟨#[58]⟩ (hiOf x.length e₁)) ∨ (¬ 0 ≤ fnd x ⟨#[58]⟩ (hiOf x.length e₁) ∧ e₂ = e₁))
    (h3 : (0 ≤ rfnd x ⟨#[46]⟩ (hiOf x.length e₂) ∧ st = rfnd x ⟨#[46]⟩ (hiOf x.length e₂) + 1) ∨ (¬ 0 ≤ rfnd x ⟨#[46]⟩ (hiOf x.length e₂) ∧ st = 0)) :
    0 ≤ st ∧ st ≤ e₂ ∧ e₂ ≤ x.length ∧ (x.cps.toList.take e₂.toNat).drop st.toNat = named pE x.cps.toList := by
  have hL := len_list x
  have a1 : ∃ n : Nat, e₁ = n ∧ n ≤ x.length ∧ x.cps.toList.takeWhile (fun d => d != 10) = x.cps.toList.take n := by
    clear h2 h3
    rcases fnd_spec x 10 x.length (Nat.le_refl _) with ⟨q, m⟩ | ⟨i, q, g, m⟩
    · rw [q] at h1
      refine ⟨x.length, pick_none h1, Nat.le_refl _, ?_⟩
      clear h1
      rw [List.take_of_length_le (Nat.le_of_eq hL)] at m ⊢
      exact take_none m
    · rw [q] at h1
      have hT : x.cps.toList.take x.length = x.cps.toList := List.take_of_length_le (Nat.le_of_eq hL)
      rw [hT] at g m
      have : i < x.cps.toList.length := (List.getElem?_eq_some_iff.mp g).1
      exact ⟨i, pick_some h1, Nat.le_of_lt (hL ▸ this), take_until g m⟩
  obtain ⟨n, rfl, hn, t1⟩ := a1
  clear h1
  have hh : hiOf x.length (n : Int) = n := hiOf_of hn
  rw [hh] at h2
  have a2 : ∃ k : Nat, e₂ = k ∧ k ≤ x.length ∧ x.cps.toList.takeWhile pE = x.cps.toList.take k := by
    clear h3
    rw [← takeWhile_two, t1]
    rcases fnd_spec x 58 n hn with ⟨q, m⟩ | ⟨i, q, g, m⟩
    · rw [q] at h2
      exact ⟨n, pick_none h2, hn, take_none m⟩
    · rw [q] at h2
      have : i < (x.cps.toList.take n).length := (List.getElem?_eq_some_iff.mp g).1
      have hin := Nat.le_of_lt (Nat.lt_of_lt_of_le this (List.length_take_le n _))
      have h2' := pick_some h2
      clear h2 q
      refine ⟨i, h2', Nat.le_trans hin hn, ?_⟩
      rw [take_until g m, List.take_take, Nat.min_eq_left hin]
  obtain ⟨k, rfl, hk, t2⟩ := a2
  clear h2
  have hh2 : hiOf x.length (k : Int) = k := hiOf_of hk
  rw [hh2] at h3
  have hN : named pE x.cps.toList = nmF (fun _ => true) [] (x.cps.toList.take k) := by
    unfold named; rw [nmF_take, t2]
  rw [hN]
  rcases rfnd_spec x 46 k hk with ⟨q, m⟩ | ⟨i, q, g, m⟩
  · rw [q] at h3
    have : st = 0 := pick_none h3
    subst this
    clear h3
    refine ⟨Int.le_refl _, Int.natCast_nonneg k, Int.ofNat_le.mpr hk, ?_⟩
    rw [nmF_id _ [] fun c hc => ⟨rfl, fun q => m (q ▸ hc)⟩]
    simp
  · rw [q] at h3
    have : st = i + 1 := pick_some h3
    subst this
    clear h3 q
    have hik : i < (x.cps.toList.take k).length := (List.getElem?_eq_some_iff.mp g).1
    refine ⟨Int.natCast_nonneg (i + 1), Int.ofNat_le.mpr (Nat.lt_of_lt_of_le hik (List.length_take_le k _)), Int.ofNat_le.mpr hk, ?_⟩
    have e1 : ((i : Int) + 1).toNat = i + 1 := rfl
    rw [e1, Int.toNat_natCast]
    generalize hl : x.cps.toList.take k = l at g m
    obtain ⟨hi, ge⟩ := List.getElem?_eq_some_iff.mp g
    have sp : l = l.take i ++ 46 :: l.drop (i + 1) := by
      rw [← ge, ← List.drop_eq_getElem_cons hi, List.take_append_drop]
    conv => rhs; rw [sp]
    rw [nmF_dot _ _ _ m]
end Mine
end
/- NAMED -/
section
open PySem PySem.W PyProof.Rows
set_option maxRecDepth 100000
set_option genSizeOf false
set_option genInjectivity false
namespace Mine
open PySem.Builtin PySem.Builtin.Str
theorem slice_cps (x : Str) (a b : Int) (ha : 0 ≤ a) (hab : a ≤ b) (hb2 : b ≤ x.length) : Txt.slice x (some a) (some b) = toS ((x.cps.toList.take b.toNat).drop a.toNat) := by
  have h := StrLaws.sliceText_nat x (a := a.toNat) (b := b.toNat) (Int.toNat_le_toNat hab) (Int.toNat_le.mpr hb2)
  rw [Int.toNat_of_nonneg ha, Int.toNat_of_nonneg (Int.le_trans ha hab)] at h
  rw [List.drop_take]
  exact h
theorem named_slice (x : Str) (e₁ e₂ st : Int)
    (h1 : 0 ≤ Txt.find x (Str.ofString "\n") ∧ e₁ = Txt.find x (Str.ofString "\n") ∨ ¬ 0 ≤ Txt.find x (Str.ofString "\n") ∧ e₁ = x.length)
    (h2 : 0 ≤ fnd x (Str.ofString ":") (hiOf x.length e₁) ∧ e₂ = fnd x (Str.ofString ":") (hiOf x.length e₁) ∨ ¬ 0 ≤ fnd x (Str.ofString ":") (hiOf x.length e₁) ∧ e₂ = e₁)
    (h3 : 0 ≤ rfnd x (Str.ofString ".") (hiOf x.length e₂) ∧ st = rfnd x (Str.ofString ".") (hiOf x.length e₂) + 1 ∨ ¬ 0 ≤ rfnd x (Str.ofString ".") (hiOf x.length e₂) ∧ st = 0) :
    Txt.slice x (some st) (some e₂) = toS (named pE x.cps.toList) := by
  have z1 : Str.ofString "\n" = ⟨#[10]⟩ := by decide
  have z2 : Str.ofString ":" = ⟨#[58]⟩ := by decide
  have z3 : Str.ofString "." = ⟨#[46]⟩ := by decide
  rw [z1] at h1; rw [z2] at h2; rw [z3] at h3
  obtain ⟨a, b, c, d⟩ := named_cut x e₁ e₂ st h1 h2 h3
  rw [slice_cps x st e₂ a b c, d]

local macro_rules | `(tactic| walk_at $s:str) => `(tactic| k_extra $s)
set_option maxHeartbeats 4000000 in
theorem named_walk (w : World) (mean : ExcName → Option Value) (mg mb : Str → Option Value) (t : Str) (tk : Tok) (ht : t.length ≤ 4096)
   (dp un : Nat) (fr : Option (List Env)) (gd : Option (List Code)) (s : Shared) (R : Result → Shared → Prop) (G : Gd w mean mg mb s.heap) (hd1 : dp + 8 < recursionLimit) (hu1 : un + 40 < cLine)
   (kR : ∀ h' n' tk', (∀ b o, s.heap.get? b = some o → h'.get? b = some o) → R (.ok (.ret (.str (toS (named pE t.cps.toList)) tk'))) { s with heap := h', toks := n' }) : codeAny (model pgm w) ⟨none, dp, fr, gd, un⟩ (.call (.ref 21) ⟨[Value.str t tk], []⟩) R s := by
  have dummy : PySem.Challenge.rw_wa0019_01 = PySem.Challenge.rw_wa0019_01 → Mine.hd.heap_39 = Mine.hd.heap_39 → True := by
    k_fill
    intros; trivial
  clear dummy
  k_with_none
  (k_with "call builtin:str.find" => (with_reducible refine find4 ?_))
  (k_with "call builtin:str.rfind" => (with_reducible refine rfind4 ?_))
  have kX := G.K
  have kT := G.T
  refine enter G (room0 hd1) (by k_is) (by k_is) (BindsTo.of_eq rfl) (locs rfl) (by decide) rfl rfl rfl ?_
  intro L' h' tk' eL' kk F' N'
  (try dsimp only)
  (try k_fold)
  k_steps
  all_goals (
    (rename Fr _ _ _ _ => FF)
    (try dsimp only [qk])
    (have e9 := named_slice t _ _ _ (by assumption) (by first | exact .inl ⟨by assumption, rfl⟩ | exact .inr ⟨by assumption, rfl⟩) (by first | exact .inl ⟨by assumption, rfl⟩ | exact .inr ⟨by assumption, rfl⟩))
    rw [e9]
    exact kR _ _ _ FF.keep)
end Mine
end
/- SHORN -/
section
open PySem PySem.W PyProof.Rows
set_option maxRecDepth 100000
set_option genSizeOf false
set_option genInjectivity false
namespace Mine
open PySem.Builtin PySem.Builtin.Str
theorem beq_one (k : Nat) (y : Str) (c : Nat) (hy : y = ⟨#[c]⟩) : (({ cps := #[k] } : Str) == y) = decide (k = c) := by
  subst hy
  rw [Bool.eq_iff_iff, decide_eq_true_eq, beq_iff_eq]
  constructor
  · intro h; injection h with h; injection h with h; injection h
  · intro h; rw [h]
theorem beq_empty (x : Str) : (x == Str.ofString "") = decide (x.cps.toList = []) := by
  have z : Str.ofString "" = ⟨#[]⟩ := by decide
  rw [z, Bool.eq_iff_iff, decide_eq_true_eq, beq_iff_eq]
  constructor
  · intro h; rw [h]
  · intro h
    cases x with
    | mk a => simp at h; rw [h]
theorem shorn_turn {K H K' H' : Str} {b b' : Bool} {kPre : List Int} {kN : Nat} (h1 : (K.cps.toList, H.cps.toList, b) = List.foldl shStep ([], [], false) (List.map Int.toNat kPre))
    (h2 : K.length ≤ kPre.length) (h3 : H.length ≤ kPre.length) (h4 : shStep (K.cps.toList, H.cps.toList, b) kN = (K'.cps.toList, H'.cps.toList, b')) (h5 : K'.length ≤ K.length + 1) (h6 : H'.length ≤ H.length + 1) :
    (K'.cps.toList, H'.cps.toList, b') = List.foldl shStep ([], [], false) (List.map Int.toNat (kPre ++ [(kN : Int)])) ∧ K'.length ≤ (kPre ++ [(kN : Int)]).length ∧ H'.length ≤ (kPre ++ [(kN : Int)]).length := by
  refine ⟨?_, lenSnoc h5 h2, lenSnoc h6 h3⟩
  rw [List.map_append, List.foldl_append, ← h1]
  show _ = shStep _ (Int.toNat (kN : Int))
  rw [Int.toNat_natCast, h4]
theorem shorn_end {K H t : Str} {b : Bool} (h1 : (K.cps.toList, H.cps.toList, b) = List.foldl shStep ([], [], false) (List.map Int.toNat (KStt.codes t))) : K ++ H = toS (shorn t.cps.toList) := by
  have e : List.map Int.toNat (KStt.codes t) = t.cps.toList := by simp [KStt.codes, List.map_map, Function.comp_def]
  rw [e] at h1
  have h := sh_fold t.cps.toList [] [] false
  rw [← h1] at h
  simp only [List.nil_append] at h
  have : toS (shorn t.cps.toList) = toS (K.cps.toList ++ H.cps.toList) := by rw [h]; rfl
  rw [this]
  show Str.mk _ = Str.mk _
  congr 1
  apply Array.ext'
  simp

theorem shStep_str (K H : Str) (b : Bool) (n : Nat) : shStep (K.cps.toList, H.cps.toList, b) n =
    if ((H == Str.ofString "") && !((({ cps := #[n] } : Str) == Str.ofString "\"") && !b)) = true then ((K ++ { cps := #[n] }).cps.toList, H.cps.toList, (({ cps := #[n] } : Str) == Str.ofString "\\") && !b)
    else if (!(H == Str.ofString "") && ((({ cps := #[n] } : Str) == Str.ofString "\"") && !b)) = true then (K.cps.toList, (Str.ofString "").cps.toList, (({ cps := #[n] } : Str) == Str.ofString "\\") && !b)
    else (K.cps.toList, (H ++ { cps := #[n] }).cps.toList, (({ cps := #[n] } : Str) == Str.ofString "\\") && !b) := by
  have ea : ∀ (X : Str), (X ++ ({ cps := #[n] } : Str)).cps.toList = X.cps.toList ++ [n] := fun X => by
    show (X.cps ++ #[n]).toList = _
    simp
  have z3 : (Str.ofString "").cps.toList = [] := by decide
  rw [beq_one n _ 34 (by decide), beq_one n _ 92 (by decide), beq_empty, ea, ea, z3]
  unfold shStep
  simp only [Bool.and_eq_true, decide_eq_true_eq, Bool.not_eq_true', decide_eq_false_iff_not, Bool.and_eq_false_iff, Bool.not_eq_false']
  by_cases h1 : H.cps.toList = [] <;> by_cases h2 : n = 34 <;> by_cases h3 : n = 92 <;> cases b <;> simp_all
local macro_rules | `(tactic| walk_at $s:str) => `(tactic| k_extra $s)
set_option maxHeartbeats 4000000 in
theorem shorn_walk (w : World) (mean : ExcName → Option Value) (mg mb : Str → Option Value) (t : Str) (tk : Tok) (ht : t.length ≤ 4096)
   (dp un : Nat) (fr : Option (List Env)) (gd : Option (List Code)) (s : Shared) (R : Result → Shared → Prop) (G : Gd w mean mg mb s.heap) (hd1 : dp + 8 < recursionLimit) (hu1 : un + 40 < cLine)
   (kR : ∀ h' n' tk', (∀ b o, s.heap.get? b = some o → h'.get? b = some o) → R (.ok (.ret (.str (toS (shorn t.cps.toList)) tk'))) { s with heap := h', toks := n' }) : codeAny (model pgm w) ⟨none, dp, fr, gd, un⟩ (.call (.ref 89) ⟨[Value.str t tk], []⟩) R s := by
  have dummy : PySem.Challenge.rw_wa0019_01 = PySem.Challenge.rw_wa0019_01 → Mine.hd.heap_39 = Mine.hd.heap_39 → True := by
    k_fill
    intros; trivial
  clear dummy
  k_with_none
  (k_with "shorn step" => ((
    (repeat (first | (rename Fr _ _ _ _ => xx; clear xx) | (rename News _ _ _ _ => xx; clear xx) | (rename KJoinAt _ _ _ _ _ _ => xx; clear xx)));
    (rw [shStep_str]); (try simp only [bne] at *); first | (simp [*]; done) | (simp_all; done))))
  (k_with "shorn turn" => (first
    | (refine shorn_turn (by assumption) (by assumption) (by assumption) ?h4 ?h5 ?h6; (case h5 => ((try simp only [Str.length_append]); first | exact Nat.le_refl _ | exact Nat.le_succ _ | exact Nat.zero_le _)); (case h6 => ((try simp only [Str.length_append]); first | exact Nat.le_refl _ | exact Nat.le_succ _ | exact Nat.zero_le _)); (case h4 => (walk_at "shorn step")))
    | exact ⟨by decide, by decide, by decide⟩))
  have kX := G.K
  have kT := G.T
  refine enter G (room0 hd1) (by k_is) (by k_is) (BindsTo.of_eq rfl) (locs rfl) (by decide) rfl rfl rfl ?_
  intro L' h' tk' eL' kk F' N'
  (try dsimp only)
  (try k_fold)
  (k_with "pyIter str" => k_state (fun pre kept held behind => (kept.cps.toList, held.cps.toList, behind) = (pre.map Int.toNat).foldl shStep ([], [], false) ∧ kept.length ≤ pre.length ∧ held.length ≤ pre.length) "kept" "held" "behind")
  (k_with "state" => (walk_at "shorn turn"))
  k_steps
  all_goals (
    (try dsimp only [qk])
    (have e9 := shorn_end (by assumption))
    rw [e9]
    exact kR _ _ _ (Fr.keep (by assumption)))
end Mine
end
/- LNAMED -/
section
open PySem PySem.W PyProof.Rows
set_option maxRecDepth 100000
set_option genSizeOf false
set_option genInjectivity false
namespace Mine
open PySem.Builtin PySem.Builtin.Str
theorem nmF_snoc (a : Tx) (c : Nat) : ∀ acc, nmF (fun _ => true) acc (a ++ [c]) = if c = 46 then [] else nmF (fun _ => true) acc a ++ [c] := by
  induction a with
  | nil => intro acc; simp [nmF]
  | cons d r ih => intro acc; simp only [List.cons_append, nmF, if_true]; exact ih _
theorem out_of {e : Str} {k : Nat} (ha : (occurrences e { cps := #[k] } 0 e.length 1).isEmpty = true) : k ∉ e.cps.toList := by
  have := StrLaws.found_one e k
  rw [ha] at this
  intro hm
  simp [hm] at this
theorem in_of {e : Str} {k : Nat} (ha : (occurrences e { cps := #[k] } 0 e.length 1).isEmpty = false) : k ∈ e.cps.toList := by
  have := StrLaws.found_one e k
  rw [ha] at this
  simpa using this
theorem lnm_turn {e name name' : Str} {kPre : List Int} {kN : Nat} (h1 : ∀ c ∈ kPre, ¬ c.toNat ∈ e.cps.toList) (h2 : name.cps.toList = nmF (fun _ => true) [] (List.map Int.toNat kPre)) (h3 : name.length ≤ kPre.length)
    (ha : (occurrences e { cps := #[kN] } 0 e.length 1).isEmpty = true) (hn : name'.cps.toList = if kN = 46 then [] else name.cps.toList ++ [kN]) (hl : name'.length ≤ name.length + 1) :
    (∀ c, c ∈ kPre ++ [(kN : Int)] → ¬ c.toNat ∈ e.cps.toList) ∧ name'.cps.toList = nmF (fun _ => true) [] (List.map Int.toNat (kPre ++ [(kN : Int)])) ∧ name'.length ≤ (kPre ++ [(kN : Int)]).length := by
  refine ⟨fun c hc => ?_, ?_, lenSnoc hl h3⟩
  · rcases List.mem_append.mp hc with hc | hc
    · exact h1 c hc
    · simp at hc; subst hc; rw [Int.toNat_natCast]; exact out_of ha
  · rw [List.map_append, List.map_cons, List.map_nil, Int.toNat_natCast, nmF_snoc, ← h2, hn]
theorem lnm_dot {e name : Str} {kPre : List Int} {kN : Nat} (h1 : ∀ c ∈ kPre, ¬ c.toNat ∈ e.cps.toList) (h2 : name.cps.toList = nmF (fun _ => true) [] (List.map Int.toNat kPre)) (h3 : name.length ≤ kPre.length)
    (ha : (occurrences e { cps := #[kN] } 0 e.length 1).isEmpty = true) (hd : (({ cps := #[kN] } : Str) == Str.ofString ".") = true) :
    (∀ c, c ∈ kPre ++ [(kN : Int)] → ¬ c.toNat ∈ e.cps.toList) ∧ (Str.ofString "").cps.toList = nmF (fun _ => true) [] (List.map Int.toNat (kPre ++ [(kN : Int)])) ∧ (Str.ofString "").length ≤ (kPre ++ [(kN : Int)]).length := by
  have z : Str.ofString "." = ⟨#[46]⟩ := by decide
  rw [z, beq_iff_eq] at hd
  have hk : kN = 46 := by injection hd with h; injection h with h; injection h
  refine lnm_turn h1 h2 h3 ha ?_ (Nat.zero_le _)
  rw [if_pos hk]; decide
theorem lnm_add {e name : Str} {kPre : List Int} {kN : Nat} (h1 : ∀ c ∈ kPre, ¬ c.toNat ∈ e.cps.toList) (h2 : name.cps.toList = nmF (fun _ => true) [] (List.map Int.toNat kPre)) (h3 : name.length ≤ kPre.length)
    (ha : (occurrences e { cps := #[kN] } 0 e.length 1).isEmpty = true) (hd : (({ cps := #[kN] } : Str) == Str.ofString ".") = false) :
    (∀ c, c ∈ kPre ++ [(kN : Int)] → ¬ c.toNat ∈ e.cps.toList) ∧ (name ++ ({ cps := #[kN] } : Str)).cps.toList = nmF (fun _ => true) [] (List.map Int.toNat (kPre ++ [(kN : Int)])) ∧ (name ++ ({ cps := #[kN] } : Str)).length ≤ (kPre ++ [(kN : Int)]).length := by
  have z : Str.ofString "." = ⟨#[46]⟩ := by decide
  rw [z, beq_eq_false_iff_ne] at hd
  have hk : ¬ kN = 46 := fun q => hd (by rw [q])
  refine lnm_turn h1 h2 h3 ha ?_ (by rw [Str.length_append]; exact Nat.le_refl _)
  rw [if_neg hk]
  show (name.cps ++ #[kN]).toList = _
  simp
theorem lnm_codes (t : Str) : (KStt.codes t).map Int.toNat = t.cps.toList := by simp [KStt.codes, List.map_map, Function.comp_def]
theorem lnm_out {e t name : Str} {kPre kPost : List Int} {kN : Nat} (hq : KStt.codes t = kPre ++ (kN : Int) :: kPost) (h1 : ∀ c ∈ kPre, ¬ c.toNat ∈ e.cps.toList) (h2 : name.cps.toList = nmF (fun _ => true) [] (List.map Int.toNat kPre))
    (ha : (occurrences e { cps := #[kN] } 0 e.length 1).isEmpty = false) : name = toS (named (fun c => !decide (c ∈ e.cps.toList)) t.cps.toList) := by
  have hN : named (fun c => !decide (c ∈ e.cps.toList)) t.cps.toList = nmF (fun _ => true) [] (t.cps.toList.takeWhile (fun c => !decide (c ∈ e.cps.toList))) := nmF_take _ _ _
  rw [← toS_toList name, h2, hN, ← lnm_codes t, hq, List.map_append, List.map_cons, Int.toNat_natCast]
  have hk := in_of ha
  refine congrArg toS (congrArg (nmF (fun _ => true) []) ?_)
  rw [List.takeWhile_append_of_pos]
  · rw [List.takeWhile_cons]
    simp [hk]
  · intro c hc
    obtain ⟨d, hd, rfl⟩ := List.mem_map.mp hc
    simpa using h1 d hd
theorem lnm_end {e t name : Str} (h1 : ∀ c ∈ KStt.codes t, ¬ c.toNat ∈ e.cps.toList) (h2 : name.cps.toList = nmF (fun _ => true) [] (List.map Int.toNat (KStt.codes t))) :
    name = toS (named (fun c => !decide (c ∈ e.cps.toList)) t.cps.toList) := by
  have hN : named (fun c => !decide (c ∈ e.cps.toList)) t.cps.toList = nmF (fun _ => true) [] (t.cps.toList.takeWhile (fun c => !decide (c ∈ e.cps.toList))) := nmF_take _ _ _
  rw [← toS_toList name, h2, hN, lnm_codes]
  refine congrArg toS (congrArg (nmF (fun _ => true) []) ?_)
  have : ∀ l : Tx, (∀ c ∈ l, c ∉ e.cps.toList) → l.takeWhile (fun c => !decide (c ∈ e.cps.toList)) = l := by
    intro l
    induction l with
    | nil => intro _; rfl
    | cons c r ih =>
      intro h
      rw [List.takeWhile_cons, if_pos (by simpa using h c (by simp)), ih fun d hd => h d (by simp [hd])]
  refine (this _ fun c hc => ?_).symm
  rw [← lnm_codes] at hc
  obtain ⟨d, hd, rfl⟩ := List.mem_map.mp hc
  exact h1 d hd
set_option maxHeartbeats 4000000 in
theorem lnamed_walk (w : World) (mean : ExcName → Option Value) (mg mb : Str → Option Value) (t e : Str) (tk tk2 : Tok) (ht : t.length ≤ 4096) (he : e.length ≤ 10)
   (dp un : Nat) (fr : Option (List Env)) (gd : Option (List Code)) (s : Shared) (R : Result → Shared → Prop) (G : Gd w mean mg mb s.heap) (hd1 : dp + 8 < recursionLimit) (hu1 : un + 40 < cLine)
   (kR : ∀ h' n' tk', (∀ b o, s.heap.get? b = some o → h'.get? b = some o) → R (.ok (.ret (.str (toS (named (fun c => !decide (c ∈ e.cps.toList)) t.cps.toList)) tk'))) { s with heap := h', toks := n' }) : codeAny (model pgm w) ⟨none, dp, fr, gd, un⟩ (.call (.ref 96) ⟨[Value.str t tk, Value.str e tk2], []⟩) R s := by
  have dummy : PySem.Challenge.rw_wa0019_01 = PySem.Challenge.rw_wa0019_01 → Mine.hd.heap_39 = Mine.hd.heap_39 → True := by
    k_fill
    intros; trivial
  clear dummy
  have kX := G.K
  have kT := G.T
  refine enter G (room0 hd1) (by k_is) (by k_is) (BindsTo.of_eq rfl) (locs rfl) (by decide) rfl rfl rfl ?_
  intro L' h' tk' eL' kk F' N'
  (try dsimp only)
  (try k_fold)
  (k_with "pyIter str" => k_state (fun pre name => (∀ c ∈ pre, c.toNat ∉ e.cps.toList) ∧ name.cps.toList = nmF (fun _ => true) [] (pre.map Int.toNat) ∧ name.length ≤ pre.length) "name")
  (k_with "state" => (first
    | exact lnm_dot (by assumption) (by assumption) (by assumption) (by assumption) (by assumption)
    | exact lnm_add (by assumption) (by assumption) (by assumption) (by assumption) (by assumption)
    | exact ⟨(fun _ h => nomatch h), by decide, by decide⟩))
  k_steps
  all_goals (
    (try dsimp only [qk])
    (first
     | (have e9 := lnm_out (by assumption) (by assumption) (by assumption) (by assumption))
     | (have e9 := lnm_end (by assumption) (by assumption)))
    rw [e9]
    exact kR _ _ _ (Fr.keep (by assumption)))
end Mine
end
/- CALLS -/
section
open PySem PySem.W PyProof.Rows
set_option maxRecDepth 100000
set_option genSizeOf false
set_option genInjectivity false
namespace Mine
open PySem.Builtin PySem.Builtin.Str

/-- what a call of a plain function of texts hands back, and what it leaves of the heap -/
noncomputable abbrev Back (R : Result → Shared → Prop) (s : Shared) (y : Str) : Prop :=
  ∀ h' n' tk', (∀ b o, s.heap.get? b = some o → h'.get? b = some o) → R (.ok (.ret (.str y tk'))) { s with heap := h', toks := n' }
noncomputable abbrev resOf (Q E : Value → Shared → Prop) : Result → Shared → Prop := fun r s' => match r with | .ok (.ret v) => Q v s' | .ok _ => False | .error e => E e s'

theorem Fr.ext {h₀ h h' : Heap} {L : Addr} {m : Str → Option Value} (F : Fr h₀ L h m) (hk : ∀ b o, h.get? b = some o → h'.get? b = some o) : Fr h₀ L h' m :=
  ⟨F.ns.keeps hk, fun b o e => hk b o (F.keep b o e), F.above⟩
theorem News.ext {h₀ h h' : Heap} {L : Addr} {news : List (Addr × Obj)} (N : News h₀ L h news) (hk : ∀ b o, h.get? b = some o → h'.get? b = some o) : News h₀ L h' news :=
  fun p hp => ⟨hk _ _ (N p hp).1, (N p hp).2.1, (N p hp).2.2⟩

section
variable {w : World} {mean : ExcName → Option Value} {mg mb : Str → Option Value} {A : Around} {h₀ : Heap} {L : Addr} {m : Str → Option Value} {news : List (Addr × Obj)} {s : Shared} {Q E : Value → Shared → Prop} {t e : Str} {tk tk2 : Tok}

theorem shorn_call (G : Gd w mean mg mb h₀) (F : Fr h₀ L s.heap m) (N : News h₀ L s.heap news) (hh : A.handled = none) (hd : A.depth + 8 < recursionLimit) (hu : A.units + 40 < cLine) (ht : t.length ≤ 4096)
    (h : ∀ h' n' tk', Fr h₀ L h' m → News h₀ L h' news → Q (.str (toS (shorn t.cps.toList)) tk') { s with heap := h', toks := n' }) : wpAny (model pgm w) A (call (.ref 89) [.str t tk]) Q E s := by
  obtain ⟨ah, dp, fr, gd, un⟩ := A
  cases hh
  exact wpAny_call (shorn_walk w mean mg mb t tk ht dp un fr gd s (resOf Q E) (G.keeps F.keep) hd hu fun h' n' tk' hk => h h' n' tk' (Fr.ext F hk) (News.ext N hk))
theorem lnamed_call (G : Gd w mean mg mb h₀) (F : Fr h₀ L s.heap m) (N : News h₀ L s.heap news) (hh : A.handled = none) (hd : A.depth + 8 < recursionLimit) (hu : A.units + 40 < cLine) (ht : t.length ≤ 4096) (he : e.length ≤ 10)
    (h : ∀ h' n' tk', Fr h₀ L h' m → News h₀ L h' news → Q (.str (toS (named (fun c => !decide (c ∈ e.cps.toList)) t.cps.toList)) tk') { s with heap := h', toks := n' }) : wpAny (model pgm w) A (call (.ref 96) [.str t tk, .str e tk2]) Q E s := by
  obtain ⟨ah, dp, fr, gd, un⟩ := A
  cases hh
  exact wpAny_call (lnamed_walk w mean mg mb t e tk tk2 ht he dp un fr gd s (resOf Q E) (G.keeps F.keep) hd hu fun h' n' tk' hk => h h' n' tk' (Fr.ext F hk) (News.ext N hk))
end

/-! ## lengths -/
theorem sh_length (t : Tx) : ∀ h b, (sh h b t).length ≤ h.length + t.length := by
  induction t with
  | nil => intro h b; simp [sh]
  | cons c r ih =>
    intro h b
    simp only [sh]
    split
    · split
      · have := ih [c] false; simp at *; omega
      · have := ih [] (decide (c = 92 ∧ b = false)); simp at *; omega
    · split
      · have := ih [] false; simp at *; omega
      · have := ih (h ++ [c]) (decide (c = 92 ∧ b = false)); simp at *; omega
theorem nmF_length (p : Nat → Bool) (t : Tx) : ∀ a, (nmF p a t).length ≤ a.length + t.length := by
  induction t with
  | nil => intro a; simp [nmF]
  | cons c r ih =>
    intro a
    simp only [nmF]
    split
    · split
      · have := ih []; simp at *; omega
      · have := ih (a ++ [c]); simp at *; omega
    · simp
theorem shorn_len (t : Tx) : (shorn t).length ≤ t.length := by have := sh_length t [] false; simpa [shorn] using this
theorem named_len (p : Nat → Bool) (t : Tx) : (named p t).length ≤ t.length := by have := nmF_length p t []; simpa [named] using this
theorem shorn_lenS (t : Str) : (toS (shorn t.cps.toList)).length ≤ t.length := by rw [toS_length]; have := shorn_len t.cps.toList; rw [len_list] at this; exact this
theorem named_lenS (p : Nat → Bool) (t : Str) : (toS (named p t.cps.toList)).length ≤ t.length := by rw [toS_length]; have := named_len p t.cps.toList; rw [len_list] at this; exact this

/-- values that are texts -/
inductive SA : List Value → List Str → Prop
  | nil : SA [] []
  | cons {v : Value} {vs : List Value} {x : Str} {xs : List Str} (tk : Tok) : v = .str x tk → SA vs xs → SA (v :: vs) (x :: xs)
theorem ends_E : (fun c => !decide (c ∈ (Str.ofString ":\n").cps.toList)) = pE := by
  have z : (Str.ofString ":\n").cps.toList = [58, 10] := by decide
  funext c
  rw [z]
  simp [pE, bne]
  by_cases h1 : c = 58 <;> by_cases h2 : c = 10 <;> simp [h1, h2]
theorem ends_C : (fun c => !decide (c ∈ (Str.ofString ":").cps.toList)) = pC := by
  have z : (Str.ofString ":").cps.toList = [58] := by decide
  funext c
  rw [z]
  simp [pC, bne]
  by_cases h1 : c = 58 <;> simp [h1]
end Mine
end
/- GEN1 -/
section
open PySem PySem.W PyProof.Rows
set_option maxRecDepth 100000
set_option genSizeOf false
set_option genInjectivity false
namespace Mine

section
variable {M : Model} {A : Around} {R : GenEnd} {Y : Protocol} {n : Nat} {s₀ : Shared} {c : Code} {fs : List Frame} {s : Shared} {env : Env}
  {K : Flow → Sem Fin} {H : Value → Sem Fin} {gd : Bool → Bool} {lv : List Value → List Value}

theorem seg_If {test : Expr} {body orelse : List Stmt} {pos : Pos}
    (h : wpAny M (A.over c fs) (isTrue test env (eval test env)) (fun b s' =>
      if b = true then Seg M A R Y n s₀ c ((execs body env).wrap K H gd lv) fs s' else Seg M A R Y n s₀ c ((execs orelse env).wrap K H gd lv) fs s') (fun _ _ => False) s) :
    Seg M A R Y n s₀ c ((exec (.If test body orelse pos) env).wrap K H gd lv) fs s := by
  rw [exec_If]
  show Seg M A R Y n s₀ c (.at pos fun _ => ((isTrue test env (eval test env) >>= fun b => if b = true then execs body env else execs orelse env) : Sem Flow).wrap K H gd lv) fs s
  refine seg_at ?_
  rw [Sem.bind_eq_wrap', Sem.wrap_wrap]
  refine seg_wrap (wpAny_mono h (fun b s' hb => ?_) fun _ _ x => x.elim)
  cases b with
  | true => rw [if_pos rfl] at hb; exact hb
  | false => rw [if_neg Bool.false_ne_true] at hb; exact hb

theorem seg_For {target iter : Expr} {body orelse : List Stmt} {pos : Pos}
    (h : wpAny M (A.over c fs) (eval iter env) (fun x s₁ => wpAny M (A.over c fs) (pyIter x) (fun it s₂ =>
      ∀ p, Seg M A R Y n s₀ (.forLoop target it body orelse env) (M.den (.forLoop target it body orelse env))
      (.ret (fun r => ((match r with | .ok f => (.pure f : Sem Flow) | .error e => .raise e).onRaise fun (x : Value) => do
        if (← field x 1) == Value.none then unsupported "frame.own-activation:exception-without-traceback"
        setFlight x env.frame).wrap K H gd lv) none (gd false) (lv []) c p [] :: fs) s₂) (fun _ _ => False) s₁) (fun _ _ => False) s)
    (hs : ∀ x, foldedSetIterable iter env x = pure x := by intro _; rfl) :
    Seg M A R Y n s₀ c ((exec (.For target iter body orelse pos) env).wrap K H gd lv) fs s := by
  rw [exec_For]
  show Seg M A R Y n s₀ c (.at pos fun _ => ((eval iter env >>= fun v => (foldedSetIterable iter env v >>= fun x => (standAt iter.pos >>= fun _ => (holding [x] (pyIter x) >>= fun it =>
    runOwn (.forLoop target it body orelse env) env)))) : Sem Flow).wrap K H gd lv) fs s
  refine seg_at ?_
  rw [Sem.bind_eq_wrap', Sem.wrap_wrap]
  refine seg_wrap (wpAny_mono h (fun x s₁ h₁ => ?_) fun _ _ x => x.elim)
  rw [hs x]
  show Seg M A R Y n s₀ c (.at iter.pos fun _ => ((holding [x] (pyIter x) >>= fun it => runOwn (.forLoop target it body orelse env) env) : Sem Flow).wrap K H gd lv) fs s₁
  refine seg_at ?_
  rw [Sem.bind_eq_wrap', Sem.wrap_wrap]
  refine seg_wrap (wpAny_holding (wpAny_mono h₁ (fun it s₂ h₂ => ?_) fun _ _ x => x.elim))
  exact seg_call h₂
end

section
variable {prog : Program} {w : World} {A : Around} {R : GenEnd} {Y : Protocol} {n : Nat} {s₀ : Shared} {fs : List Frame} {s : Shared} {env : Env}

noncomputable def forK (target : Expr) (it : Value) (body orelse : List Stmt) (env : Env) : Flow → Sem Fin := fun f => match f with
  | .next | .cont => .pure (.again (.forLoop target it body orelse env))
  | .brk => .pure (.done .next)
  | .ret v => .pure (.done (.ret v))
noncomputable def forH (env : Env) : Value → Sem Fin := fun e => (do noteFrame e env; theTreesLotGoes e : Sem Unit).wrap (fun _ => .raise e) .raise id id

theorem seg_forLoop {target : Expr} {it : Value} {body orelse : List Stmt}
    (h : wpAny (model prog w) (A.over (.forLoop target it body orelse env) fs) (pyNext it) (fun r s₁ => match r with
      | none => Seg (model prog w) A R Y n s₀ (.block orelse env) ((model prog w).den (.block orelse env)) fs s₁
      | some v => wpAny (model prog w) (A.over (.forLoop target it body orelse env) fs) (letOwnedTupleGo target it v) (fun _ s₂ =>
          wpAny (model prog w) (A.over (.forLoop target it body orelse env) fs) (assign target env v) (fun _ s₃ =>
            Seg (model prog w) A R Y n s₀ (.forLoop target it body orelse env) ((execs body env).wrap (forK target it body orelse env) (forH env) id id) fs s₃) (fun _ _ => False) s₂) (fun _ _ => False) s₁) (fun _ _ => False) s) :
    Seg (model prog w) A R Y n s₀ (.forLoop target it body orelse env) ((model prog w).den (.forLoop target it body orelse env)) fs s := by
  show Seg _ A R Y n s₀ _ ((forTurn target it body orelse env).onRaise (fun x => do noteFrame x env; theTreesLotGoes x)) fs s
  unfold forTurn
  rw [Sem.onRaise_eq_wrap]
  show Seg _ A R Y n s₀ _ (.at target.pos fun _ => (((pyNext it).onRaise (fun _ => standAt { target.pos with line := 0 }) >>= fun r => match r with
    | none => again (.block orelse env)
    | some v => (letOwnedTupleGo target it v >>= fun _ => (assign target env v >>= fun _ => (execs body env >>= fun f => match f with
      | .next | .cont => again (.forLoop target it body orelse env)
      | .brk => pure (.done .next)
      | .ret v => pure (.done (.ret v)))))) : Sem Fin).wrap .pure (fun e => (do noteFrame e env; theTreesLotGoes e : Sem Unit).bind fun _ => .raise e) id id) fs s
  refine seg_at ?_
  rw [Sem.bind_eq_wrap', Sem.wrap_wrap]
  refine seg_wrap (wpAny_onRaise (wpAny_mono h (fun r s₁ h₁ => ?_) fun _ _ x => x.elim))
  cases r with
  | none => exact seg_again rfl h₁
  | some v =>
    show Seg _ A R Y n s₀ _ (Sem.wrap _ _ _ _ (letOwnedTupleGo target it v >>= _)) fs s₁
    rw [Sem.bind_eq_wrap', Sem.wrap_wrap]
    refine seg_wrap (wpAny_mono h₁ (fun _ s₂ h₂ => ?_) fun _ _ x => x.elim)
    rw [Sem.bind_eq_wrap', Sem.wrap_wrap]
    refine seg_wrap (wpAny_mono h₂ (fun _ s₃ h₃ => ?_) fun _ _ x => x.elim)
    rw [Sem.bind_eq_wrap', Sem.wrap_wrap]
    rw [Sem.wrap_congr (execs body env) _ _ (K' := forK target it body orelse env) (H' := forH env) (fun f => by cases f <;> rfl) (fun e => by
      first | exact Sem.bind_eq_wrap _ _ | (show (do noteFrame e env; theTreesLotGoes e : Sem Unit).bind (fun _ => .raise e) = _; rw [Sem.bind_eq_wrap]; rfl))]
    exact h₃
theorem seg_block_nil (h : Seg (model prog w) A R Y n s₀ (.block [] env) (.pure (.done .next)) fs s) :
    Seg (model prog w) A R Y n s₀ (.block [] env) ((model prog w).den (.block [] env)) fs s := h
end
end Mine
end
/- GEN2 -/
section
open PySem PySem.W PyProof.Rows
set_option maxRecDepth 100000
set_option genSizeOf false
set_option genInjectivity false
namespace Mine
open PySem.Builtin PySem.Builtin.Str

/-- what _iter_escaped_chars yields: place and signs -/
noncomputable def evF (i last : Nat) (esc : Bool) : Tx → List (Nat × Tx)
  | [] => if esc then [(last, [92])] else []
  | c :: r => if esc then (i, [92, c]) :: evF (i + 1) i false r else if c = 92 then evF (i + 1) i true r else (i, [c]) :: evF (i + 1) i false r

section
variable {prog : Program} {w : World} {A : Around} {E : Value → Shared → Prop} {s : Shared} {env : Env} {m : Str → Option Value}

theorem ev_local {x : Str} {p : Pos} {v : Value} {Q : Value → Shared → Prop} (hk : env.scope.kind = .function) (hl : env.kindOf x = some .local) (hn : s.heap.Ns env.locals m) (hv : m x = some v) (h : Q v s)
    (hd : (x == ("__debug__" : Str)) = false := by decide) : wpAny (model prog w) A (eval (.Name x p) env) Q E s := wpAny_Name (wpAny_loadName_local hk hl hn hv h) hd
theorem fn_block (hk : env.scope.kind = .function) : (env.scope.kind == .class || (env.scope.kind == .module && env.locals != env.globals)) = false := by rw [hk]; rfl
theorem assign_two {x1 x2 : Str} {p1 p2 pos : Pos} {k : Nat} {T : Addr} {v1 v2 : Value} {Q : Unit → Shared → Prop} (hh : A.handled = none) (hk : env.scope.kind = .function) (hl1 : env.kindOf x1 = some .local) (hl2 : env.kindOf x2 = some .local)
    (ht : s.heap.IsTuple T #[v1, v2]) (hn : s.heap.Ns env.locals m)
    (h : ∀ h' n', h'.Ns env.locals (fun y => if y = x2 then some v2 else if y = x1 then some v1 else m y) → (∀ b o, b ≠ env.locals → s.heap.get? b = some o → h'.get? b = some o) → Q () { s with heap := h', toks := n' }) :
    wpAny (model prog w) A (assign (.Tuple [.Name x1 p1, .Name x2 p2] k pos) env (.ref T)) Q E s := by
  refine wpAny_assign_Tuple hh ht rfl rfl fun h₃ hx₃ => ?_
  have old₃ : ∀ b o, s.heap.get? b = some o → h₃.get? b = some o := fun b o e => hx₃ b o (Nat.ne_of_lt (Heap.lt_size e)) e
  show wpAny _ A (do holding [v2] (assign (.Name x1 p1) env v1); do holding [] (assign (.Name x2 p2) env v2); pure ()) _ _ _
  refine wpAny_bind (wpAny_holding (wpAny_assign_Name (wpAny_storeName_local hl1 (hn.keeps old₃) (fun h₄ hn₄ hs₄ => ?_) (fn_block hk))))
  refine wpAny_bind (wpAny_holding (wpAny_assign_Name (wpAny_storeName_local hl2 hn₄ (fun h₅ hn₅ hs₅ => wpAny_pure ?_) (fn_block hk))))
  exact h h₅ _ hn₅ fun b o hb e => hs₅.extBut b o hb (hs₄.extBut b o hb (old₃ b o e))
theorem enum_walks {A : Around} (hh : A.handled = none) (e it : Addr) (hei : e ≠ it) (x : Str) (t : Tok) :
    WalksT prog w A e [e, it] [e, it] x.cps.size (fun i vals => ∃ t' v, (∃ c u, x.cps[i]? = some c ∧ v = .str ⟨#[c]⟩ u) ∧ vals = #[.int i t', v])
      (fun i h => (∃ old, IsEnum h e it i old) ∧ h.IsStrIter it (strIterType x) x t i)
      (fun i T h => (∃ v, IsEnumOut h e it ((i : Int) + 1) v T) ∧ h.IsStrIter it (strIterType x) x t (i + 1) ∧ T ≠ e ∧ T ≠ it) := by
  cases ha : x.cps.all (· < 128)
  · have hs : strIterType x = "str_iterator" := by simp [strIterType, ha]
    rw [hs]
    exact WalksT.enumerateD (Draws.strWide (A := A.in1) hh it x t) e hei (by simpa using hei) (by simp)
  · have hs : strIterType x = "str_ascii_iterator" := by simp [strIterType, ha]
    rw [hs]
    exact WalksT.enumerateD (Draws.strAscii (A := A.in1) hh it x t) e hei (by simpa using hei) (by simp)
end

/-- the state of the generator at its loop's head: the frame L, the enumerate object, the text's iterator; i signs are taken -/
structure GS (L e it : Addr) (t : Str) (ta : Tok) (i last : Nat) (esc : Bool) (h : Heap) : Prop where
  m : ∃ m tp, h.Ns L m ∧ m (Str.ofString "pos") = some (.int last tp) ∧ m (Str.ofString "escape") = some (.bool esc)
  en : ∃ old, IsEnum h e it i old
  si : h.IsStrIter it (strIterType t) t ta i
theorem GS.at {L e it : Addr} {t : Str} {ta : Tok} {i last : Nat} {esc : Bool} {h h' : Heap} (g : GS L e it t ta i last esc h) (hk : ∀ b ∈ [L, e, it], ∀ o, h.get? b = some o → h'.get? b = some o) : GS L e it t ta i last esc h' := by
  obtain ⟨⟨m, tp, a, b, c⟩, ⟨old, d⟩, si⟩ := g
  refine ⟨⟨m, tp, a.at fun o x => hk L (by simp) o x, b, c⟩, ⟨old, hk e (by simp) _ d⟩, ?_⟩
  obtain ⟨o, ho, r⟩ := si
  exact ⟨o, hk it (by simp) o ho, r⟩

/-- the word between the generator and its loop -/
noncomputable def Yp (W : List Addr) (evs : List (Nat × Tx)) : Protocol := fun n s₀ v s₁ kap =>
  ∃ (T p : Nat) (x : Tx) (rest pre : List (Nat × Tx)) (tp tx : Tok), v = .ref T ∧ evs = pre ++ (p, x) :: rest ∧ rest.length = n ∧ s₁.heap.IsTuple T #[.int p tp, .str (toS x) tx] ∧
    (∀ b o, b ∉ W → s₀.heap.get? b = some o → s₁.heap.get? b = some o) ∧ s₁.gens = s₀.gens ∧ s₁.os = s₀.os ∧ s₁.drawn = s₀.drawn ∧
    ∀ s'' : Shared, (∀ b ∈ W, ∀ o, s₁.heap.get? b = some o → s''.heap.get? b = some o) → kap (.send .none) s''
/-- the generator's own end -/
noncomputable def Rp (W : List Addr) : GenEnd := fun n s₀ r s₁ => r = .ok (.ret .none) ∧ n = 0 ∧ (∀ b o, b ∉ W → s₀.heap.get? b = some o → s₁.heap.get? b = some o) ∧ s₁.gens = s₀.gens ∧ s₁.os = s₀.os ∧ s₁.drawn = s₀.drawn

/-- since the generator was woken -/
structure Since (W : List Addr) (s₀ s : Shared) : Prop where
  keep : ∀ b o, b ∉ W → s₀.heap.get? b = some o → s.heap.get? b = some o
  gens : s.gens = s₀.gens
  os : s.os = s₀.os
  drawn : s.drawn = s₀.drawn
theorem Since.refl (W : List Addr) (s : Shared) : Since W s s := ⟨fun _ _ _ e => e, rfl, rfl, rfl⟩
theorem Since.more {W : List Addr} {s₀ s : Shared} (S : Since W s₀ s) {h' : Heap} {tk : Nat} (hk : ∀ b o, b ∉ W → s.heap.get? b = some o → h'.get? b = some o) : Since W s₀ { s with heap := h', toks := tk } :=
  ⟨fun b o hb e => hk b o hb (S.keep b o hb e), S.gens, S.os, S.drawn⟩

section
variable {prog : Program} {w : World} {A : Around} {n : Nat} {s₀ : Shared} {c : Code} {fs : List Frame} {s : Shared} {env : Env} {W : List Addr} {evs : List (Nat × Tx)}
  {K : Flow → Sem Fin} {H : Value → Sem Fin} {gd : Bool → Bool} {lv : List Value → List Value}

/-- one yield of a pair -/
theorem seg_pair {elts : List Expr} {k : Nat} {p1 p2 p3 : Pos} {p : Nat} {x : Tx} {rest pre : List (Nat × Tx)} (hfs : splitAtGen fs = none) (hgd : gd false = false) (hfg : fs.any Frame.guarded = false)
    (hev : evs = pre ++ (p, x) :: rest) (hn : rest.length = n) (S : Since W s₀ s)
    (hel : wpAny (model prog w) (A.over c fs) (spliced (backTo p1 (starEach elts env))) (fun vs s₁ => ∃ tp tx n', vs = [.int p tp, .str (toS x) tx] ∧ s₁ = { s with toks := n' }) (fun _ _ => False) s)
    (hco : env.scope.isCoroutine = false) (hi : interactive env = false)
    (h : ∀ s'', (∀ b ∈ W, ∀ o, s.heap.get? b = some o → s''.heap.get? b = some o) → Seg (model prog w) A (Rp W) (Yp W evs) n s'' c (K .next) fs s'') :
    Seg (model prog w) A (Rp W) (Yp W evs) (n + 1) s₀ c ((exec (.Expr (.Yield (some (.Tuple elts k p1)) p2) p3) env).wrap K H gd lv) fs s := by
  refine seg_Expr_Yield hfs hgd hfg (wpAny_mono (wpAny_Tuple (Q := fun v s₁ => ∃ tp tx n', v = .ref s.heap.objs.size ∧ s₁ = { s with heap := s.heap.push { cls := .type "tuple", data := .seq #[.int p tp, .str (toS x) tx] }, toks := n' })
    (wpAny_mono hel (fun vs s₁ h₁ => ?_) fun _ _ x => x)) (fun v s₁ h₁ => ?_) fun _ _ x => x.elim) hco hi
  · obtain ⟨tp, tx, n', rfl, rfl⟩ := h₁
    exact ⟨by rw [sizeLine_eq]; exact (by decide : 2 ≤ 16777216), tp, tx, n', rfl, rfl⟩
  · obtain ⟨tp, tx, n', rfl, rfl⟩ := h₁
    intro kap hk
    have keep : ∀ b o, s.heap.get? b = some o → (s.heap.push { cls := .type "tuple", data := .seq #[.int p tp, .str (toS x) tx] }).get? b = some o := fun b o e => Heap.get?_push_of_some _ e
    refine ⟨s.heap.objs.size, p, x, rest, pre, tp, tx, rfl, hev, hn, ⟨_, Heap.get?_push_size _ rfl, rfl, _, rfl⟩, fun b o hb e => keep b o (S.keep b o hb e), S.gens, S.os, S.drawn, fun s'' hs => ?_⟩
    exact hk .none s'' (h s'' fun b hb o e => hs b hb o (keep b o e))

theorem over_one {k : Result → Sem Fin} {g : Bool} {l : List Value} {c₁ : Code} {p₁ : Pos} {kp : List Value} (hA : A.handled = none) : (A.over c [.ret k none g l c₁ p₁ kp]).handled = none := by
  show (marksOver _ _).1 = none
  simp [marksOver, Frame.marks, markOver, hA]
theorem over_nil (hA : A.handled = none) : (A.over c []).handled = none := hA

theorem drop_cons {l : List Nat} {i c : Nat} {r : List Nat} (h : l.drop i = c :: r) : l[i]? = some c ∧ l.drop (i + 1) = r ∧ i < l.length := by
  have h1 : l[i]? = some c := by
    have : (l.drop i)[0]? = some c := by rw [h]; rfl
    rw [List.getElem?_drop] at this
    simpa using this
  obtain ⟨hi, _⟩ := List.getElem?_eq_some_iff.mp h1
  refine ⟨h1, ?_, hi⟩
  have : l.drop (i + 1) = (l.drop i).drop 1 := by rw [List.drop_drop]
  rw [this, h]; rfl

theorem gen_turns {t : Str} {ta : Tok} {e it : Addr}  
    (hk : env.scope.kind = .function) (hl1 : env.kindOf (Str.ofString "pos") = some .local) (hl2 : env.kindOf (Str.ofString "ch") = some .local) (hl3 : env.kindOf (Str.ofString "escape") = some .local)
    (hco : env.scope.isCoroutine = false) (hi : interactive env = false) (hh : ∀ c, (A.over c fs).handled = none) (hfs : splitAtGen fs = none) (hfg : fs.any Frame.guarded = false)
    (hLe : env.locals ≠ e) (hLi : env.locals ≠ it) (hei : e ≠ it)
    (hend : ∀ last esc n (s₀ s : Shared), (∃ pre, evs = pre ++ evF t.cps.size last esc []) → (evF t.cps.size last esc []).length = n → (∃ m tp, s.heap.Ns env.locals m ∧ m (Str.ofString "pos") = some (.int (last : Nat) tp) ∧ m (Str.ofString "escape") = some (.bool esc)) → Since [env.locals, e, it] s₀ s →
      Seg (model prog w) A (Rp [env.locals, e, it]) (Yp [env.locals, e, it] evs) n s₀ (.block [] env) (.pure (.done .next)) fs s) :
    ∀ (rest : Tx) (i last : Nat) (esc : Bool) (n : Nat) (s₀ s : Shared), i ≤ t.cps.size → t.cps.toList.drop i = rest → (evF i last esc rest).length = n → (∃ pre, evs = pre ++ evF i last esc rest) → GS env.locals e it t ta i last esc s.heap → Since [env.locals, e, it] s₀ s →
      Seg (model prog w) A (Rp [env.locals, e, it]) (Yp [env.locals, e, it] evs) n s₀
        (.forLoop (.Tuple [.Name (Str.ofString "pos") (⟨18, 8, 18, 11⟩ : Pos), .Name (Str.ofString "ch") (⟨18, 13, 18, 15⟩ : Pos)] 0 (⟨18, 8, 18, 15⟩ : Pos)) (.ref e)
          [.If (.Name (Str.ofString "escape") (⟨19, 11, 19, 17⟩ : Pos))
            [.Expr (.Yield (some (.Tuple [.Name (Str.ofString "pos") (⟨20, 19, 20, 22⟩ : Pos), .BinOp (.Constant (.str (Str.ofString "\\")) 0 (⟨20, 24, 20, 28⟩ : Pos)) .Add (.Name (Str.ofString "ch") (⟨20, 31, 20, 33⟩ : Pos)) (⟨20, 24, 20, 33⟩ : Pos)] 0 (⟨20, 18, 20, 34⟩ : Pos))) (⟨20, 12, 20, 34⟩ : Pos)) (⟨20, 12, 20, 34⟩ : Pos),
             .Assign [.Name (Str.ofString "escape") (⟨21, 12, 21, 18⟩ : Pos)] (.Constant (.bool false) 0 (⟨21, 21, 21, 26⟩ : Pos)) (⟨21, 12, 21, 26⟩ : Pos)]
            [.If (.Compare (.Name (Str.ofString "ch") (⟨22, 13, 22, 15⟩ : Pos)) [.Eq] [.Constant (.str (Str.ofString "\\")) 0 (⟨22, 19, 22, 23⟩ : Pos)] (⟨22, 13, 22, 23⟩ : Pos))
              [.Assign [.Name (Str.ofString "escape") (⟨23, 12, 23, 18⟩ : Pos)] (.Constant (.bool true) 0 (⟨23, 21, 23, 25⟩ : Pos)) (⟨23, 12, 23, 25⟩ : Pos)]
              [.Expr (.Yield (some (.Tuple [.Name (Str.ofString "pos") (⟨25, 19, 25, 22⟩ : Pos), .Name (Str.ofString "ch") (⟨25, 24, 25, 26⟩ : Pos)] 0 (⟨25, 18, 25, 27⟩ : Pos))) (⟨25, 12, 25, 27⟩ : Pos)) (⟨25, 12, 25, 27⟩ : Pos)] (⟨22, 8, 25, 27⟩ : Pos)] (⟨19, 8, 25, 27⟩ : Pos)] [] env)
        ((model prog w).den (.forLoop (.Tuple [.Name (Str.ofString "pos") (⟨18, 8, 18, 11⟩ : Pos), .Name (Str.ofString "ch") (⟨18, 13, 18, 15⟩ : Pos)] 0 (⟨18, 8, 18, 15⟩ : Pos)) (.ref e)
          [.If (.Name (Str.ofString "escape") (⟨19, 11, 19, 17⟩ : Pos))
            [.Expr (.Yield (some (.Tuple [.Name (Str.ofString "pos") (⟨20, 19, 20, 22⟩ : Pos), .BinOp (.Constant (.str (Str.ofString "\\")) 0 (⟨20, 24, 20, 28⟩ : Pos)) .Add (.Name (Str.ofString "ch") (⟨20, 31, 20, 33⟩ : Pos)) (⟨20, 24, 20, 33⟩ : Pos)] 0 (⟨20, 18, 20, 34⟩ : Pos))) (⟨20, 12, 20, 34⟩ : Pos)) (⟨20, 12, 20, 34⟩ : Pos),
             .Assign [.Name (Str.ofString "escape") (⟨21, 12, 21, 18⟩ : Pos)] (.Constant (.bool false) 0 (⟨21, 21, 21, 26⟩ : Pos)) (⟨21, 12, 21, 26⟩ : Pos)]
            [.If (.Compare (.Name (Str.ofString "ch") (⟨22, 13, 22, 15⟩ : Pos)) [.Eq] [.Constant (.str (Str.ofString "\\")) 0 (⟨22, 19, 22, 23⟩ : Pos)] (⟨22, 13, 22, 23⟩ : Pos))
              [.Assign [.Name (Str.ofString "escape") (⟨23, 12, 23, 18⟩ : Pos)] (.Constant (.bool true) 0 (⟨23, 21, 23, 25⟩ : Pos)) (⟨23, 12, 23, 25⟩ : Pos)]
              [.Expr (.Yield (some (.Tuple [.Name (Str.ofString "pos") (⟨25, 19, 25, 22⟩ : Pos), .Name (Str.ofString "ch") (⟨25, 24, 25, 26⟩ : Pos)] 0 (⟨25, 18, 25, 27⟩ : Pos))) (⟨25, 12, 25, 27⟩ : Pos)) (⟨25, 12, 25, 27⟩ : Pos)] (⟨22, 8, 25, 27⟩ : Pos)] (⟨19, 8, 25, 27⟩ : Pos)] [] env)) fs s := by
  have nE1 : ¬ Str.ofString "escape" = Str.ofString "ch" := by decide
  have nE2 : ¬ Str.ofString "escape" = Str.ofString "pos" := by decide
  have nP1 : ¬ Str.ofString "pos" = Str.ofString "ch" := by decide
  have nP2 : ¬ Str.ofString "pos" = Str.ofString "escape" := by decide
  have z92 : Str.ofString "\\" = ⟨#[92]⟩ := by decide
  intro rest
  induction rest with
  | nil =>
    intro i last esc n s₀ s hi0 hd hn hev g S
    have hsz : i = t.cps.size := by
      exact Nat.le_antisymm hi0 (List.drop_eq_nil_iff.mp hd)
    subst hsz
    obtain ⟨⟨m, tp, hm, hp, he⟩, hst⟩ := g
    refine seg_forLoop ?_
    refine (enum_walks (hh _) e it hei t ta).done _ _ _ ⟨hst, by assumption⟩ fun h' tk hk' => ?_
    refine seg_block_nil (hend last esc n s₀ _ hev hn ⟨m, tp, hm.at fun o x => hk' _ o (by simp [hLe, hLi]) x, hp, he⟩ (S.more fun b o hb x => hk' b o (fun q => hb (List.mem_cons_of_mem _ q)) x))
  | cons c r ih =>
    intro i last esc n s₀ s hi0 hd hn hev g S
    obtain ⟨hci, hdr, hlt⟩ := drop_cons hd
    have hlt' : i < t.cps.size := hlt
    obtain ⟨⟨m, tp, hm, hp, he⟩, hst, hsi⟩ := g
    refine seg_forLoop ?_
    refine (enum_walks (hh _) e it hei t ta).item i s _ _ hlt' ⟨hst, hsi⟩ fun T vals h' tk hP _ hT hMid hk' => ?_
    obtain ⟨t', v, ⟨c', u, hc', rfl⟩, rfl⟩ := hP
    have hcc : c' = c := by
      have : t.cps.toList[i]? = some c' := by simpa using hc'
      rw [hci] at this
      exact (Option.some.inj this).symm
    subst hcc
    have hTa := (enum_walks (prog := prog) (w := w) (A := {}) rfl e it hei t ta).apart i T h' hMid
    refine (enum_walks (hh _) e it hei t ta).go _ _ _ i T _ _ _ hMid fun h₂ hSt₂ hk₂ => ?_
    have hm₂ : h₂.Ns env.locals m := (hm.at fun o x => hk' _ o (by simp [hLe, hLi]) x).at fun o x => hk₂ _ o (by simp [hLe, hLi]) x
    have hT₂ : h₂.IsTuple T #[.int i t', .str ⟨#[c']⟩ u] := by
      obtain ⟨o, ho, q⟩ := hT
      exact ⟨o, hk₂ _ o hTa ho, q⟩
    refine assign_two (hh _) hk hl1 hl2 hT₂ hm₂ fun h₃ n₃ hn₃ hk₃ => ?_
    have S₃ : Since [env.locals, e, it] s₀ { s with heap := h₃, toks := n₃ } := S.more fun b o hb x => hk₃ b o (fun q => hb (by simp [q])) (hk₂ b o (fun q => hb (List.mem_cons_of_mem _ q)) (hk' b o (fun q => hb (List.mem_cons_of_mem _ q)) x))
    have st₃ : (∃ old, IsEnum h₃ e it ((i + 1 : Nat) : Int) old) ∧ h₃.IsStrIter it (strIterType t) t ta (i + 1) := by
      obtain ⟨⟨old, a⟩, ⟨o, ho, q⟩⟩ := hSt₂
      exact ⟨⟨old, hk₃ e _ (Ne.symm hLe) a⟩, ⟨o, hk₃ it o (Ne.symm hLi) ho, q⟩⟩
    refine seg_execs_cons (seg_If ?_)
    refine wpAny_isTrue_value (ev_local hk hl3 hn₃ ((if_neg nE1).trans ((if_neg nE2).trans he)) (wpAny_truthy_bool ?_))
    cases esc with
    | true =>
      rw [if_pos rfl]
      have ev : evF i last true (c' :: r) = (i, [92, c']) :: evF (i + 1) i false r := rfl
      rw [ev] at hn hev
      obtain ⟨pre, hev⟩ := hev
      subst hn
      refine seg_execs_cons (seg_pair hfs rfl hfg hev rfl S₃ ?_ hco hi fun s'' hs => ?_)
      · refine wpAny_items_cons (ev_local hk hl1 hn₃ ((if_neg nP1).trans (if_pos rfl)) (wpAny_items_cons (wpAny_BinOp (wpAny_Constant_str (ev_local (s := { s with heap := h₃, toks := n₃ + 1 }) hk hl2 hn₃ (if_pos rfl) (P.add_str ?_))))))
        rw [z92]
        refine ⟨by rw [sizeLine_eq]; exact (by decide : 2 ≤ 16777216), wpAny_items_nil ⟨_, _, _, rfl, rfl⟩⟩
      · have g'' : ∃ m', s''.heap.Ns env.locals m' ∧ m' (Str.ofString "pos") = some (.int i t') := ⟨_, hn₃.at fun o x => hs _ (by simp) o x, (if_neg nP1).trans (if_pos rfl)⟩
        obtain ⟨m', hm', hp'⟩ := g''
        refine seg_execs_cons (seg_wrap (wpAny_Assign_Name (wpAny_Constant_bool (wpAny_storeName_local hl3 hm' (fun h₅ hn₅ hs₅ => ?_) (fn_block hk))) rfl))
        refine seg_execs_nil (seg_again rfl (ih (i + 1) i false _ s'' _ hlt' hdr rfl ⟨pre ++ [(i, [92, c'])], by rw [hev]; simp⟩ ⟨⟨_, t', hn₅, (if_neg nP2).trans hp', if_pos rfl⟩, ?_, ?_⟩ ⟨fun b o hb x => hs₅.extBut b o (fun q => hb (by simp [q])) x, rfl, rfl, rfl⟩))
        · obtain ⟨⟨old, a⟩, _⟩ := st₃
          exact ⟨old, hs₅.extBut e _ (Ne.symm hLe) (hs e (by simp) _ a)⟩
        · obtain ⟨_, ⟨o, ho, q⟩⟩ := st₃
          exact ⟨o, hs₅.extBut it _ (Ne.symm hLi) (hs it (by simp) _ ho), q⟩
    | false =>
      rw [if_neg Bool.false_ne_true]
      refine seg_execs_cons (seg_If ?_)
      refine wpAny_isTrue_Compare1 (ev_local hk hl2 hn₃ (if_pos rfl) (wpAny_Constant_str (P.eq_str (wpAny_truthy_bool ?_))))
      rw [z92]
      by_cases hc92 : c' = 92
      · subst hc92
        rw [if_pos (by rfl)]
        have ev : evF i last false (92 :: r) = evF (i + 1) i true r := rfl
        rw [ev] at hn hev
        refine seg_execs_cons (seg_wrap (wpAny_Assign_Name (wpAny_Constant_bool (wpAny_storeName_local hl3 hn₃ (fun h₅ hn₅ hs₅ => ?_) (fn_block hk))) rfl))
        refine seg_execs_nil (seg_execs_nil (seg_execs_nil (seg_again rfl (ih (i + 1) i true _ s₀ _ hlt' hdr hn hev ⟨⟨_, t', hn₅, (if_neg nP2).trans ((if_neg nP1).trans (if_pos rfl)), if_pos rfl⟩, ?_, ?_⟩ ?_))))
        · obtain ⟨⟨old, a⟩, _⟩ := st₃
          exact ⟨old, hs₅.extBut e _ (Ne.symm hLe) a⟩
        · obtain ⟨_, ⟨o, ho, q⟩⟩ := st₃
          exact ⟨o, hs₅.extBut it _ (Ne.symm hLi) ho, q⟩
        · exact ⟨fun b o hb x => hs₅.extBut b o (fun q => hb (by simp [q])) (S₃.keep b o hb x), S₃.gens, S₃.os, S₃.drawn⟩
      · rw [if_neg (by simpa using hc92)]
        have ev : evF i last false (c' :: r) = (i, [c']) :: evF (i + 1) i false r := by simp [evF, hc92]
        rw [ev] at hn hev
        obtain ⟨pre, hev⟩ := hev
        subst hn
        refine seg_execs_cons (seg_pair hfs rfl hfg hev rfl ⟨S₃.keep, S₃.gens, S₃.os, S₃.drawn⟩ ?_ hco hi fun s'' hs => ?_)
        · exact wpAny_items_cons (ev_local hk hl1 hn₃ ((if_neg nP1).trans (if_pos rfl)) (wpAny_items_cons (ev_local hk hl2 hn₃ (if_pos rfl) (wpAny_items_nil ⟨_, _, _, rfl, rfl⟩))))
        · refine seg_execs_nil (seg_execs_nil (seg_execs_nil (seg_again rfl (ih (i + 1) i false _ s'' s'' hlt' hdr rfl ⟨pre ++ [(i, [c'])], by rw [hev]; simp⟩ ⟨⟨_, t', hn₃.at fun o x => hs _ (by simp) o x, (if_neg nP1).trans (if_pos rfl), (if_neg nE1).trans ((if_neg nE2).trans he)⟩, ?_, ?_⟩ (Since.refl _ _)))))
          · obtain ⟨⟨old, a⟩, _⟩ := st₃
            exact ⟨old, hs e (by simp) _ a⟩
          · obtain ⟨_, ⟨o, ho, q⟩⟩ := st₃
            exact ⟨o, hs it (by simp) _ ho, q⟩
end
end Mine
end
/- JOIN -/
section
open PySem PySem.W PyProof.Rows
set_option maxRecDepth 100000
set_option genSizeOf false
set_option genInjectivity false
namespace Mine
open PySem.Builtin PySem.Builtin.Str

theorem SA.strValues {vs : List Value} {xs : List Str} (h : SA vs xs) : ∃ l : List (Str × Tok), strValues l = vs ∧ l.map (·.1) = xs := by
  induction h with
  | nil => exact ⟨[], rfl, rfl⟩
  | @cons v vs x xs tk e _ ih =>
    obtain ⟨l, h1, h2⟩ := ih
    exact ⟨(x, tk) :: l, by subst e; simp [PySem.strValues, ← h1], by simp [h2]⟩
theorem SA.length {vs : List Value} {xs : List Str} (h : SA vs xs) : vs.length = xs.length := by
  induction h with
  | nil => rfl
  | cons _ _ _ ih => simp [ih]
theorem SA.append {vs us : List Value} {xs ys : List Str} (h : SA vs xs) (h' : SA us ys) : SA (vs ++ us) (xs ++ ys) := by
  induction h with
  | nil => exact h'
  | cons tk e _ ih => exact SA.cons tk e ih
theorem SA.snoc {vs : List Value} {xs : List Str} {x : Str} {tk : Tok} (h : SA vs xs) : SA (vs ++ [.str x tk]) (xs ++ [x]) := h.append (SA.cons tk rfl SA.nil)
theorem toS_nil : toS [] = Str.ofString "" := by decide
theorem toS_append (a b : Tx) : toS (a ++ b) = toS a ++ toS b := by
  show Str.mk _ = Str.mk _
  congr 1
  apply Array.ext'
  simp [toS]
theorem glue_fold (l : List Tx) : ∀ acc : Array Nat, ((l.map toS).foldl (fun acc p => acc ++ (Str.ofString "").cps ++ p.cps) acc).toList = acc.toList ++ l.flatten := by
  induction l with
  | nil => intro acc; simp
  | cons a r ih =>
    intro acc
    have z : (Str.ofString "").cps = #[] := by decide
    rw [List.map_cons, List.foldl_cons, ih, z]
    simp [toS]
theorem join_toS (xs : List Tx) : Txt.join (Str.ofString "") (xs.map toS) = toS xs.flatten := by
  show glued _ _ = _
  cases xs with
  | nil => decide
  | cons a r =>
    show Str.mk _ = Str.mk _
    congr 1
    apply Array.ext'
    have := glue_fold r (toS a).cps
    simp only [List.map_cons, List.drop_succ_cons, List.drop_zero, List.headD_cons]
    rw [this]
    simp [toS]
theorem join_fits (xs : List Tx) (h : xs.flatten.length ≤ 65536) : JoinOk (Str.ofString "") (xs.map toS) = true := by
  unfold JoinOk
  rw [StrLaws.joinTotal]
  have z : (Str.ofString "").length = 0 := by decide
  have e : ((xs.map toS).map (·.length)).sum = xs.flatten.length := by
    rw [List.map_map]
    have : (fun (x : Str) => x.length) ∘ toS = List.length := by funext l; exact toS_length l
    rw [this, List.length_flatten]
  rw [z, e, Nat.mul_zero, Nat.add_zero]
  simp only [tooLong, Bool.not_eq_true', decide_eq_false_iff_not]
  rw [sizeLine_eq]
  exact Nat.not_lt.mpr (leBig h)
section
variable {prog : Program} {w : World} {A : Around} {E : Value → Shared → Prop} {s : Shared} {Q : Value → Shared → Prop}
theorem join_SA {D : Addr} {its : Array Value} {xs : List Tx} {t : Tok} (hl : s.heap.IsList D its) (hs : SA its.toList (xs.map toS)) (hb : xs.flatten.length ≤ 65536)
    (h : ∀ t' k, Q (.str (toS xs.flatten) t') { s with toks := k }) : wpAny (model prog w) A (call (.builtin "str.join") [.str (Str.ofString "") t, .ref D]) Q E s := by
  obtain ⟨l, h1, h2⟩ := hs.strValues
  have hl' : s.heap.IsList D (strValues l).toArray := by rw [h1]; simpa using hl
  refine SC.join hl' h2 (join_fits xs hb) fun t' k => ?_
  rw [join_toS]
  exact h t' k
end

theorem slice_cut (x : Str) {a b : Nat} (ha : a ≤ x.length) (hb : b ≤ x.length) : Txt.slice x (some (a : Int)) (some (b : Int)) = toS ((x.cps.toList.take b).drop a) := by
  show StrLaws.sliceText x (some (a : Int)) (some (b : Int)) = _
  by_cases hab : a ≤ b
  · rw [StrLaws.sliceText_nat x hab hb, List.drop_take]; rfl
  · have e : strSliceIndices (some (a : Int)) (some (b : Int)) 1 x.length = [] := by
      have h0 : ¬ ((a : Int) < 0) := Int.not_lt.mpr (Int.natCast_nonneg a)
      have h1 : ¬ ((b : Int) < 0) := Int.not_lt.mpr (Int.natCast_nonneg b)
      have h2 : (1 : Int) > 0 := by decide
      have h3 : ¬ (max (0 : Int) (min a x.length) < max (0 : Int) (min b x.length)) := by
        rw [Int.min_eq_left (Int.ofNat_le.mpr ha), Int.min_eq_left (Int.ofNat_le.mpr hb), Int.max_eq_right (Int.natCast_nonneg a), Int.max_eq_right (Int.natCast_nonneg b)]
        exact fun q => hab (Nat.le_of_lt (Int.ofNat_lt.mp q))
      simp only [strSliceIndices, sliceRange, h0, h1, h2, h3, if_false, if_true]
      rfl
    unfold StrLaws.sliceText
    rw [e, List.drop_eq_nil_of_le (Nat.le_trans (List.length_take_le b _) (Nat.le_of_lt (Nat.lt_of_not_le hab)))]
    split
    · rename_i h
      have h' : 0 = x.length := by simpa using h
      have : x.length = 0 := h'.symm
      cases x with
      | mk c => simp [Str.length] at this; subst this; rfl
    · rfl
theorem slice_tail (x : Str) {a : Nat} (ha : a ≤ x.length) : Txt.slice x (some (a : Int)) none = toS (x.cps.toList.drop a) := by
  show StrLaws.sliceText x (some (a : Int)) none = _
  rw [StrLaws.sliceText_from ⟨Int.natCast_nonneg a, by rw [len_list]; exact Int.ofNat_le.mpr ha⟩]
  simp only [toS]
  congr 1
  rw [List.take_of_length_le (by rw [List.length_drop, Int.toNat_sub]; exact Nat.le_refl _), Int.toNat_natCast]
end Mine
end
/- GEN3 -/
section
open PySem PySem.W PyProof.Rows
set_option maxRecDepth 100000
set_option genSizeOf false
set_option genInjectivity false
namespace Mine
open PySem.Builtin PySem.Builtin.Str

theorem mg_enumerate {w : World} {mean : ExcName → Option Value} {mg mb : Str → Option Value} {h : Heap} (G : Gd w mean mg mb h) : mg (Str.ofString "enumerate") = none := by
  have dummy : PySem.Challenge.rw_wa0019_01 = PySem.Challenge.rw_wa0019_01 → Mine.hd.heap_39 = Mine.hd.heap_39 → True := by
    k_fill
    intros; trivial
  clear dummy
  have kX := G.K
  exact mg_none_of kX G.T.g (by k_is)

noncomputable def events (t : Tx) : List (Nat × Tx) := evF 0 0 false t

section
variable {w : World} {mean : ExcName → Option Value} {mg mb : Str → Option Value} {A : Around} {s : Shared} {m : Str → Option Value}

theorem gen_fresh {t : Str} {ta : Tok} {qual : Str} {scope : Scope} {L a : Addr} {cd : Value}  {n1 n2 n3 n4 : Nat}
    (G : Gd w mean mg mb s.heap) (hk : scope.kind = .function) (hl0 : (envOf qual scope L a cd).kindOf (Str.ofString "addr") = some .local) (hl1 : (envOf qual scope L a cd).kindOf (Str.ofString "pos") = some .local)
    (hl2 : (envOf qual scope L a cd).kindOf (Str.ofString "ch") = some .local) (hl3 : (envOf qual scope L a cd).kindOf (Str.ofString "escape") = some .local) (hl4 : (envOf qual scope L a cd).kindOf (Str.ofString "enumerate") = some .globalImplicit)
    (hco : scope.isCoroutine = false) (hA : A.handled = none) (hn : s.heap.Ns L m) (hm : m (Str.ofString "addr") = some (.str t ta)) (hLg : L ≠ mainGlobals) (hLb : L ≠ builtinsNs) {n₀ : Nat} (hn₀ : s.heap.objs.size = n₀) :
    Seg (model pgm w) A (Rp [L, n₀ + 1, n₀]) (Yp [L, n₀ + 1, n₀] (events t.cps.toList)) (events t.cps.toList).length s
      (.func [.Assign [.Name (Str.ofString "pos") (⟨16, 4, 16, 7⟩ : Pos)] (.Constant (.int 0) n1 (⟨16, 10, 16, 11⟩ : Pos)) (⟨16, 4, 16, 11⟩ : Pos), .Assign [.Name (Str.ofString "escape") (⟨17, 4, 17, 10⟩ : Pos)] (.Constant (.bool false) n2 (⟨17, 13, 17, 18⟩ : Pos)) (⟨17, 4, 17, 18⟩ : Pos),
        .For (.Tuple [.Name (Str.ofString "pos") (⟨18, 8, 18, 11⟩ : Pos), .Name (Str.ofString "ch") (⟨18, 13, 18, 15⟩ : Pos)] 0 (⟨18, 8, 18, 15⟩ : Pos)) (.Call (.Name (Str.ofString "enumerate") (⟨18, 19, 18, 28⟩ : Pos)) [.Name (Str.ofString "addr") (⟨18, 29, 18, 33⟩ : Pos)] [] (⟨18, 19, 18, 34⟩ : Pos))
          [.If (.Name (Str.ofString "escape") (⟨19, 11, 19, 17⟩ : Pos))
            [.Expr (.Yield (some (.Tuple [.Name (Str.ofString "pos") (⟨20, 19, 20, 22⟩ : Pos), .BinOp (.Constant (.str (Str.ofString "\\")) 0 (⟨20, 24, 20, 28⟩ : Pos)) .Add (.Name (Str.ofString "ch") (⟨20, 31, 20, 33⟩ : Pos)) (⟨20, 24, 20, 33⟩ : Pos)] 0 (⟨20, 18, 20, 34⟩ : Pos))) (⟨20, 12, 20, 34⟩ : Pos)) (⟨20, 12, 20, 34⟩ : Pos),
             .Assign [.Name (Str.ofString "escape") (⟨21, 12, 21, 18⟩ : Pos)] (.Constant (.bool false) 0 (⟨21, 21, 21, 26⟩ : Pos)) (⟨21, 12, 21, 26⟩ : Pos)]
            [.If (.Compare (.Name (Str.ofString "ch") (⟨22, 13, 22, 15⟩ : Pos)) [.Eq] [.Constant (.str (Str.ofString "\\")) 0 (⟨22, 19, 22, 23⟩ : Pos)] (⟨22, 13, 22, 23⟩ : Pos))
              [.Assign [.Name (Str.ofString "escape") (⟨23, 12, 23, 18⟩ : Pos)] (.Constant (.bool true) 0 (⟨23, 21, 23, 25⟩ : Pos)) (⟨23, 12, 23, 25⟩ : Pos)]
              [.Expr (.Yield (some (.Tuple [.Name (Str.ofString "pos") (⟨25, 19, 25, 22⟩ : Pos), .Name (Str.ofString "ch") (⟨25, 24, 25, 26⟩ : Pos)] 0 (⟨25, 18, 25, 27⟩ : Pos))) (⟨25, 12, 25, 27⟩ : Pos)) (⟨25, 12, 25, 27⟩ : Pos)] (⟨22, 8, 25, 27⟩ : Pos)] (⟨19, 8, 25, 27⟩ : Pos)] [] (⟨18, 4, 25, 27⟩ : Pos),
        .If (.Name (Str.ofString "escape") (⟨26, 7, 26, 13⟩ : Pos)) [.Expr (.Yield (some (.Tuple [.Name (Str.ofString "pos") (⟨27, 15, 27, 18⟩ : Pos), .Constant (.str (Str.ofString "\\")) n3 (⟨27, 20, 27, 24⟩ : Pos)] n4 (⟨27, 14, 27, 25⟩ : Pos))) (⟨27, 8, 27, 25⟩ : Pos)) (⟨27, 8, 27, 25⟩ : Pos)] [] (⟨26, 4, 27, 25⟩ : Pos)] (envOf qual scope L a cd))
      ((model pgm w).den (.func [.Assign [.Name (Str.ofString "pos") (⟨16, 4, 16, 7⟩ : Pos)] (.Constant (.int 0) n1 (⟨16, 10, 16, 11⟩ : Pos)) (⟨16, 4, 16, 11⟩ : Pos), .Assign [.Name (Str.ofString "escape") (⟨17, 4, 17, 10⟩ : Pos)] (.Constant (.bool false) n2 (⟨17, 13, 17, 18⟩ : Pos)) (⟨17, 4, 17, 18⟩ : Pos),
        .For (.Tuple [.Name (Str.ofString "pos") (⟨18, 8, 18, 11⟩ : Pos), .Name (Str.ofString "ch") (⟨18, 13, 18, 15⟩ : Pos)] 0 (⟨18, 8, 18, 15⟩ : Pos)) (.Call (.Name (Str.ofString "enumerate") (⟨18, 19, 18, 28⟩ : Pos)) [.Name (Str.ofString "addr") (⟨18, 29, 18, 33⟩ : Pos)] [] (⟨18, 19, 18, 34⟩ : Pos))
          [.If (.Name (Str.ofString "escape") (⟨19, 11, 19, 17⟩ : Pos))
            [.Expr (.Yield (some (.Tuple [.Name (Str.ofString "pos") (⟨20, 19, 20, 22⟩ : Pos), .BinOp (.Constant (.str (Str.ofString "\\")) 0 (⟨20, 24, 20, 28⟩ : Pos)) .Add (.Name (Str.ofString "ch") (⟨20, 31, 20, 33⟩ : Pos)) (⟨20, 24, 20, 33⟩ : Pos)] 0 (⟨20, 18, 20, 34⟩ : Pos))) (⟨20, 12, 20, 34⟩ : Pos)) (⟨20, 12, 20, 34⟩ : Pos),
             .Assign [.Name (Str.ofString "escape") (⟨21, 12, 21, 18⟩ : Pos)] (.Constant (.bool false) 0 (⟨21, 21, 21, 26⟩ : Pos)) (⟨21, 12, 21, 26⟩ : Pos)]
            [.If (.Compare (.Name (Str.ofString "ch") (⟨22, 13, 22, 15⟩ : Pos)) [.Eq] [.Constant (.str (Str.ofString "\\")) 0 (⟨22, 19, 22, 23⟩ : Pos)] (⟨22, 13, 22, 23⟩ : Pos))
              [.Assign [.Name (Str.ofString "escape") (⟨23, 12, 23, 18⟩ : Pos)] (.Constant (.bool true) 0 (⟨23, 21, 23, 25⟩ : Pos)) (⟨23, 12, 23, 25⟩ : Pos)]
              [.Expr (.Yield (some (.Tuple [.Name (Str.ofString "pos") (⟨25, 19, 25, 22⟩ : Pos), .Name (Str.ofString "ch") (⟨25, 24, 25, 26⟩ : Pos)] 0 (⟨25, 18, 25, 27⟩ : Pos))) (⟨25, 12, 25, 27⟩ : Pos)) (⟨25, 12, 25, 27⟩ : Pos)] (⟨22, 8, 25, 27⟩ : Pos)] (⟨19, 8, 25, 27⟩ : Pos)] [] (⟨18, 4, 25, 27⟩ : Pos),
        .If (.Name (Str.ofString "escape") (⟨26, 7, 26, 13⟩ : Pos)) [.Expr (.Yield (some (.Tuple [.Name (Str.ofString "pos") (⟨27, 15, 27, 18⟩ : Pos), .Constant (.str (Str.ofString "\\")) n3 (⟨27, 20, 27, 24⟩ : Pos)] n4 (⟨27, 14, 27, 25⟩ : Pos))) (⟨27, 8, 27, 25⟩ : Pos)) (⟨27, 8, 27, 25⟩ : Pos)] [] (⟨26, 4, 27, 25⟩ : Pos)] (envOf qual scope L a cd))) [] s := by
  subst hn₀
  have nE2 : ¬ Str.ofString "escape" = Str.ofString "pos" := by decide
  have nP2 : ¬ Str.ofString "pos" = Str.ofString "escape" := by decide
  have nA1 : ¬ Str.ofString "addr" = Str.ofString "escape" := by decide
  have nA2 : ¬ Str.ofString "addr" = Str.ofString "pos" := by decide
  have z92 : Str.ofString "\\" = ⟨#[92]⟩ := by decide
  have hi : interactive (envOf qual scope L a cd) = false := by
    show ((scope.kind == .module) && _) = false
    rw [hk]; rfl
  refine seg_func (seg_execs_cons (seg_wrap (wpAny_Assign_Name (wpAny_Constant_int (wpAny_storeName_local hl1 hn (fun h₁ hn₁ hs₁ => ?_) (fn_block hk))) rfl)))
  refine seg_execs_cons (seg_wrap (wpAny_Assign_Name (wpAny_Constant_bool (wpAny_storeName_local hl3 hn₁ (fun h₂ hn₂ hs₂ => ?_) (fn_block hk))) rfl))
  have hkeep : ∀ b o, b ≠ L → s.heap.get? b = some o → h₂.get? b = some o := fun b o hb e => hs₂.extBut b o hb (hs₁.extBut b o hb e)
  have hsz : h₂.objs.size = s.heap.objs.size := hs₂.1.trans hs₁.1
  have hLlt : L < s.heap.objs.size := hn.lt
  refine seg_execs_cons (seg_For ?_)
  refine wpAny_Call_NameR (Calls.Name_function_global hk hl4 (Calls.loadGlobal_builtin (env := envOf qual scope L a cd) (G.T.g.at fun o e => hkeep _ o (Ne.symm hLg) e) (mg_enumerate G) (G.T.b.at fun o e => hkeep _ o (Ne.symm hLb) e) ((G.T.builtins _ (by decide)).trans boot_enumerate) ?_))
  refine callWith_type1 (wpAny_items_cons (ev_local hk hl0 hn₂ ((if_neg nA1).trans ((if_neg nA2).trans hm)) (wpAny_items_nil ?_)))
  refine call_enumerate_str fun h' he hit hz hk' => ?_
  dsimp only at he hit hk' ⊢
  rw [hsz] at he hit ⊢
  refine wpAny_pyIter_enum he fun p => ?_
  refine gen_turns (A := A) (env := envOf qual scope L a cd) (t := t) (ta := ta) (evs := events t.cps.toList) (e := s.heap.objs.size + 1) (it := s.heap.objs.size) hk hl1 hl2 hl3 hco hi ?hh1 ?hh2 ?hh3 (Nat.ne_of_lt (Nat.lt_succ_of_lt hLlt)) (Nat.ne_of_lt hLlt) (Nat.succ_ne_self _) ?_
    t.cps.toList 0 0 false _ s { s with heap := h', toks := s.toks + 1 + 1 + 1 } (Nat.zero_le _) rfl rfl ⟨[], rfl⟩ ⟨⟨_, _, hn₂.keeps hk', (if_neg nP2).trans (if_pos rfl), if_pos rfl⟩, ⟨.none, ?_⟩, ?_⟩ ⟨fun b o hb e => hk' b o (hkeep b o (fun q => hb (List.mem_cons.mpr (.inl q))) e), rfl, rfl, rfl⟩
  case hh1 => exact fun c => over_one hA
  case hh2 => rfl
  case hh3 => rfl
  · rintro last esc n s₀ s' ⟨pre, hev⟩ hlen ⟨m', tp, hm', hp', he'⟩ S
    refine seg_leaf (.ok .next) ?_
    refine seg_execs_cons (seg_If ?_)
    refine wpAny_isTrue_value (ev_local hk hl3 hm' he' (wpAny_truthy_bool ?_))
    cases esc with
    | true =>
      rw [if_pos rfl]
      have ev : evF t.cps.size last true [] = [(last, [92])] := rfl
      rw [ev] at hev hlen
      subst hlen
      refine seg_execs_cons (seg_pair (rest := []) rfl rfl rfl hev rfl S ?_ hco hi fun s'' hs => ?_)
      · refine wpAny_items_cons (ev_local hk hl1 hm' hp' (wpAny_items_cons (wpAny_Constant_str ?_)))
        rw [z92]
        exact wpAny_items_nil ⟨_, _, _, rfl, rfl⟩
      · exact seg_execs_nil (seg_execs_nil (seg_end (.ok (.ret .none)) ⟨rfl, rfl, fun _ _ _ e => e, rfl, rfl, rfl⟩))
    | false =>
      rw [if_neg Bool.false_ne_true]
      exact seg_execs_nil (seg_execs_nil (seg_end (.ok (.ret .none)) ⟨rfl, hlen.symm, S.keep, S.gens, S.os, S.drawn⟩))
  · exact he
  · exact hit
end
end Mine
end
/- GEN4 -/
section
open PySem PySem.W PyProof.Rows
set_option maxRecDepth 100000
set_option genSizeOf false
set_option genInjectivity false
namespace Mine
open PySem.Builtin PySem.Builtin.Str

/-! ## the consumer of the events, in plain lists -/
noncomputable def cStep (t : Tx) (st : Nat × Option Nat × List Tx) (ev : Nat × Tx) : Nat × Option Nat × List Tx :=
  if ev.2 = [34] then (match st.2.1 with
    | none => (st.1, some ev.1, st.2.2)
    | some o => (ev.1 + 1, none, if st.1 = o then st.2.2 else st.2.2 ++ [(t.take o).drop st.1]))
  else st
noncomputable def cEnd (t : Tx) (st : Nat × Option Nat × List Tx) : Tx := st.2.2.flatten ++ t.drop st.1

theorem cons_spec (t : Tx) : ∀ (rest pre : Tx) (last st : Nat) (e : Bool) (res : List Tx), t = pre ++ rest →
    (st ≤ pre.length → cEnd t ((evF pre.length last e rest).foldl (cStep t) (st, none, res)) = res.flatten ++ pre.drop st ++ sh [] e rest) ∧
    (∀ o, st ≤ o → o < pre.length → cEnd t ((evF pre.length last e rest).foldl (cStep t) (st, some o, res)) = res.flatten ++ (pre.take o).drop st ++ sh (pre.drop o) e rest) := by
  intro rest
  induction rest with
  | nil =>
    intro pre last st e res ht
    have ht' : t = pre := by simpa using ht
    subst ht'
    have h0 : ∀ s0, (evF t.length last e []).foldl (cStep t) s0 = s0 := by
      intro s0
      cases e <;> simp [evF, cStep]
    refine ⟨fun hs => ?_, fun o hs ho => ?_⟩
    · rw [h0]; simp [cEnd, sh]
    · rw [h0]
      simp only [cEnd, sh]
      rw [List.append_assoc]
      congr 1
      have : t.drop st = (t.take o).drop st ++ t.drop o := by
        conv => lhs; rw [← List.take_append_drop o t]
        rw [List.drop_append_of_le_length (by rw [List.length_take]; exact Nat.le_min.mpr ⟨hs, Nat.le_trans hs (Nat.le_of_lt ho)⟩)]
      exact this
  | cons c r ih =>
    intro pre last st e res ht
    have ht2 : t = (pre ++ [c]) ++ r := by simpa using ht
    have hl : (pre ++ [c]).length = pre.length + 1 := by simp
    have IH := fun last st e res => ih (pre ++ [c]) last st e res ht2
    rw [hl] at IH
    cases e with
    | true =>
      have ev : evF pre.length last true (c :: r) = (pre.length, [92, c]) :: evF (pre.length + 1) pre.length false r := rfl
      have sk : ∀ s0, cStep t s0 (pre.length, [92, c]) = s0 := by intro s0; simp [cStep]
      rw [ev]
      simp only [List.foldl_cons, sk]
      refine ⟨fun hs => ?_, fun o hs ho => ?_⟩
      · rw [(IH _ _ _ _).1 (Nat.le_succ_of_le hs), List.drop_append_of_le_length hs]
        simp [sh]
      · rw [(IH _ _ _ _).2 o hs (Nat.lt_succ_of_lt ho), List.take_append_of_le_length (Nat.le_of_lt ho), List.drop_append_of_le_length (Nat.le_of_lt ho)]
        have hne : pre.drop o ≠ [] := fun q => Nat.not_le.mpr ho (List.drop_eq_nil_iff.mp q)
        simp [sh, hne]
    | false =>
      by_cases h92 : c = 92
      · subst h92
        have ev : evF pre.length last false (92 :: r) = evF (pre.length + 1) pre.length true r := rfl
        rw [ev]
        refine ⟨fun hs => ?_, fun o hs ho => ?_⟩
        · rw [(IH _ _ _ _).1 (Nat.le_succ_of_le hs), List.drop_append_of_le_length hs]
          simp [sh]
        · rw [(IH _ _ _ _).2 o hs (Nat.lt_succ_of_lt ho), List.take_append_of_le_length (Nat.le_of_lt ho), List.drop_append_of_le_length (Nat.le_of_lt ho)]
          have hne : pre.drop o ≠ [] := fun q => Nat.not_le.mpr ho (List.drop_eq_nil_iff.mp q)
          simp [sh, hne]
      · have ev : evF pre.length last false (c :: r) = (pre.length, [c]) :: evF (pre.length + 1) pre.length false r := by simp [evF, h92]
        rw [ev]
        simp only [List.foldl_cons]
        by_cases h34 : c = 34
        · subst h34
          refine ⟨fun hs => ?_, fun o hs ho => ?_⟩
          · have sk : cStep t (st, none, res) (pre.length, [34]) = (st, some pre.length, res) := by simp [cStep]
            rw [sk, (IH _ _ _ _).2 pre.length hs (Nat.lt_succ_self _)]
            simp [sh]
          · have sk : cStep t (st, some o, res) (pre.length, [34]) = (pre.length + 1, none, if st = o then res else res ++ [(t.take o).drop st]) := by simp [cStep]
            rw [sk, (IH _ _ _ _).1 (Nat.le_refl _)]
            have hne : pre.drop o ≠ [] := fun q => Nat.not_le.mpr ho (List.drop_eq_nil_iff.mp q)
            have h2 : (if st = o then res else res ++ [(t.take o).drop st]).flatten = res.flatten ++ (pre.take o).drop st := by
              split
              · subst_vars; simp
              · rw [ht, List.take_append_of_le_length (Nat.le_of_lt ho)]; simp
            rw [h2]
            simp [sh, hne]
        · have sk : ∀ s0, cStep t s0 (pre.length, [c]) = s0 := by intro s0; simp [cStep, h34]
          rw [sk]
          refine ⟨fun hs => ?_, fun o hs ho => ?_⟩
          · rw [(IH _ _ _ _).1 (Nat.le_succ_of_le hs), List.drop_append_of_le_length hs]
            simp [sh, h34, h92]
          · rw [sk, (IH _ _ _ _).2 o hs (Nat.lt_succ_of_lt ho), List.take_append_of_le_length (Nat.le_of_lt ho), List.drop_append_of_le_length (Nat.le_of_lt ho)]
            have hne : pre.drop o ≠ [] := fun q => Nat.not_le.mpr ho (List.drop_eq_nil_iff.mp q)
            simp [sh, hne, h34, h92]

theorem cons_is (t : Tx) : cEnd t ((events t).foldl (cStep t) (0, none, [])) = shorn t := by
  have := (cons_spec t t [] 0 0 false [] rfl).1 (Nat.zero_le _)
  simpa [events, shorn] using this

/-- bounds that the consumer keeps: start ≤ open, both within the text -/
noncomputable def cOk (t : Tx) (st : Nat × Option Nat × List Tx) : Prop := st.1 ≤ t.length ∧ (∀ o, st.2.1 = some o → o ≤ t.length)
theorem ev_lt : ∀ (rest : Tx) (i last : Nat) (e : Bool) (n : Nat), i + rest.length = n → (e = true → last < n) → ∀ q ∈ evF i last e rest, q.1 < n := by
  intro rest
  induction rest with
  | nil =>
    intro i last e n hn hl q hq
    cases e with
    | true => simp [evF] at hq; rw [hq]; exact hl rfl
    | false => simp [evF] at hq
  | cons c r ih =>
    intro i last e n hn hl q hq
    simp only [List.length_cons] at hn
    have hn' : i + 1 + r.length = n := (Nat.add_right_comm i 1 r.length).trans hn
    have hin : i < n := Nat.lt_of_lt_of_le (Nat.lt_succ_self i) (Nat.le_trans (Nat.le_add_right _ _) (Nat.le_of_eq hn'))
    have a1 := ih (i + 1) i false n hn' (by intro h; cases h) q
    have a2 := ih (i + 1) i true n hn' (fun _ => hin) q
    cases e with
    | true =>
      simp only [evF, if_true] at hq
      rcases List.mem_cons.mp hq with rfl | h
      · exact hin
      · exact a1 h
    | false =>
      by_cases h92 : c = 92
      · subst h92; exact a2 (by simpa [evF] using hq)
      · have ev : evF i last false (c :: r) = (i, [c]) :: evF (i + 1) i false r := by simp [evF, h92]
        rw [ev] at hq
        rcases List.mem_cons.mp hq with rfl | h
        · exact hin
        · exact a1 h
theorem events_lt (t : Tx) : ∀ q ∈ events t, q.1 < t.length := ev_lt t 0 0 false t.length (by simp) (by intro h; cases h)
theorem cOk.step {t : Tx} {st : Nat × Option Nat × List Tx} {ev : Nat × Tx} (h : cOk t st) (he : ev.1 < t.length) : cOk t (cStep t st ev) := by
  obtain ⟨a, b, c⟩ := st
  unfold cStep
  split
  · cases b with
    | none => exact ⟨h.1, fun o ho => by cases ho; exact Nat.le_of_lt he⟩
    | some o => exact ⟨he, fun o ho => by cases ho⟩
  · exact h
end Mine
end
/- GEN5 -/
section
open PySem PySem.W PyProof.Rows
set_option maxRecDepth 100000
set_option genSizeOf false
set_option genInjectivity false
namespace Mine
open PySem.Builtin PySem.Builtin.Str


/-- all states but the newest are those of before -/
noncomputable def OldGens (a b : Array GenState) : Prop := b.size = a.size + 1 ∧ ∀ i, i < a.size → b[i]? = a[i]?
theorem OldGens.set {a b : Array GenState} (h : OldGens a b) (x : GenState) : OldGens a (b.setIfInBounds a.size x) :=
  ⟨by simpa using h.1, fun i hi => by
    rw [Array.getElem?_setIfInBounds, if_neg (Nat.ne_of_gt hi)]
    exact h.2 i hi⟩
theorem OldGens.push (a : Array GenState) (x : GenState) : OldGens a (a.push x) := ⟨by simp, fun i hi => by rw [Array.getElem?_push_lt hi, Array.getElem?_eq_getElem hi]⟩
theorem OldGens.bare {a b : Array GenState} (h : OldGens a b) (x : GenState) (hx : x.bare = true) (ha : AllBare a) : AllBare (b.setIfInBounds a.size x) := by
  intro y hy
  obtain ⟨i, hi, rfl⟩ := Array.mem_iff_getElem.mp hy
  have hs : (b.setIfInBounds a.size x).size = a.size + 1 := by simpa using h.1
  by_cases e : i = a.size
  · subst e
    have : (b.setIfInBounds a.size x)[a.size]? = some x := by rw [Array.getElem?_setIfInBounds]; simp [h.1]
    rw [Array.getElem?_eq_getElem hi] at this
    rw [Option.some.inj this]; exact hx
  · have hlt : i < a.size := Nat.lt_of_le_of_ne (Nat.le_of_lt_succ (Nat.lt_of_lt_of_eq hi hs)) e
    have := (h.set x).2 i hlt
    rw [Array.getElem?_eq_getElem hi, Array.getElem?_eq_getElem hlt] at this
    rw [Option.some.inj this]
    exact ha _ (Array.getElem_mem hlt)

/-- a generator's def called -/
theorem enterG {w : World} {A : Around} {R : Result → Shared → Prop} {s : Shared} {mean : ExcName → Option Value} {mg mb : Str → Option Value}
    {name qual : Str} {params : Arguments} {body : List Stmt} {scope : Scope} {dV kV doc pm cdv ct oc : Value} {an od : Option Addr} {osl : Array (Option Value)}
    {f : Addr} {args : Args} {binds : List (Str × Value)}
    (G : Gd w mean mg mb s.heap) (hroom : A.depth < recursionLimit)
    (ho : (hd.heap_39 w.params).lookup f = some ⟨oc, od, .func (fnOf name qual params body scope dV kV doc pm an cdv ct), osl⟩) (hcd : codeIn (hd.heap_39 w.params) cdv qual = true)
    (hbind : BindsTo s (fnOf name qual params body scope dV kV doc pm an cdv ct) args binds)
    (hloc : ∀ y ∈ binds, scope.names.lookup y.1 = some .local)
    (hcell : ∀ x ∈ scope.names, x.2 ≠ .cell)
    (hco : scope.isCoroutine = false) (hgen : scope.isGenerator = true) (hk : scope.kind = .function)
    (h : ∀ (h₁ : Heap) (tk₁ : Nat) (nm qn : Value), (∀ b o, s.heap.get? b = some o → h₁.get? b = some o) → h₁.Ns s.heap.objs.size (fun y => binds.reverse.lookup y) → h₁.objs.size = s.heap.objs.size + 1 →
      R (.ok (.ret (.ref h₁.objs.size))) { s with gens := s.gens.push (.fresh (.func body (envOf qual scope s.heap.objs.size f cdv))), toks := tk₁, heap := h₁.push { cls := .type "generator", data := .fields #[.int s.gens.size 0, nm, qn] } }) :
    codeAny (model pgm w) A (.call (.ref f) args) R s := by
  refine codeAny_call_generator (fd := fnOf name qual params body scope dV kV doc pm an cdv ct) hroom (G.K _ _ ho) rfl hco hgen rfl (codeRec_of G.K hcd) (hbind _ _ _ _ ?_)
  refine wpAny_newFunctionEnv hcell hloc (fun h₁ hns hsb => ⟨G.T.nolimit.fresh _ hsb, ?_⟩) hk
  refine h h₁ _ _ _ (fun b o e => hsb.extBut b o (Nat.ne_of_lt (Heap.lt_size e)) (Heap.get?_push_of_some _ e)) hns (hsb.1.trans (Heap.size_push ..))

section
variable {w : World} {A : Around} {E : Value → Shared → Prop} {s : Shared}
/-- one turn of the consumer's loop -/
theorem gen_next {prog : Program} {a : Addr} {g n : Nat} {gs : GenState} {W : List Addr} {evs : List (Nat × Tx)} {Q : Option Value → Shared → Prop} (hh : A.handled = none)
    (hl : s.heap.NoLimit) (hroom : A.depth < recursionLimit)
    (hg : s.heap.IsGen a g) (hgs : s.gens[g]? = some gs)
    (hgo : gs.Goes (model prog w) A.in1 (Rp W) (Yp W evs) n (.send .none) (s.setGen g .running))
    (item : ∀ (T p : Nat) (x : Tx) (rest pre : List (Nat × Tx)) (tp tx : Tok) (h' : Heap) (n' m : Nat) (gs' : GenState), evs = pre ++ (p, x) :: rest → rest.length = m → n = m + 1 → h'.IsTuple T #[.int p tp, .str (toS x) tx] →
      (∀ b o, b ∉ W → s.heap.get? b = some o → h'.get? b = some o) →
      (∀ s'' : Shared, (∀ b ∈ W, ∀ o, h'.get? b = some o → s''.heap.get? b = some o) → gs'.Goes (model prog w) A.in1 (Rp W) (Yp W evs) m (.send .none) s'') →
      Q (some (.ref T)) { s with heap := h', gens := (s.gens.setIfInBounds g .running).setIfInBounds g gs', toks := n' })
    (done : ∀ (h' : Heap) (n' : Nat), n = 0 → (∀ b o, b ∉ W → s.heap.get? b = some o → h'.get? b = some o) →
      Q none { s with heap := h', gens := (s.gens.setIfInBounds g .running).setIfInBounds g .finished, toks := n' }) :
    wpAny (model prog w) A (pyNext (.ref a)) Q E s := by
  refine wpAny_pyNext_gen (P := fun n s₀ s₁ => n = 0 ∧ (∀ b o, b ∉ W → s₀.heap.get? b = some o → s₁.heap.get? b = some o) ∧ s₁.gens = s₀.gens ∧ s₁.os = s₀.os ∧ s₁.drawn = s₀.drawn) hh hl hroom hg hgs hgo ?_ ?_
  · rintro v s₁ gs' ⟨T, p, x, rest, pre, tp, tx, rfl, hev, hn, hT, hk, e1, e2, e3, hkap⟩
    cases n with
    | zero => exact (hkap s₁ fun b _ o e => e).elim
    | succ m =>
      obtain ⟨h₁, g₁, d₁, t₁, o₁⟩ := s₁
      cases e1; cases e2; cases e3
      exact item T p x rest pre tp tx h₁ t₁ m gs' hev hn rfl hT hk hkap
  · rintro ⟨h₁, g₁, d₁, t₁, o₁⟩ ⟨hn0, hk, e1, e2, e3⟩ h' hk'
    cases e1; cases e2; cases e3
    exact done h' t₁ hn0 fun b o hb e => hk' b o (hk b o hb e)
theorem go_gen {prog : Program} {elts : List Expr} {k : Nat} {pos : Pos} {a T : Addr} {g : Nat} {Q : Unit → Shared → Prop} (hg : s.heap.IsGen a g) (hQ : Q () s) :
    wpAny (model prog w) A (letOwnedTupleGo (.Tuple elts k pos) (.ref a) (.ref T)) Q E s := by
  obtain ⟨o, nm, qn, ho, hc, hd, _⟩ := hg
  unfold letOwnedTupleGo
  refine wpAny_bind (wpAny_load ho ?_)
  rw [hc, hd]
  show wpAny _ A (if (["enumerate", "zip", "dict_itemiterator", "dict_reverseitemiterator", "odict_iterator", "itertools.zip_longest", "itertools.pairwise"].contains "generator" && _) = true then _ else _) Q E s
  rw [if_neg (by
    intro h
    rw [show (["enumerate", "zip", "dict_itemiterator", "dict_reverseitemiterator", "odict_iterator", "itertools.zip_longest", "itertools.pairwise"].contains "generator") = false from by decide, Bool.false_and] at h
    cases h)]
  exact wpAny_pure hQ
end

/-- what stands around a generator of the text -/
structure GenAt (w : World) (h₀ : Heap) (L : Addr) (news : List (Addr × Obj)) (W : List Addr) (a : Addr) : Prop where
  off : ∀ b ∈ W, b ≠ L ∧ b ≠ a ∧ h₀.get? b = none ∧ ∀ p ∈ news, p.1 ≠ b
  aL : a ≠ L
  an : h₀.get? a = none
  aN : ∀ p ∈ news, p.1 ≠ a

theorem none_above {h₀ h : Heap} (hk : ∀ b o, h₀.get? b = some o → h.get? b = some o) {b : Addr} (hb : h.objs.size ≤ b) : h₀.get? b = none := by
  cases e : h₀.get? b with
  | none => rfl
  | some o => exact absurd (Heap.lt_size (hk b o e)) (Nat.not_lt.mpr hb)

section
variable {w : World} {mean : ExcName → Option Value} {mg mb : Str → Option Value} {A : Around} {h₀ : Heap} {L : Addr} {m : Str → Option Value} {news : List (Addr × Obj)} {s : Shared} {Q E : Value → Shared → Prop} {t : Str} {tk : Tok}
set_option maxHeartbeats 4000000 in
theorem gen_call (G : Gd w mean mg mb h₀) (F : Fr h₀ L s.heap m) (N : News h₀ L s.heap news) (hh : A.handled = none) (hd : A.depth + 8 < recursionLimit)
    (h : ∀ h' n' a W gs, Fr h₀ L h' m → News h₀ L h' news → h'.IsGen a s.gens.size → gs.bare = true → GenAt w h₀ L news W a →
      (∀ A' : Around, A'.handled = none → gs.Goes (model pgm w) A' (Rp W) (Yp W (events t.cps.toList)) (events t.cps.toList).length (.send .none) (({ s with heap := h', gens := s.gens.push gs, toks := n' } : Shared).setGen s.gens.size .running)) →
      Q (.ref a) { s with heap := h', gens := s.gens.push gs, toks := n' }) : wpAny (model pgm w) A (call (.ref 28) [.str t tk]) Q E s := by
  have dummy : PySem.Challenge.rw_wa0019_01 = PySem.Challenge.rw_wa0019_01 → Mine.hd.heap_39 = Mine.hd.heap_39 → True := by
    k_fill
    intros; trivial
  clear dummy
  have kX := G.K
  have kT := G.T
  have G' := G.keeps F.keep
  refine wpAny_call (enterG G' (room0 hd) (by k_is) (by k_is) (BindsTo.of_eq rfl) (locs rfl) (by decide) rfl rfl rfl ?_)
  intro h₁ tk₁ nm qn hk hns hsz
  have hLs : L < s.heap.objs.size := F.ns.lt
  have hkp : ∀ b o, s.heap.get? b = some o → (h₁.push { cls := .type "generator", data := .fields #[.int s.gens.size 0, nm, qn] }).get? b = some o := fun b o e => Heap.get?_push_of_some _ (hk b o e)
  have szp : (h₁.push { cls := .type "generator", data := .fields #[.int s.gens.size 0, nm, qn] }).objs.size = s.heap.objs.size + 2 := (Heap.size_push ..).trans (by rw [hsz])
  have big : ∀ b, s.heap.objs.size ≤ b → b ≠ L ∧ h₀.get? b = none ∧ ∀ p ∈ news, p.1 ≠ b := fun b hb =>
    ⟨fun e => absurd (Nat.lt_of_lt_of_le hLs hb) (e ▸ Nat.lt_irrefl _), none_above F.keep hb, fun p hp e => absurd (Nat.lt_of_lt_of_le (Heap.lt_size (N p hp).1) hb) (e ▸ Nat.lt_irrefl _)⟩
  refine h _ _ _ [s.heap.objs.size, s.heap.objs.size + 2 + 1, s.heap.objs.size + 2] _ (Fr.ext F hkp) (News.ext N hkp) ⟨_, _, _, Heap.get?_push_size _ rfl, rfl, rfl, rfl⟩ rfl ?_ ?_
  · rw [hsz]
    refine ⟨fun b hb => ?_, (big _ (Nat.le_succ _)).1, (big _ (Nat.le_succ _)).2.1, (big _ (Nat.le_succ _)).2.2⟩
    have hb' : s.heap.objs.size ≤ b ∧ b ≠ s.heap.objs.size + 1 := by
      rcases List.mem_cons.mp hb with rfl | hb
      · exact ⟨Nat.le_refl _, Nat.ne_of_lt (Nat.lt_succ_self _)⟩
      rcases List.mem_cons.mp hb with rfl | hb
      · exact ⟨Nat.le_add_right _ 3, Nat.ne_of_gt (Nat.add_lt_add_left (by decide : 1 < 3) _)⟩
      · rw [List.mem_singleton.mp hb]
        exact ⟨Nat.le_add_right _ 2, Nat.ne_of_gt (Nat.add_lt_add_left (by decide : 1 < 2) _)⟩
    exact ⟨(big b hb'.1).1, hb'.2, (big b hb'.1).2⟩
  · intro A' hA'
    refine ⟨rfl, ?_⟩
    refine gen_fresh (w := w) (A := A') (t := t) (ta := tk) (L := s.heap.objs.size) (G.keeps fun b o e => hkp b o (F.keep b o e)) rfl (by rfl) (by rfl) (by rfl) (by rfl) (by rfl) rfl hA' (hns.keeps fun b o e => Heap.get?_push_of_some _ e) (by rfl) (fun e => ?_) (fun e => ?_) szp
    · exact absurd G'.T.g.lt (e ▸ Nat.lt_irrefl _)
    · exact absurd G'.T.b.lt (e ▸ Nat.lt_irrefl _)
end
end Mine
end
/- COMP -/
section
open PySem PySem.W PyProof.Rows
set_option maxRecDepth 100000
set_option genSizeOf false
set_option genInjectivity false
namespace Mine
open PySem.Builtin PySem.Builtin.Str

/-- what a piece of the walk leaves as it was -/
noncomputable def Kp (s s' : Shared) : Prop := ∃ h' g' tk, s' = { s with heap := h', gens := g', toks := tk } ∧ (∀ b o, s.heap.get? b = some o → h'.get? b = some o) ∧ (AllBare s.gens → AllBare g')
theorem Kp.refl (s : Shared) : Kp s s := ⟨s.heap, s.gens, s.toks, rfl, fun _ _ e => e, id⟩

/-- the items of a comprehension's (or a loop's) source, bound to its target -/
structure Turns (prog : Program) (w : World) (A : Around) (env : Env) (scope : Scope) (cl : List (Str × Addr)) (target : Expr) (I : Addr) (fp wr : List Addr) (n : Nat) (B : Nat → (Str → Option Value) → Prop) (St : Nat → Heap → Prop) : Prop where
  sub : ∀ b ∈ wr, b ∈ fp
  frame : ∀ i h h', St i h → (∀ b ∈ fp, ∀ o, h.get? b = some o → h'.get? b = some o) → St i h'
  item : ∀ i C (s : Shared) (m : Str → Option Value) (Q : Unit → Shared → Prop) (E : Value → Shared → Prop), i < n → C ∉ fp → St i s.heap → s.heap.Ns C m →
    (∀ h' tk m', h'.Ns C m' → B i m' → St (i + 1) h' → (∀ b o, b ∉ wr → b ≠ C → s.heap.get? b = some o → h'.get? b = some o) → Q () { s with heap := h', toks := tk }) →
    wpAny (model prog w) A (pyNext (.ref I)) (fun r s₁ => match r with
      | none => False
      | some v => wpAny (model prog w) A (letOwnedTupleGo target (.ref I) v) (fun _ s₂ => wpAny (model prog w) A (assign target (compEnvC scope cl C env) v) Q E s₂) E s₁) E s
  done : ∀ (s : Shared) (Q : Option Value → Shared → Prop) (E : Value → Shared → Prop), St n s.heap →
    (∀ h' tk, (∀ b o, b ∉ wr → s.heap.get? b = some o → h'.get? b = some o) → Q none { s with heap := h', toks := tk }) → wpAny (model prog w) A (pyNext (.ref I)) Q E s
  self : ∀ i (s : Shared) (Q : Value → Shared → Prop) (E : Value → Shared → Prop), St i s.heap → Q (.ref I) s → wpAny (model prog w) A (pyIter (.ref I)) Q E s

section
variable {prog : Program} {w : World} {A : Around} {E : Value → Shared → Prop} {env : Env} {scope : Scope} {cl : List (Str × Addr)}

theorem Turns.name {x : Str} {px : Pos} {I : Addr} {fp wr : List Addr} {n : Nat} {P : Nat → Value → Prop} {St : Nat → Heap → Prop} (W : Walks prog w A I fp wr n P St) (hk : scope.kind = .function) (hx : scope.names.lookup x = some .local) :
    Turns prog w A env scope cl (.Name x px) I fp wr n (fun i m => ∃ v, P i v ∧ m x = some v) St where
  sub := W.sub
  frame := W.frame
  item := fun i C s m Q E hi hC hst hn hQ => by
    refine W.item i s _ E hi hst fun v h' tk hP hst' hk' => ?_
    show wpAny _ A (pure ()) _ _ _
    refine wpAny_pure ?_
    refine wpAny_assign_Name (wpAny_storeName_local (lookup_relabel_local hx) (hn.at fun o e => hk' _ o (fun q => hC (W.sub _ q)) e) (fun h₂ hn₂ hs₂ => ?_) (by simp [compEnvC, relabel, hk]))
    exact hQ h₂ _ _ hn₂ ⟨v, hP, if_pos rfl⟩ (W.frame _ _ _ hst' fun b hb o e => hs₂.extBut b o (fun q => hC (by rw [show C = b from q.symm]; exact hb)) e) fun b o hb hbC e => hs₂.extBut b o hbC (hk' b o hb e)
  done := W.done
  self := W.self

theorem Turns.pair (hh : A.handled = none) {x1 x2 : Str} {p1 p2 pos : Pos} {k : Nat} {I : Addr} {fp wr : List Addr} {n : Nat} {P : Nat → Array Value → Prop} {St : Nat → Heap → Prop} {Mid : Nat → Addr → Heap → Prop} (W : WalksT prog w A I fp wr n P St Mid)
    (hk : scope.kind = .function) (hx1 : scope.names.lookup x1 = some .local) (hx2 : scope.names.lookup x2 = some .local) (hne : x1 ≠ x2) (htwo : ∀ i vals, P i vals → ∃ v1 v2, vals = #[v1, v2]) :
    Turns prog w A env scope cl (.Tuple [.Name x1 p1, .Name x2 p2] k pos) I fp wr n (fun i m => ∃ v1 v2, P i #[v1, v2] ∧ m x1 = some v1 ∧ m x2 = some v2) St where
  sub := W.sub
  frame := W.frame
  item := fun i C s m Q E hi hC hst hn hQ => by
    refine W.item i s _ E hi hst fun T vals h' tk hP _ hT hMid hk' => ?_
    obtain ⟨v1, v2, rfl⟩ := htwo i vals hP
    have hTa := W.apart i T h' hMid
    refine W.go _ _ _ i T _ _ _ hMid fun h₂ hst₂ hk₂ => ?_
    have hCw : C ∉ wr := fun q => hC (W.sub _ q)
    have hn₂ : h₂.Ns C m := (hn.at fun o e => hk' _ o hCw e).at fun o e => hk₂ _ o hCw e
    have hT₂ : h₂.IsTuple T #[v1, v2] := by
      obtain ⟨o, ho, q⟩ := hT
      exact ⟨o, hk₂ _ o hTa ho, q⟩
    refine assign_two (env := compEnvC scope cl C env) hh hk (lookup_relabel_local hx1) (lookup_relabel_local hx2) hT₂ hn₂ fun h₃ n₃ hn₃ hk₃ => ?_
    exact hQ h₃ _ _ hn₃ ⟨v1, v2, hP, (if_neg hne).trans (if_pos rfl), if_pos rfl⟩ (W.frame _ _ _ hst₂ fun b hb o e => hk₃ b o (fun q => hC (by rw [show C = b from q.symm]; exact hb)) e) fun b o hb hbC e => hk₃ b o hbC (hk₂ b o hb (hk' b o hb e))
  done := W.done
  self := W.self

theorem compLoop_any {R : Result → Shared → Prop} {elt target iter : Expr} {scope : Scope} {pos : Pos} {it acc : Value} {env : Env} (I : Nat → Shared → Prop)
    (turn : ∀ n s, I n s → wpAny (model prog w) A (pyNext it) (fun r s₁ => match r with
      | none => R (.ok .next) s₁
      | some v => wpAny (model prog w) A (letOwnedTupleGo target it v) (fun _ s₁' => wpAny (model prog w) A (assign target env v) (fun _ s₂ => wpAny (model prog w) A (eval elt env) (fun x s₃ =>
          wpAny (model prog w) A (call (.builtin "list.append") [acc, x]) (fun _ s₄ => ∃ m, m < n ∧ I m s₄) (notedBy (model prog w) A env fun e s' => R (.error e) s') s₃)
          (notedBy (model prog w) A env fun e s' => R (.error e) s') s₂) (notedBy (model prog w) A env fun e s' => R (.error e) s') s₁') (notedBy (model prog w) A env fun e s' => R (.error e) s') s₁) (notedBy (model prog w) A env fun e s' => R (.error e) s') s)
    (n : Nat) {s : Shared} (h : I n s) :
    codeAny (model prog w) A (.compLoop (.ListComp elt [⟨target, iter, [], 0⟩] scope pos) 0 it acc env) R s := by
  refine codeAny_loop rfl I (fun n s hI => ?_) n h
  show wpAny _ _ ((compTurn (.ListComp elt [⟨target, iter, [], 0⟩] scope pos) 0 it acc env).onRaise (fun x => do noteFrame x env; theTreesLotGoes x)) _ _ s
  refine wpAny_noted ?_
  rw [compTurn_list1]
  refine wpAny_bind (wpAny_standAt (wpAny_bind (wpAny_mono (turn n s hI) (fun r s₁ h₁ => ?_) fun _ _ h' => h')))
  cases r with
  | none => exact wpAny_pure h₁
  | some v =>
    refine wpAny_bind (wpAny_mono h₁ (fun _ s₁' h₁' => ?_) fun _ _ h' => h')
    exact wpAny_bind (wpAny_mono h₁' (fun _ s₂ h₂ => wpAny_bind (wpAny_bind (wpAny_mono h₂ (fun x s₃ h₃ => wpAny_bind (wpAny_mono h₃
      (fun _ s₄ h₄ => wpAny_pure (wpAny_pure ⟨rfl, h₄⟩)) fun _ _ h' => h')) fun _ _ h' => h'))) fun _ _ h' => h')

/-- the element of a comprehension: its value, with the new objects that it stands on -/
noncomputable def EltOk (prog : Program) (w : World) (A : Around) (env : Env) (scope : Scope) (cl : List (Str × Addr)) (elt : Expr) (wr : List Addr) (n : Nat) (B : Nat → (Str → Option Value) → Prop) (F : Nat → Value → List (Addr × Obj) → Prop) (s₂ : Shared) : Prop :=
  ∀ C i s₃ m₃, s₂.heap.objs.size ≤ C → i < n → B i m₃ → s₃.heap.Ns C m₃ → (∀ b o, b ∉ wr → s₂.heap.get? b = some o → s₃.heap.get? b = some o) → s₂.toks ≤ s₃.toks →
    wpAny (model prog w) A (eval elt (compEnvC scope cl C env)) (fun y s₄ => ∃ l, F i y l ∧ (∀ p ∈ l, s₄.heap.get? p.1 = some p.2 ∧ s₃.heap.get? p.1 = none) ∧ Kp s₃ s₄) (fun _ _ => False) s₃

/-- the comprehension's list -/
structure CompGot (F : Nat → Value → List (Addr × Obj) → Prop) (n : Nat) (wr : List Addr) (s₂ : Shared) (h' : Heap) (g' : Array GenState) (D : Addr) (rs : List (Value × List (Addr × Obj))) : Prop where
  none : s₂.heap.get? D = none
  list : h'.PlainList D (rs.map (·.1)).toArray
  len : rs.length = n
  each : ∀ i r, rs[i]? = some r → F i r.1 r.2
  new : ∀ r ∈ rs, ∀ p ∈ r.2, h'.get? p.1 = some p.2 ∧ s₂.heap.get? p.1 = Option.none
  off : ∀ r ∈ rs, ∀ p ∈ r.2, p.1 ≠ D
  keep : ∀ b o, b ∉ wr → s₂.heap.get? b = some o → h'.get? b = some o
  bare : AllBare s₂.gens → AllBare g'

/-- one more item of a comprehension's list; P: the addresses that a turn may write or that the block owns -/
theorem compSnoc {P : Addr → Prop} {F : Nat → Value → List (Addr × Obj) → Prop} {i : Nat} {wr : List Addr} {s₂ : Shared} {h' h₂ h₃ h₄ : Heap} {g' g₃ : Array GenState} {D : Addr} {rs : List (Value × List (Addr × Obj))} {y : Value} {l : List (Addr × Obj)}
    (G : CompGot F i wr s₂ h' g' D rs) (hoff : ∀ r ∈ rs, ∀ p ∈ r.2, ¬ P p.1) (hw : ∀ b ∈ wr, P b) (hPD : ¬ P D) (hPl : ∀ b, P b → ∃ o, h₂.get? b = some o) (hPn : ∀ b o, P b → s₂.heap.get? b = some o → b ∈ wr)
    (hk₂ : ∀ b o, ¬ P b → h'.get? b = some o → h₂.get? b = some o) (hk₃ : ∀ b o, h₂.get? b = some o → h₃.get? b = some o) (hk₄ : ∀ b o, b ≠ D → h₃.get? b = some o → h₄.get? b = some o)
    (hl₄ : h₄.PlainList D ((rs.map (·.1)).toArray.push y)) (hF : F i y l) (hl : ∀ p ∈ l, h₃.get? p.1 = some p.2 ∧ h₂.get? p.1 = none) (hb : AllBare g' → AllBare g₃) :
    CompGot F (i + 1) wr s₂ h₄ g₃ D (rs ++ [(y, l)]) ∧ ∀ r ∈ rs ++ [(y, l)], ∀ p ∈ r.2, ¬ P p.1 := by
  have newP : ∀ p ∈ l, ¬ P p.1 := fun p hp q => by
    obtain ⟨o, e⟩ := hPl _ q
    rw [(hl p hp).2] at e; cases e
  have keep₂ : ∀ b o, b ∉ wr → s₂.heap.get? b = some o → h₂.get? b = some o := fun b o hb' e => hk₂ b o (fun q => hb' (hPn b o q e)) (G.keep b o hb' e)
  have newD : ∀ p ∈ l, p.1 ≠ D := fun p hp q => by
    obtain ⟨_, hDo⟩ := G.list
    have z := hk₂ D _ hPD hDo
    rw [← q, (hl p hp).2] at z; cases z
  have new0 : ∀ p ∈ l, s₂.heap.get? p.1 = none := fun p hp => by
    cases e : s₂.heap.get? p.1 with
    | none => rfl
    | some o => have z := keep₂ _ o (fun q => newP p hp (hw _ q)) e; rw [(hl p hp).2] at z; cases z
  have split : ∀ {C : Value × List (Addr × Obj) → Prop}, (∀ r ∈ rs, C r) → C (y, l) → ∀ r ∈ rs ++ [(y, l)], C r := fun h1 h2 r hr => by
    rcases List.mem_append.mp hr with hr | hr
    · exact h1 r hr
    · rw [List.mem_singleton.mp hr]; exact h2
  refine ⟨⟨G.none, ?_, ?_, fun j r hr => ?_, split (fun r hr p hp => ⟨hk₄ _ _ (G.off r hr p hp) (hk₃ _ _ (hk₂ _ _ (hoff r hr p hp) (G.new r hr p hp).1)), (G.new r hr p hp).2⟩) fun p hp => ⟨hk₄ _ _ (newD p hp) (hl p hp).1, new0 p hp⟩,
    split G.off newD, fun b o hb' e => hk₄ b o (fun q => by rw [q, G.none] at e; cases e) (hk₃ _ _ (keep₂ b o hb' e)), fun h => hb (G.bare h)⟩, split hoff newP⟩
  · rw [List.map_append]; show h₄.PlainList D (rs.map (·.1) ++ [y]).toArray; rw [← List.push_toArray]; exact hl₄
  · rw [List.length_append, G.len]; rfl
  · rcases Nat.lt_or_ge j rs.length with hj | hj
    · rw [List.getElem?_append_left hj] at hr
      exact G.each j r hr
    · rw [List.getElem?_append_right hj] at hr
      have hj0 : j - rs.length = 0 := by
        rcases Nat.eq_zero_or_pos (j - rs.length) with q | q
        · exact q
        · rw [List.getElem?_eq_none (by rw [List.length_singleton]; exact q)] at hr; cases hr
      rw [hj0] at hr
      cases hr
      rw [show j = i from (Nat.le_antisymm (Nat.le_of_sub_eq_zero hj0) hj).trans G.len]; exact hF
/-- what a comprehension's loop holds to, at the count k -/
inductive CInv (F : Nat → Value → List (Addr × Obj) → Prop) (n : Nat) (wr : List Addr) (s₂ : Shared) (D : Addr) (P : Addr → Prop) (St : Nat → Heap → Prop) (M : Nat → Heap → Prop) (k : Nat) (s' : Shared) : Prop
  | mk (i : Nat) (h' : Heap) (g' : Array GenState) (tk : Nat) (rs : List (Value × List (Addr × Obj))) (eq : s' = { s₂ with heap := h', gens := g', toks := tk }) (hi : i ≤ n) (hk : k = n + 1 - i) (hst : St i h') (hm : M tk h')
    (G : CompGot F i wr s₂ h' g' D rs) (off : ∀ r ∈ rs, ∀ p ∈ r.2, ¬ P p.1)

theorem comp_block {elt target iter : Expr} {pos : Pos} {s₂ : Shared} {I : Addr} {fp wr : List Addr} {n : Nat} {B : Nat → (Str → Option Value) → Prop}
    {St : Nat → Heap → Prop} (W : Turns prog w A env scope cl target I fp wr n B St) (hsz : n ≤ sizeLine) (F : Nat → Value → List (Addr × Obj) → Prop) {RR : Value → Addr → Result → Shared → Prop}
    (hcell : ∀ y ∈ scope.names, y.2 ≠ .cell) (hkind : scope.kind = .function) (hst : St 0 s₂.heap) (hfp : ∀ b ∈ fp, b < s₂.heap.objs.size) (hlive : ∀ i h, St i h → ∀ b ∈ wr, ∃ o, h.get? b = some o)
    (hq : EltOk prog w A env scope cl elt wr n B F s₂)
    (hRR : ∀ D C h' g' tk m' rs, s₂.heap.get? C = none → D ≠ C → h'.Ns C m' → CompGot F n wr s₂ h' g' D rs → (∀ r ∈ rs, ∀ p ∈ r.2, p.1 ≠ C) → RR (.ref D) C (.ok .next) { s₂ with heap := h', gens := g', toks := tk }) :
    wpAny (model prog w) A (newList []) (fun acc s₃ => wpAny (model prog w) A (newFunctionEnv scope env.globals cl [] env.qual none .none (some env)) (fun cenv s₄ =>
      codeAny (model prog w) A (.compStart (.ListComp elt [⟨target, iter, [], 0⟩] scope pos) 0 (.ref I) acc { cenv with scope := relabel scope env }) (RR acc cenv.locals) s₄) E s₃) E s₂ := by
  refine wpAny_newObj_type (wpAny_newFunctionEnv hcell (by intro y hy; simp at hy) (fun h₁ hns₁ hsb₁ => ?_) hkind)
  dsimp only at hns₁ hsb₁ ⊢
  generalize hH2 : s₂.heap.push { cls := .type "list", dict := none, data := .seq ([] : List Value).toArray } = H2 at hns₁ hsb₁ ⊢
  have hC : H2.objs.size = s₂.heap.objs.size + 1 := by rw [← hH2, Heap.size_push]
  have hDC : s₂.heap.objs.size ≠ H2.objs.size := by rw [hC]; exact Nat.ne_of_lt (Nat.lt_succ_self _)
  have hCle : s₂.heap.objs.size ≤ H2.objs.size := by rw [hC]; exact Nat.le_succ _
  have below : ∀ b, b < s₂.heap.objs.size → b ≠ H2.objs.size ∧ b ≠ s₂.heap.objs.size := fun b hb => ⟨by rw [hC]; exact Nat.ne_of_lt (Nat.lt_succ_of_lt hb), Nat.ne_of_lt hb⟩
  have hDf : s₂.heap.objs.size ∉ fp := fun hm => Nat.lt_irrefl _ (hfp _ hm)
  have hCf : H2.objs.size ∉ fp := fun hm => by have := hfp _ hm; rw [hC] at this; exact Nat.lt_irrefl _ (Nat.lt_of_succ_lt this)
  have old : ∀ b o, s₂.heap.get? b = some o → h₁.get? b = some o := fun b o e => hsb₁.extBut b o (below b (Heap.lt_size e)).1 (Heap.get?_push_of_some _ (hH2 ▸ Heap.get?_push_of_some _ e))
  have hacc : h₁.PlainList s₂.heap.objs.size #[] := ⟨_, hsb₁.extBut _ _ hDC (Heap.get?_push_of_some _ (hH2 ▸ Heap.get?_push_size _ rfl))⟩
  have hst₁ : St 0 h₁ := W.frame _ _ _ hst fun b _ o e => old b o e
  have fresh : ∀ a, s₂.heap.objs.size ≤ a → s₂.heap.get? a = none := fun a ha => by
    cases e : s₂.heap.get? a with
    | none => rfl
    | some o' => exact absurd (Heap.lt_size e) (Nat.not_lt.mpr ha)
  generalize hCe : H2.objs.size = C at *
  generalize hDe : s₂.heap.objs.size = D at *
  have hCn := fresh C hCle
  have hDn := fresh D (Nat.le_refl _)
  have loop : ∀ s₃ : Shared, s₃ = { s₂ with heap := h₁, toks := s₂.toks + ([] : List (Str × Value)).length } →
      codeAny (model prog w) A (.compLoop (.ListComp elt [⟨target, iter, [], 0⟩] scope pos) 0 (.ref I) (.ref D) (compEnvC scope cl C env)) (RR (.ref D) C) s₃ := by
    rintro s₃ rfl
    have hPD : ¬ (D = C ∨ D ∈ wr) := fun q => q.elim hDC fun q => hDf (W.sub _ q)
    refine compLoop_any (CInv F n wr s₂ D (fun b => b = C ∨ b ∈ wr) St (fun k h => s₂.toks ≤ k ∧ ∃ m, h.Ns C m)) ?_ (n + 1)
      ⟨0, h₁, s₂.gens, _, [], rfl, Nat.zero_le _, rfl, hst₁, ⟨Nat.le_add_right _ _, _, hns₁⟩, ⟨hDn, hacc, rfl, (fun _ _ e => nomatch e), (fun _ hr => nomatch hr), (fun _ hr => nomatch hr), fun b o _ e => old b o e, _root_.id⟩, (fun _ hr => nomatch hr)⟩
    rintro k s' ⟨i, h', g', tk, rs, rfl, hi, rfl, hst', ⟨htk, m', hn'⟩, G, hoffC⟩
    have hDw : D ∉ wr := fun q => hDf (W.sub _ q)
    by_cases hlt : i < n
    · refine wpAny_with_toks (n := s₂.toks) htk (wpAny_mono (W.item i C { s₂ with heap := h', gens := g', toks := tk } m' (fun _ s₃ => ∃ (h₂ : Heap) (tk₂ : Nat) (m₂ : Str → Option Value), s₃ = { s₂ with heap := h₂, gens := g', toks := tk₂ } ∧ h₂.Ns C m₂ ∧ B i m₂ ∧ St (i + 1) h₂ ∧ (∀ b o, b ∉ wr → b ≠ C → h'.get? b = some o → h₂.get? b = some o)) (fun _ _ => False) hlt hCf hst' hn'
        fun h₂ tk₂ m₂ hn₂ hB hst₂ hk₂ => ⟨h₂, tk₂, m₂, rfl, hn₂, hB, hst₂, hk₂⟩) (fun r s₁ h₁' htk1 => ?_) fun _ _ e => e.elim)
      cases r with
      | none => exact h₁'.elim
      | some v =>
        refine wpAny_with_toks (n := s₂.toks) htk1 (wpAny_mono h₁' (fun _ s₄ h₄ htk4 => wpAny_with_toks (n := s₂.toks) htk4 (wpAny_mono h₄ (fun _ s₅ h₅ htk5 => ?_) fun _ _ e => e.elim)) fun _ _ e => e.elim)
        obtain ⟨h₂, tk₂, m₂, rfl, hn₂, hB, hst₂, hk₂⟩ := h₅
        have keep₂ : ∀ b o, b ∉ wr → s₂.heap.get? b = some o → h₂.get? b = some o := fun b o hb e => hk₂ b o hb (fun q => by rw [q, hCn] at e; cases e) (G.keep b o hb e)
        refine wpAny_with_toks (n := s₂.toks) htk5 (wpAny_mono (hq C i _ m₂ (by rw [hDe]; exact hCle) hlt hB hn₂ keep₂ htk5) (fun y s₆ h₆ htk6 => ?_) fun _ _ e => e.elim)
        obtain ⟨l, hF, hl, h₃, g₃, tk₃, rfl, hk₃, hb₃⟩ := h₆
        have hlist₃ : h₃.PlainList D (rs.map (·.1)).toArray := (G.list.at fun o e => hk₂ _ o hDw hDC e).at fun o e => hk₃ _ o e
        have hsz' : (rs.map (·.1)).toArray.size ≤ sizeLine := by rw [List.size_toArray, List.length_map, G.len]; exact Nat.le_trans hi hsz
        refine wpAny_list_append_plain hlist₃ (fun h₄ hl₄ hs₄ => ?_) hsz'
        have hk₄ : ∀ b o, b ≠ D → h₃.get? b = some o → h₄.get? b = some o := fun b o hb e => hs₄.extBut b o hb e
        obtain ⟨_, _, _, hCo, _⟩ := id hn₂
        obtain ⟨G', off'⟩ := compSnoc (P := fun b => b = C ∨ b ∈ wr) G hoffC (fun _ => .inr) hPD (fun b q => q.elim (fun q => q ▸ ⟨_, hCo⟩) (hlive _ _ hst₂ b)) (fun b o q e => q.resolve_left fun q => by rw [q, hCn] at e; cases e) (fun b o q => hk₂ b o (fun z => q (.inr z)) fun z => q (.inl z)) hk₃ hk₄ hl₄ hF hl hb₃
        exact ⟨n + 1 - (i + 1), downTurn hlt, i + 1, h₄, g₃, _, _, rfl, hlt, rfl, W.frame _ _ _ hst₂ fun b hb o e => hk₄ b o (fun q => hDf (q ▸ hb)) (hk₃ b o e), ⟨htk6, _, (hn₂.at fun o e => hk₃ _ o e).at fun o e => hk₄ _ o (Ne.symm hDC) e⟩, G', off'⟩
    · obtain rfl := eqOf hi hlt
      refine W.done _ _ _ hst' fun h₂ tk₂ hk₂ => ?_
      refine hRR D C h₂ g' tk₂ m' rs hCn hDC (hn'.at fun o e => hk₂ _ o (fun q => hCf (W.sub _ q)) e) ⟨hDn, G.list.at fun o e => hk₂ _ o hDw e, G.len, G.each, fun r hr p hp => ?_, G.off, fun b o hb e => hk₂ b o hb (G.keep b o hb e), G.bare⟩ fun r hr p hp q => hoffC r hr p hp (.inl q)
      exact ⟨hk₂ _ _ (fun q => hoffC r hr p hp (.inr q)) (G.new r hr p hp).1, (G.new r hr p hp).2⟩
  exact codeAny_compStart_list (loop _ rfl) (W.self 0 _ _ _ hst₁ (loop _ rfl))

/-- the comprehension as an expression -/
theorem comp_eval {s : Shared} {elt target iter : Expr} {pos : Pos} {Q : Value → Shared → Prop}
    (hclos : closureFor scope env = pure cl) (hcell : ∀ y ∈ scope.names, y.2 ≠ .cell) (hkind : scope.kind = .function)
    (hnames : ∀ y ∈ scope.names, y.2 = .local → scope.names.lookup y.1 = some .local)
    (h : wpAny (model prog w) A (eval iter env) (fun xv s₁ => wpAny (model prog w) A (pyIter xv) (fun it s₂ => ∃ I fp wr n B St F, it = .ref I ∧ Turns prog w A env scope cl target I fp wr n B St ∧ n ≤ sizeLine ∧ St 0 s₂.heap ∧ (∀ b ∈ fp, b < s₂.heap.objs.size) ∧
      (∀ i h, St i h → ∀ b ∈ wr, ∃ o, h.get? b = some o) ∧ EltOk prog w A env scope cl elt wr n B F s₂ ∧
      (∀ D h' g' tk rs, CompGot F n wr s₂ h' g' D rs → Q (.ref D) { s₂ with heap := h', gens := g', toks := tk })) E s₁) E s)
    (hs : ∀ x, foldedSetIterable iter env x = pure x := by intro _; rfl) :
    wpAny (model prog w) A (eval (.ListComp elt [⟨target, iter, [], 0⟩] scope pos) env) Q E s := by
  rw [eval_ListComp]
  refine wpAny_comprehension_free (use := none) rfl hs hclos hkind hnames (wpAny_mono h (fun xv s₁ h₁ => wpAny_mono h₁ (fun it s₂ h₂ => ?_) fun _ _ e => e) fun _ _ e => e)
  obtain ⟨I, fp, wr, n, B, St, F, rfl, W, hsz, hst, hfp, hlive, hq, hQ⟩ := h₂
  refine comp_block (RR := fun acc C => compPost (model prog w) A E none Q acc C) W hsz F hcell hkind hst hfp hlive hq ?_
  intro D C h' g' tk m' rs hC hDC hn G hoff
  refine ⟨m', hn, fun h'' hs'' => hQ D h'' g' tk rs ⟨G.none, G.list.at fun o e => hs''.extBut _ o hDC e, G.len, G.each, fun r hr p hp => ⟨hs''.extBut _ _ (hoff r hr p hp) (G.new r hr p hp).1, (G.new r hr p hp).2⟩, G.off, fun b o hb e => ?_, G.bare⟩⟩
  exact hs''.extBut b o (fun q => by rw [show b = C from q, hC] at e; cases e) (G.keep b o hb e)

/-- the comprehension that a name is bound to -/
theorem comp_assign {s : Shared} {elt target iter : Expr} {y : Str} {py : Pos} {pos spos : Pos} {Q : Flow → Shared → Prop}
    (hsw : swapsWith (.ListComp elt [⟨target, iter, [], 0⟩] scope pos) (some (.Name y py)) spos.line env = pure true)
    (hclos : closureFor scope env = pure cl) (hcell : ∀ z ∈ scope.names, z.2 ≠ .cell) (hkind : scope.kind = .function)
    (hnames : ∀ z ∈ scope.names, z.2 = .local → scope.names.lookup z.1 = some .local)
    (h : wpAny (model prog w) A (eval iter env) (fun xv s₁ => wpAny (model prog w) A (pyIter xv) (fun it s₂ => ∃ I fp wr n B St F, it = .ref I ∧ Turns prog w A env scope cl target I fp wr n B St ∧ n ≤ sizeLine ∧ St 0 s₂.heap ∧ (∀ b ∈ fp, b < s₂.heap.objs.size) ∧
      (∀ i h, St i h → ∀ b ∈ wr, ∃ o, h.get? b = some o) ∧ EltOk prog w A env scope cl elt wr n B F s₂ ∧
      (∀ D h' g' tk rs, CompGot F n wr s₂ h' g' D rs → wpAny (model prog w) A (storeName env y (.ref D)) (fun _ s₅ => (∀ C, s₂.heap.get? C = none → (∃ o, h'.get? C = some o) → C ≠ D → (∀ r ∈ rs, ∀ p ∈ r.2, p.1 ≠ C) → s₅.heap.get? C = h'.get? C) ∧
        ∀ h₆, (∀ b o, (s₂.heap.get? b ≠ none ∨ b = D ∨ ∃ r ∈ rs, ∃ p ∈ r.2, p.1 = b) → s₅.heap.get? b = some o → h₆.get? b = some o) → Q .next { s₅ with heap := h₆ }) E { s₂ with heap := h', gens := g', toks := tk })) E s₁) E s)
    (hs : ∀ x, foldedSetIterable iter env x = pure x := by intro _; rfl) :
    wpAny (model prog w) A (exec (.Assign [.Name y py] (.ListComp elt [⟨target, iter, [], 0⟩] scope pos) spos) env) Q E s := by
  rw [exec_Assign_Name_used _ _ _ _ hsw]
  refine wpAny_bind (wpAny_standAt (wpAny_bind ?_))
  show wpAny _ A (do let _ ← comprehension (.ListComp elt [⟨target, iter, [], 0⟩] scope pos) scope env _ (newList []) false (eval iter env) (some (assign (.Name y py) env))) _ _ s
  refine wpAny_bind (wpAny_mono (wpAny_comprehension_free (use := some (assign (.Name y py) env)) (Q := fun _ s' => Q .next s') rfl hs hclos hkind hnames
    (wpAny_mono h (fun xv s₁ h₁ => wpAny_mono h₁ (fun it s₂ h₂ => ?_) fun _ _ e => e) fun _ _ e => e)) (fun _ s' hq => wpAny_pure (wpAny_pure hq)) fun _ _ e => e)
  obtain ⟨I, fp, wr, n, B, St, F, rfl, W, hsz, hst, hfp, hlive, hq, hQ⟩ := h₂
  refine comp_block (RR := fun acc C => compPost (model prog w) A E (some (assign (.Name y py) env)) (fun _ s' => Q .next s') acc C) W hsz F hcell hkind hst hfp hlive hq ?_
  intro D C h' g' tk m' rs hC hDC hn G hoff
  show wpAny _ A (assign (.Name y py) env (.ref D)) _ _ _
  refine wpAny_assign_Name (wpAny_mono (hQ D h' g' tk rs G) (fun _ s₅ h₅ => ?_) fun _ _ e => e)
  obtain ⟨e5, hq5⟩ := h₅
  have hC5 := e5 C hC (let ⟨o, _, _, ho, _⟩ := hn; ⟨o, ho⟩) (Ne.symm hDC) hoff
  refine ⟨m', hn.at fun o e => hC5.trans e, fun h₆ hs₆ => hq5 h₆ fun b o hb e => hs₆.extBut b o ?_ e⟩
  intro q
  have q' : b = C := q
  subst q'
  rcases hb with hb | hb | ⟨r, hr, p, hp, hb⟩
  · exact hb hC
  · exact hDC hb.symm
  · exact hoff r hr p hp hb
end
end Mine
end
/- SORT -/
section
open PySem PySem.W PyProof.Rows
set_option maxRecDepth 100000
set_option genSizeOf false
set_option genInjectivity false
namespace Mine

/-! ## the library's sort, for keys that all differ and that one fixed state compares; rk is a key's rank -/
noncomputable def rkAt (rk : Value → Nat) (xs : Array Keyed) (i : Nat) : Nat := rk (xs[i]?.getD (.none, .none)).1
noncomputable def Up (rk : Value → Nat) (xs : Array Keyed) (k : Nat) : Prop := ∀ i j, i < j → j < k → rkAt rk xs i < rkAt rk xs j
noncomputable def Dn (rk : Value → Nat) (xs : Array Keyed) (k : Nat) : Prop := ∀ i j, i < j → j < k → rkAt rk xs j < rkAt rk xs i
/-- this state compares these values by their ranks -/
noncomputable def Cmps (prog : Program) (w : World) (A : Around) (s : Shared) (rk : Value → Nat) (a₀ : Array Keyed) : Prop :=
  ∀ (E : Value → Shared → Prop) (Q : Bool → Shared → Prop) (p q : Keyed), p ∈ a₀ → q ∈ a₀ → Q (decide (rk p.1 < rk q.1)) s → wpAny (model prog w) A (oneLt' true p.1 q.1) Q E s
noncomputable def Differ (rk : Value → Nat) (a₀ : Array Keyed) : Prop := (a₀.toList.map fun p => rk p.1).Nodup

theorem rk_same {rk : Value → Nat} {xs ys : Array Keyed} {i j : Nat} (h : xs[i]? = ys[j]?) : rkAt rk xs i = rkAt rk ys j := by simp only [rkAt, h]
theorem rk_moved {rk : Value → Nat} {xs : Array Keyed} {k l : Nat} (hk : k < xs.size) (hl : l ≤ k) (i : Nat) :
    rkAt rk (bubble xs k (k - l)) i = if i = l then rkAt rk xs k else if l < i ∧ i ≤ k then rkAt rk xs (i - 1) else rkAt rk xs i := by
  have e := getElem?_bubble hk (k - l) (Nat.sub_le _ _) i
  have el : k - (k - l) = l := Nat.sub_sub_self hl
  rw [el] at e
  by_cases h1 : i = l
  · simp only [h1, if_true] at e ⊢; exact rk_same e
  · by_cases h2 : l < i ∧ i ≤ k
    · simp only [h1, h2, if_false, and_self, if_true] at e ⊢; exact rk_same e
    · simp only [h1, h2, if_false] at e ⊢; exact rk_same e
theorem rk_turned {rk : Value → Nat} {xs : Array Keyed} {n : Nat} (hn : n ≤ xs.size) (i : Nat) :
    rkAt rk (mirror xs 0 n ((n - 0) / 2)) i = if i < n then rkAt rk xs (n - 1 - i) else rkAt rk xs i := by
  have e := getElem?_mirror_all (i := 0) hn i
  by_cases h : i < n
  · rw [if_pos ⟨Nat.zero_le _, h⟩, Nat.zero_add] at e; rw [if_pos h]; exact rk_same e
  · rw [if_neg (fun q => h q.2)] at e; rw [if_neg h]; exact rk_same e
theorem up_turned {rk : Value → Nat} {xs : Array Keyed} {n : Nat} (hn : n ≤ xs.size) (h : Dn rk xs n) : Up rk (mirror xs 0 n ((n - 0) / 2)) n := by
  intro i j hij hj
  rw [rk_turned hn, rk_turned hn, if_pos (Nat.lt_trans hij hj), if_pos hj]
  exact h _ _ (Nat.sub_lt_sub_left (Nat.lt_of_lt_of_le hij (Nat.le_sub_one_of_lt hj)) hij) (Nat.lt_of_le_of_lt (Nat.sub_le _ _) (Nat.sub_one_lt_of_lt hj))

section
variable {prog : Program} {w : World} {A : Around} {E : Value → Shared → Prop} {s : Shared} {a₀ : Array Keyed} {rk : Value → Nat} {st : SortSt}

theorem SB.differ (hD : Differ rk a₀) (hB : SBase a₀ st) {i j : Nat} (hi : i < a₀.size) (hj : j < a₀.size) (hne : i ≠ j) : rkAt rk (arrOf st) i ≠ rkAt rk (arrOf st) j := by
  have hsz := hB.size
  have hn : ((arrOf st).toList.map fun p => rk p.1).Nodup := ((Array.perm_iff_toList_perm.mp hB.perm).map _).nodup_iff.mpr hD
  have get : ∀ k, (h : k < a₀.size) → ((arrOf st).toList.map fun p => rk p.1)[k]? = some (rkAt rk (arrOf st) k) := fun k hk => by
    have hk' : k < (arrOf st).size := by rw [hsz]; exact hk
    simp [rkAt, hk']
  intro e
  have h1 := get i hi
  have h2 := get j hj
  rw [e] at h1
  obtain ⟨hi', e1⟩ := List.getElem?_eq_some_iff.mp h1
  obtain ⟨hj', e2⟩ := List.getElem?_eq_some_iff.mp h2
  have hp := List.pairwise_iff_getElem.mp hn
  rcases Nat.lt_or_gt_of_ne hne with q | q
  · exact hp i j hi' hj' q (e1.trans e2.symm)
  · exact hp j i hj' hi' q (e2.trans e1.symm)

theorem less_at {i j : Nat} {Q : Option Bool → SortSt → Prop} (hC : Cmps prog w A s rk a₀) (hB : SBase a₀ st) (hi : i < a₀.size) (hj : j < a₀.size)
    (h : Q (some (decide (rkAt rk (arrOf st) i < rkAt rk (arrOf st) j))) st) : wpS (model prog w) A E s (ltAt' i j) Q st := by
  have hsz := hB.size
  have at' : ∀ k, k < a₀.size → ∃ p : Keyed, (arrOf st)[k]? = some p ∧ p ∈ a₀ ∧ rkAt rk (arrOf st) k = rk p.1 := fun k hk => by
    have hk' : k < (arrOf st).size := by rw [hsz]; exact hk
    refine ⟨(arrOf st)[k], Array.getElem?_eq_getElem hk', ?_, by simp [rkAt, hk']⟩
    exact Array.mem_toList_iff.mp ((Array.perm_iff_toList_perm.mp hB.perm).mem_iff.mp (Array.mem_toList_iff.mpr (Array.getElem_mem hk')))
  obtain ⟨⟨x, p⟩, ei, mi, ri⟩ := at' i hi
  obtain ⟨⟨y, q⟩, ej, mj, rj⟩ := at' j hj
  rw [ri, rj] at h
  rw [ltAt'_eq]
  refine wpS_bind (wpS_get ?_)
  simp only [elem'_eq, ei, ej]
  refine wpS_bind (wpS_pure (wpS_bind (wpS_pure ?_)))
  rw [lt'_eq]
  refine wpS_bind (wpS_get (wpS_bind ?_))
  rw [hB.kind, keyLt'_oneType]
  exact wpS_lift (wpAny_attempt (hC _ _ _ _ mi mj ⟨rfl, wpS_pure h⟩))

theorem asc_run {a m : Nat} {Q : AscSt → SortSt → Prop} (hC : Cmps prog w A s rk a₀) (hD : Differ rk a₀) (hB : SBase a₀ st) (hm : m ≤ a₀.size) (ha : 1 ≤ a) (ham : a ≤ m) (hu : Up rk (arrOf st) a)
    (h : ∀ n, a ≤ n → n ≤ m → Up rk (arrOf st) n → (n < m → rkAt rk (arrOf st) n < rkAt rk (arrOf st) (n - 1)) → Q (none, n) st) : wpS (model prog w) A E s (ascLoop a m) Q st := by
  refine wpS_forRange (fun x c st' => st' = st ∧ c = (none, x) ∧ Up rk (arrOf st) x) (fun x c st' h1 h2 hI => ?_) (fun c st' hI => ?_) ⟨rfl, rfl, hu⟩
  · obtain ⟨rfl, rfl, hx⟩ := hI
    have xa := Nat.lt_of_lt_of_le h2 hm
    have xp := predSize h2 hm
    refine wpS_bind (less_at hC hB xa xp ?_)
    have hd := SB.differ hD hB (i := x) (j := x - 1) xa xp (Nat.ne_of_gt (predLt ha h1))
    by_cases hl : rkAt rk (arrOf st') x < rkAt rk (arrOf st') (x - 1)
    · simp only [hl, decide_true, if_true]
      exact wpS_pure (h x h1 (Nat.le_of_lt h2) hx fun _ => hl)
    · simp only [hl, decide_false, Bool.false_eq_true, if_false]
      refine wpS_pure ⟨rfl, rfl, fun i j hij hj => ?_⟩
      rcases Nat.lt_or_ge j x with hjx | hjx
      · exact hx i j hij hjx
      · have hj' : j = x := Nat.le_antisymm (Nat.le_of_lt_succ hj) hjx
        subst hj'
        rcases Nat.lt_or_ge i (j - 1) with hi | hi
        · have z := hx i (j - 1) hi (predLt ha h1)
          exact Nat.lt_of_lt_of_le z (Nat.le_of_not_lt hl)
        · have hi' : i = j - 1 := Nat.le_antisymm (Nat.le_sub_one_of_lt hij) hi
          subst hi'
          exact Nat.lt_of_le_of_ne (Nat.le_of_not_lt hl) (Ne.symm hd)
  · obtain ⟨rfl, rfl, hx⟩ := hI
    rw [Nat.max_eq_right ham] at hx ⊢
    exact h m ham (Nat.le_refl _) hx fun q => absurd q (Nat.lt_irrefl _)

theorem desc_run {a m : Nat} {Q : DescSt → SortSt → Prop} (hC : Cmps prog w A s rk a₀) (hD : Differ rk a₀) (hB : SBase a₀ st) (hm : m ≤ a₀.size) (ha : 1 ≤ a) (ham : a ≤ m) (hu : Dn rk (arrOf st) a)
    (h : ∀ n, a ≤ n → n ≤ m → Dn rk (arrOf st) n → Q (none, n, 0) st) : wpS (model prog w) A E s (descLoop a m) Q st := by
  refine wpS_forRange (fun x c st' => st' = st ∧ c = (none, x, 0) ∧ Dn rk (arrOf st) x) (fun x c st' h1 h2 hI => ?_) (fun c st' hI => ?_) ⟨rfl, rfl, hu⟩
  · obtain ⟨rfl, rfl, hx⟩ := hI
    have xa := Nat.lt_of_lt_of_le h2 hm
    have xp := predSize h2 hm
    refine wpS_bind (less_at (i := x) (j := x - 1) hC hB xa xp ?_)
    have hd := SB.differ hD hB (i := x) (j := x - 1) xa xp (Nat.ne_of_gt (predLt ha h1))
    by_cases hl : rkAt rk (arrOf st') x < rkAt rk (arrOf st') (x - 1)
    · simp only [hl, decide_true, if_true]
      refine wpS_pure ⟨rfl, rfl, fun i j hij hj => ?_⟩
      rcases Nat.lt_or_ge j x with hjx | hjx
      · exact hx i j hij hjx
      · have hj' : j = x := Nat.le_antisymm (Nat.le_of_lt_succ hj) hjx
        subst hj'
        rcases Nat.lt_or_ge i (j - 1) with hi | hi
        · exact Nat.lt_trans hl (hx i (j - 1) hi (predLt ha h1))
        · have hi' : i = j - 1 := Nat.le_antisymm (Nat.le_sub_one_of_lt hij) hi
          subst hi'
          exact hl
    · simp only [hl, decide_false, Bool.false_eq_true, if_false]
      refine wpS_bind (less_at (i := x - 1) (j := x) hC hB xp xa ?_)
      have hl2 : rkAt rk (arrOf st') (x - 1) < rkAt rk (arrOf st') x := Nat.lt_of_le_of_ne (Nat.le_of_not_lt hl) (Ne.symm hd)
      simp only [hl2, decide_true, if_true]
      exact wpS_pure (h x h1 (Nat.le_of_lt h2) hx)
  · obtain ⟨rfl, rfl, hx⟩ := hI
    rw [Nat.max_eq_right ham] at hx ⊢
    exact h m ham (Nat.le_refl _) hx

theorem turn_run {n m : Nat} {Q : Option Nat → SortSt → Prop} (hC : Cmps prog w A s rk a₀) (hD : Differ rk a₀) (hB : SBase a₀ st) (hm : m ≤ a₀.size) (h1 : 1 ≤ n) (hnm : n ≤ m) (hd : Dn rk (arrOf st) n)
    (h : ∀ k st', SBase a₀ st' → 1 ≤ k → k ≤ m → Up rk (arrOf st') k → Q (some k) st') : wpS (model prog w) A E s (tail3 n m) Q st := by
  have hB' : SBase a₀ (setArr st (mirror (arrOf st) 0 n ((n - 0) / 2))) := hB.setArr (mirror_perm _ _ _ _)
  refine wpS_bind (wpS_reverse (wpS_bind (asc_run hC hD hB' hm h1 hnm (up_turned (hB.size ▸ Nat.le_trans hnm hm) hd) fun k hk1 hk2 hu _ => ?_)))
  exact wpS_pure (h k _ hB' (Nat.le_trans h1 hk1) hk2 hu)

theorem desc_part {n m : Nat} {Q : Option Nat → SortSt → Prop} (hC : Cmps prog w A s rk a₀) (hD : Differ rk a₀) (hB : SBase a₀ st) (hm : m ≤ a₀.size) (hnm : n + 1 ≤ m) (hd : Dn rk (arrOf st) (n + 1))
    (h : ∀ k st', SBase a₀ st' → 1 ≤ k → k ≤ m → Up rk (arrOf st') k → Q (some k) st') : wpS (model prog w) A E s (descPart n m) Q st := by
  refine wpS_bind (wpS_lift (wpAny_rule ⟨rfl, wpS_bind (desc_run hC hD hB hm (Nat.succ_pos n) hnm hd fun k hk1 hk2 hdk => ?_)⟩))
  exact turn_run (n := k) hC hD hB hm (Nat.le_trans (Nat.succ_pos n) hk1) hk2 hdk h

theorem count_run {m : Nat} {Q : Option Nat → SortSt → Prop} (hC : Cmps prog w A s rk a₀) (hD : Differ rk a₀) (hB : SBase a₀ st) (hm : m ≤ a₀.size) (h1 : 1 ≤ m)
    (h : ∀ k st', SBase a₀ st' → 1 ≤ k → k ≤ m → Up rk (arrOf st') k → Q (some k) st') : wpS (model prog w) A E s (countRun' 0 m) Q st := by
  rw [countRun0_eq]
  refine wpS_bind (asc_run hC hD hB hm (Nat.le_refl 1) h1 (fun i j hij hj => absurd (Nat.lt_of_lt_of_le hij (Nat.le_of_lt_succ hj)) (Nat.not_lt_zero i)) fun n hn1 hn2 hu hlast => ?_)
  dsimp only
  by_cases hnm : n = m
  · rw [if_pos (by simpa using hnm)]
    exact wpS_pure (h n st hB hn1 hn2 hu)
  · rw [if_neg (by simpa using hnm)]
    have hl := hlast (Nat.lt_of_le_of_ne hn2 hnm)
    by_cases hg : n > 1
    · rw [if_pos hg]
      have np := predLt (Nat.le_refl 1) hn1
      refine wpS_bind (less_at hC hB (Nat.lt_of_lt_of_le h1 hm) (Nat.lt_of_lt_of_le np (Nat.le_trans hn2 hm)) ?_)
      have hrise := hu 0 (n - 1) (Nat.sub_pos_of_lt hg) np
      simp only [hrise, decide_true, if_true]
      exact wpS_pure (h n st hB hn1 hn2 hu)
    · rw [if_neg hg]
      have hn : n = 1 := Nat.le_antisymm (Nat.le_of_not_lt hg) hn1
      subst hn
      refine desc_part hC hD hB hm (Nat.lt_of_le_of_ne hn2 hnm) (fun i j hij hj => ?_) h
      have hi0 : i = 0 := oneZero (Nat.lt_of_lt_of_le hij (Nat.le_of_lt_succ hj))
      have hj1 : j = 1 := twoOne hj (Nat.lt_of_le_of_lt (Nat.zero_le i) hij)
      subst hi0 hj1
      exact hl

theorem mid_le {l r : Nat} (h : l < r) : l ≤ (l + r) / 2 ∧ (l + r) / 2 < r :=
  ⟨(Nat.le_div_iff_mul_le Nat.two_pos).mpr (Nat.mul_two l ▸ Nat.add_le_add_left (Nat.le_of_lt h) l), (Nat.div_lt_iff_lt_mul Nat.two_pos).mpr (Nat.mul_two r ▸ Nat.add_lt_add_right h r)⟩
theorem bin_gap {l r q k x : Nat} (h : r - l ≤ k - x) (h1 : l ≤ q) (h2 : q < r) : q - l ≤ k - (x + 1) :=
  Nat.le_sub_one_of_lt (Nat.lt_of_lt_of_le (Nat.sub_lt_sub_right h1 h2) h)
theorem bin_gap2 {l r q k x : Nat} (h : r - l ≤ k - x) (h1 : l ≤ q) (h2 : q < r) : r - (q + 1) ≤ k - (x + 1) :=
  Nat.le_sub_one_of_lt (Nat.lt_of_lt_of_le (Nat.sub_lt_sub_left (Nat.lt_of_le_of_lt h1 h2) (Nat.lt_succ_of_le h1)) h)
theorem moved_lt {f : Nat → Nat} {k l i j : Nat} (hlk : l ≤ k) (hlo : ∀ i, i < l → f i < f k) (hhi : ∀ i, l ≤ i → i < k → f k < f i) (hk : ∀ i j, i < j → j < k → f i < f j) (hij : i < j) (hj : j ≤ k) :
    (if i = l then f k else if l < i ∧ i ≤ k then f (i - 1) else f i) < (if j = l then f k else if l < j ∧ j ≤ k then f (j - 1) else f j) := by
  have j1 : j - 1 < k := Nat.lt_of_lt_of_le (Nat.sub_one_lt_of_lt hij) hj
  rcases Nat.lt_trichotomy i l with h | h | h
  · rw [if_neg (Nat.ne_of_lt h), if_neg (fun q => absurd (Nat.lt_trans h q.1) (Nat.lt_irrefl _))]
    rcases Nat.lt_trichotomy j l with g | g | g
    · rw [if_neg (Nat.ne_of_lt g), if_neg (fun q => absurd (Nat.lt_trans g q.1) (Nat.lt_irrefl _))]
      exact hk i j hij (Nat.lt_of_lt_of_le g hlk)
    · rw [if_pos g]; exact hlo i h
    · rw [if_neg (Nat.ne_of_gt g), if_pos ⟨g, hj⟩]
      exact hk i (j - 1) (Nat.lt_of_lt_of_le h (Nat.le_sub_one_of_lt g)) j1
  · subst h
    rw [if_pos rfl, if_neg (Nat.ne_of_gt hij), if_pos ⟨hij, hj⟩]
    exact hhi (j - 1) (Nat.le_sub_one_of_lt hij) j1
  · have g := Nat.lt_trans h hij
    rw [if_neg (Nat.ne_of_gt h), if_pos ⟨h, Nat.le_trans (Nat.le_of_lt hij) hj⟩, if_neg (Nat.ne_of_gt g), if_pos ⟨g, hj⟩]
    exact hk (i - 1) (j - 1) (Nat.lt_of_lt_of_le (Nat.sub_one_lt_of_lt h) (Nat.le_sub_one_of_lt hij)) j1

theorem bin_sort {m k₀ : Nat} {Q : Bool → SortSt → Prop} (hC : Cmps prog w A s rk a₀) (hD : Differ rk a₀) (hB : SBase a₀ st) (hm : m ≤ a₀.size) (h0 : 1 ≤ k₀) (hk : k₀ ≤ m) (hu : Up rk (arrOf st) k₀)
    (h : ∀ st', SBase a₀ st' → Up rk (arrOf st') m → Q true st') : wpS (model prog w) A E s (binarySort' 0 m k₀) Q st := by
  rw [binarySort'_eq]
  simp only [Nat.zero_add, Nat.max_eq_left h0]
  refine wpS_bind (wpS_forRange (fun k c st' => c = (none, ()) ∧ SBase a₀ st' ∧ Up rk (arrOf st') k) (fun k c st' h1 h2 hI => ?_) (fun c st' hI => ?_) ⟨rfl, hB, hu⟩)
  · obtain ⟨rfl, hB', hk'⟩ := hI
    have hks : k < (arrOf st').size := hB'.size ▸ Nat.lt_of_lt_of_le h2 hm
    refine wpS_bind (wpS_mono (wpS_forRange (fun x c st'' => st'' = st' ∧ ∃ l r, c = (none, l, r) ∧ l ≤ r ∧ r ≤ k ∧ r - l ≤ k - x ∧ (∀ i, i < l → rkAt rk (arrOf st') i < rkAt rk (arrOf st') k) ∧ (∀ i, r ≤ i → i < k → rkAt rk (arrOf st') k < rkAt rk (arrOf st') i))
      (Q := fun c st'' => st'' = st' ∧ ∃ l, c = (none, l, l) ∧ l ≤ k ∧ (∀ i, i < l → rkAt rk (arrOf st') i < rkAt rk (arrOf st') k) ∧ (∀ i, l ≤ i → i < k → rkAt rk (arrOf st') k < rkAt rk (arrOf st') i))
      (fun x c st'' _ hx hJ => ?_) (fun c st'' hJ => ?_) ⟨rfl, 0, k, rfl, Nat.zero_le _, Nat.le_refl _, Nat.le_refl _, fun i hi => absurd hi (Nat.not_lt_zero _), fun i a b => absurd (Nat.lt_of_lt_of_le b a) (Nat.lt_irrefl i)⟩) ?_)
    · obtain ⟨rfl, l, r, rfl, hlr, hrk, hgap, hlo, hhi⟩ := hJ
      dsimp only
      by_cases hend : l ≥ r
      · rw [if_pos hend]
        have hlr' : l = r := Nat.le_antisymm hlr hend
        subst hlr'
        exact wpS_pure ⟨rfl, l, rfl, hrk, hlo, hhi⟩
      · rw [if_neg hend]
        obtain ⟨m1, m2⟩ := mid_le (Nat.lt_of_not_le hend)
        have ka : k < a₀.size := Nat.lt_of_lt_of_le h2 hm
        have m3 : (l + r) / 2 < k := Nat.lt_of_lt_of_le m2 hrk
        refine wpS_bind (less_at hC hB' ka (Nat.lt_trans m3 ka) ?_)
        have hd := SB.differ hD hB' (i := k) (j := (l + r) / 2) ka (Nat.lt_trans m3 ka) (Nat.ne_of_gt m3)
        have below : ∀ i, i ≤ (l + r) / 2 → rkAt rk (arrOf st'') i ≤ rkAt rk (arrOf st'') ((l + r) / 2) := fun i hi => by
          rcases Nat.lt_or_ge i ((l + r) / 2) with q | q
          · exact Nat.le_of_lt (hk' i _ q m3)
          · rw [Nat.le_antisymm hi q]; exact Nat.le_refl _
        have above : ∀ i, (l + r) / 2 ≤ i → i < k → rkAt rk (arrOf st'') ((l + r) / 2) ≤ rkAt rk (arrOf st'') i := fun i hi hik => by
          rcases Nat.lt_or_ge ((l + r) / 2) i with q | q
          · exact Nat.le_of_lt (hk' _ i q hik)
          · rw [Nat.le_antisymm hi q]; exact Nat.le_refl _
        by_cases hl : rkAt rk (arrOf st'') k < rkAt rk (arrOf st'') ((l + r) / 2)
        · simp only [hl, decide_true, if_true]
          exact wpS_pure ⟨rfl, l, (l + r) / 2, rfl, m1, Nat.le_of_lt m3, bin_gap hgap m1 m2, hlo, fun i a b => Nat.lt_of_lt_of_le hl (above i a b)⟩
        · simp only [hl, decide_false, Bool.false_eq_true, if_false]
          exact wpS_pure ⟨rfl, (l + r) / 2 + 1, r, rfl, m2, hrk, bin_gap2 hgap m1 m2, fun i a => Nat.lt_of_le_of_lt (below i (Nat.le_of_lt_succ a)) (Nat.lt_of_le_of_ne (Nat.le_of_not_lt hl) (Ne.symm hd)), hhi⟩
    · obtain ⟨rfl, l, r, rfl, hlr, hrk, hgap, hlo, hhi⟩ := hJ
      have hlr' : l = r := Nat.le_antisymm hlr (Nat.le_of_sub_eq_zero (Nat.le_zero.mp (Nat.sub_eq_zero_of_le (Nat.le_max_right 0 k) ▸ hgap)))
      subst hlr'
      exact ⟨rfl, l, rfl, hrk, hlo, hhi⟩
    · rintro c st'' ⟨rfl, l, rfl, hlk, hlo, hhi⟩
      show wpS _ _ _ _ (do moveDown' k l; pure (ForInStep.yield (none, ()))) _ _
      rw [moveDown'_eq]
      refine wpS_bind (wpS_modify (wpS_pure ⟨rfl, hB'.setArr (bubble_perm _ _ _), fun i j hij hj => ?_⟩))
      show rkAt rk (bubble (arrOf st'') k (k - l)) i < rkAt rk (bubble (arrOf st'') k (k - l)) j
      rw [rk_moved hks hlk, rk_moved hks hlk]
      exact moved_lt (f := rkAt rk (arrOf st'')) hlk hlo hhi hk' hij (Nat.le_of_lt_succ hj)
  · obtain ⟨rfl, hB', hk'⟩ := hI
    rw [Nat.max_eq_right hk] at hk'
    exact wpS_pure (h st' hB' hk')
end
end Mine
end
/- CMP -/
section
open PySem PySem.W PyProof.Rows
set_option maxRecDepth 100000
set_option genSizeOf false
set_option genInjectivity false
namespace Mine
open AutoSeq1 (wpAny_loadPart')
open MeetsSeq MeetsSeq3

/-- a list of two texts -/
noncomputable abbrev twoObj (p : PT) (t u : Tok) (n : Nat) : Obj := { cls := .type "list", dict := none, data := .seq #[.str (toS p.1) t, .str (toS p.2) u] n, slots := #[] }

theorem toS_inj {a b : Tx} (h : toS a = toS b) : a = b := by
  have := congrArg (fun y => y.cps.toList) h
  simpa using this

/-- two values of which the one is less, or not, than the other -/
noncomputable def LtGives (x y : Value) (r : Bool) : Prop := ∀ (prog : Program) (w : World) (A : Around) (E : Value → Shared → Prop) (s : Shared) (Q : Value → Shared → Prop), Q (.bool r) s → wpAny (model prog w) A (richCompare .Lt x y) Q E s
theorem ltGives_str (a b : Tx) (t u : Tok) : LtGives (.str (toS a) t) (.str (toS b) u) (decide (a < b)) := by
  intro prog w A E s Q h
  refine wpAny_richCompare_same (typeIs_str s (toS a) t) (typeIs_str s (toS b) u) slot_str_lt (call_str_lt ⟨(by intro e; cases e), ?_⟩) rfl
  rw [toS_cps, toS_cps]
  exact h
theorem eqGives_str (a b : Tx) (t u : Tok) : EqGives (.str (toS a) t) (.str (toS b) u) (decide (a = b)) := by
  intro prog w A E s Q h
  refine wpAny_eqBool_str ?_
  have : decide (toS a = toS b) = decide (a = b) := by
    by_cases e : a = b
    · subst e; simp
    · rw [decide_eq_false e, decide_eq_false (fun q => e (toS_inj q))]
  rw [this]; exact h

section
variable {a b : Addr} {items items2 : Array Value} {n n' : Nat}
noncomputable abbrev lst (items : Array Value) (n : Nat) : Obj := { cls := .type "list", dict := none, data := .seq items n, slots := #[] }
theorem lt_end (h1 : items.size = 2) (h2 : items2.size = 2) : Meets (Builtin.«list.__eq__.loop» ⟨[.ref a, .ref b, rawInt 2, rawInt 0], []⟩)
    (fun _ R s => s.heap.get? a = some (lst items n) ∧ s.heap.get? b = some (lst items2 n') ∧ R (.ok (.ret (.bool false))) s) := by
  intro prog w A R s h
  obtain ⟨hp, g, d, tk, os⟩ := s; obtain ⟨hl, hb, h⟩ := h
  wp_walk using wpAny_loadPart' hl, wpAny_loadPart' hb
  have hi1 : items[(2 : Int).toNat]? = none := by simp [h1]
  have hi2 : items2[(2 : Int).toNat]? = none := by simp [h2]
  rw [hi1, hi2]
  wp_walk using wpAny_loadPart' hl, wpAny_loadPart' hb
  show R (.ok (.ret (.bool (decide (items.size < items2.size))))) _
  rw [h1, h2]
  exact h
theorem lt_step {k : Nat} {e l : Bool} {r : Bool} {x y : Value} (hx : items[k]? = some x) (hy : items2[k]? = some y) (he : EqGives x y e) (hl : LtGives x y l)
    (hn : Meets (Builtin.«list.__eq__.loop» ⟨[.ref a, .ref b, rawInt ((k + 1 : Nat) : Int), rawInt 0], []⟩)
      (fun _ R s => s.heap.get? a = some (lst items n) ∧ s.heap.get? b = some (lst items2 n') ∧ R (.ok (.ret (.bool r))) s)) :
    Meets (Builtin.«list.__eq__.loop» ⟨[.ref a, .ref b, rawInt (k : Int), rawInt 0], []⟩)
    (fun _ R s => s.heap.get? a = some (lst items n) ∧ s.heap.get? b = some (lst items2 n') ∧ R (.ok (.ret (.bool (if e = true then r else l)))) s) := by
  intro prog w A R s h
  obtain ⟨hp, g, d, tk, os⟩ := s; obtain ⟨ha, hb, h⟩ := h
  wp_walk using wpAny_loadPart' ha, wpAny_loadPart' hb
  have hi1 : items[((k : Nat) : Int).toNat]? = some x := by simpa using hx
  have hi2 : items2[((k : Nat) : Int).toNat]? = some y := by simpa using hy
  rw [hi1, hi2]
  refine wpAny_bind (he prog w _ _ _ _ ?_)
  cases e with
  | true =>
    rw [if_pos rfl] at h
    wp_walk
    have hc : ((k : Int) + 1) = ((k + 1 : Nat) : Int) := by push_cast; rfl
    rw [hc]
    exact ⟨plainId_quiet plain_eq_loop _, codeAny_builtin entry_eq_loop (by
        rw [Around.under_plainId plain_eq_loop _]
        exact hn prog w A R _ ⟨ha, hb, h⟩)⟩
  | false =>
    rw [if_neg Bool.false_ne_true] at h
    wp_walk using wpAny_loadPart' ha, wpAny_loadPart' hb
    rw [hi1, hi2]
    refine wpAny_bind (hl prog w _ _ _ _ ?_)
    wp_walk
    exact h
end
section
variable {a b : Addr} {p q : PT} {t u t' u' : Tok} {n n' : Nat}
theorem lt_two : Meets (Builtin.«list.__lt__» ⟨[.ref a, .ref b], []⟩)
    (fun _ R s => s.heap.get? a = some (twoObj p t u n) ∧ s.heap.get? b = some (twoObj q t' u' n') ∧ R (.ok (.ret (.bool (pblt p q)))) s) := by
  have m2 := lt_end (a := a) (b := b) (items := #[.str (toS p.1) t, .str (toS p.2) u]) (items2 := #[.str (toS q.1) t', .str (toS q.2) u']) (n := n) (n' := n') rfl rfl
  have m1 := lt_step (k := 1) rfl rfl (eqGives_str p.2 q.2 u u') (ltGives_str p.2 q.2 u u') m2
  have m0 := lt_step (k := 0) rfl rfl (eqGives_str p.1 q.1 t t') (ltGives_str p.1 q.1 t t') m1
  have er : (if decide (p.1 = q.1) = true then (if decide (p.2 = q.2) = true then false else decide (p.2 < q.2)) else decide (p.1 < q.1)) = pblt p q := by
    unfold pblt
    by_cases e1 : p.1 = q.1
    · by_cases e2 : p.2 = q.2
      · simp [e1, e2, List.lt_irrefl]
      · simp [e1, e2]
    · simp [e1]
  rw [er] at m0
  intro prog w A R s h
  obtain ⟨hp, g, d, tk, os⟩ := s; obtain ⟨ha, hb, h⟩ := h
  have f3 := AutoSeq1.sub_list_list
  simp only [twoObj, lst] at ha hb m0
  generalize (#[.str (toS p.1) t, .str (toS p.2) u] : Array Value) = items at *
  generalize (#[.str (toS q.1) t', .str (toS q.2) u'] : Array Value) = items2 at *
  wp_walk using wpAny_loadPart' ha, wpAny_loadPart' hb
  exact ⟨plainId_quiet plain_eq_loop _, codeAny_builtin entry_eq_loop (by
    rw [Around.under_plainId plain_eq_loop _]
    exact m0 prog w A R _ ⟨ha, hb, h⟩)⟩
end
end Mine
end
/- SORT2 -/
section
open PySem PySem.W PyProof.Rows
set_option maxRecDepth 100000
set_option genSizeOf false
set_option genInjectivity false
namespace Mine

section
variable {prog : Program} {w : World} {A : Around} {E : Value → Shared → Prop} {s : Shared}

theorem oneLt_two {a b : Addr} {p q : PT} {t u t' u' : Tok} {n n' : Nat} {Q : Bool → Shared → Prop} (hu : A.units < cLine) (ha : s.heap.get? a = some (twoObj p t u n)) (hb : s.heap.get? b = some (twoObj q t' u' n'))
    (h : Q (pblt p q) s) : wpAny (model prog w) A (oneLt' true (.ref a) (.ref b)) Q E s := by
  rw [oneLt'_eq]
  simp only [if_true]
  refine wpAny_bind (wpAny_cRoomFor hu ?_)
  have slot : Slot "list" "__lt__" "list.__lt__" := F.slot_list_lt
  refine wpAny_bind (wpAny_callSpecialIfBound?_slot ⟨_, ha, rfl⟩ slot (call_meets slot ⟨_, ha, rfl⟩ F.entry_list_lt (F.args_list_lt_2 _ _) lt_two ⟨ha, hb, ?_⟩))
  exact wpAny_truthy_bool h

/-- the values of a list of lists of two texts, at one heap -/
inductive PA (h : Heap) : List Value → List PT → Prop
  | nil : PA h [] []
  | cons {vs : List Value} {ps : List PT} {p : PT} (a : Addr) (t u : Tok) (n : Nat) : h.get? a = some (twoObj p t u n) → PA h vs ps → PA h (.ref a :: vs) (p :: ps)

theorem PA.keeps {h h' : Heap} {vs : List Value} {ps : List PT} (x : PA h vs ps) (hk : ∀ b o, Value.ref b ∈ vs → h.get? b = some o → h'.get? b = some o) : PA h' vs ps := by
  induction x with
  | nil => exact .nil
  | cons a t u n e _ ih => exact .cons a t u n (hk a _ List.mem_cons_self e) (ih fun b o hb => hk b o (List.mem_cons_of_mem _ hb))
theorem PA.length {h : Heap} {vs : List Value} {ps : List PT} (x : PA h vs ps) : vs.length = ps.length := by
  induction x with
  | nil => rfl
  | cons _ _ _ _ _ _ ih => simp [ih]
theorem PA.mem {h : Heap} {vs : List Value} {ps : List PT} (x : PA h vs ps) {v : Value} (hv : v ∈ vs) : ∃ a p t u n, v = .ref a ∧ h.get? a = some (twoObj p t u n) ∧ p ∈ ps := by
  induction x with
  | nil => cases hv
  | cons a t u n e _ ih =>
    rcases List.mem_cons.mp hv with rfl | hv
    · exact ⟨a, _, t, u, n, rfl, e, List.mem_cons_self⟩
    · obtain ⟨a', p', t', u', n', h1, h2, h3⟩ := ih hv
      exact ⟨a', p', t', u', n', h1, h2, List.mem_cons_of_mem _ h3⟩
theorem PA.append {h : Heap} {vs us : List Value} {ps qs : List PT} (x : PA h vs ps) (y : PA h us qs) : PA h (vs ++ us) (ps ++ qs) := by
  induction x with
  | nil => exact y
  | cons a t u n e _ ih => exact .cons a t u n e ih

noncomputable def txOf : Value → Tx
  | .str x _ => x.cps.toList
  | _ => []
/-- the pair that a value stands for, read off the heap -/
noncomputable def pairOf (h : Heap) : Value → PT
  | .ref a => (match h.get? a with
    | some o => (match o.data with
      | .seq its _ => (txOf (its[0]?.getD .none), txOf (its[1]?.getD .none))
      | _ => ([], []))
    | none => ([], []))
  | _ => ([], [])
theorem pairOf_eq {h : Heap} {a : Addr} {p : PT} {t u : Tok} {n : Nat} (e : h.get? a = some (twoObj p t u n)) : pairOf h (.ref a) = p := by
  simp [pairOf, e, txOf]
theorem PA.map {h : Heap} {vs : List Value} {ps : List PT} (x : PA h vs ps) : vs.map (pairOf h) = ps := by
  induction x with
  | nil => rfl
  | cons a t u n e _ ih => rw [List.map_cons, pairOf_eq e, ih]
theorem PA.of {h : Heap} : ∀ {vs : List Value}, (∀ v ∈ vs, ∃ a p t u n, v = .ref a ∧ h.get? a = some (twoObj p t u n)) → PA h vs (vs.map (pairOf h))
  | [], _ => .nil
  | v :: vs, hv => by
    obtain ⟨a, p, t, u, n, rfl, e⟩ := hv v List.mem_cons_self
    rw [List.map_cons, pairOf_eq e]
    exact .cons a t u n e (PA.of fun x hx => hv x (List.mem_cons_of_mem _ hx))

/-! ## ranks -/
theorem pblt_irrefl (a : PT) : pblt a a = false := by simp [pblt, List.lt_irrefl]
theorem pblt_trans {a b c : PT} (h1 : pblt a b = true) (h2 : pblt b c = true) : pblt a c = true := by
  unfold pblt at *
  by_cases e1 : a.1 = b.1
  · by_cases e2 : b.1 = c.1
    · rw [if_pos e1] at h1; rw [if_pos e2] at h2; rw [if_pos (e1.trans e2)]
      simp only [decide_eq_true_eq] at *
      exact List.lt_trans h1 h2
    · rw [if_neg e2] at h2; rw [if_neg (e1 ▸ e2)]; rw [e1]; exact h2
  · rw [if_neg e1] at h1
    by_cases e2 : b.1 = c.1
    · rw [if_neg (e2 ▸ e1)]; rw [← e2]; exact h1
    · rw [if_neg e2] at h2
      simp only [decide_eq_true_eq] at *
      have h3 := List.lt_trans h1 h2
      rw [if_neg (fun q => List.lt_irrefl _ (q ▸ h3))]
      simpa using h3
noncomputable def rank (l : List PT) (p : PT) : Nat := (l.filter fun q => pblt q p).length
theorem filter_sub {l : List PT} {f g : PT → Bool} (h : ∀ x ∈ l, f x = true → g x = true) : (l.filter f).length ≤ (l.filter g).length := by
  induction l with
  | nil => simp
  | cons a r ih =>
    have := ih fun x hx => h x (List.mem_cons_of_mem _ hx)
    have ha := h a List.mem_cons_self
    simp only [List.filter_cons]
    cases hf : f a
    · cases hg : g a <;> simp <;> omega
    · rw [ha hf]; simp; omega
theorem filter_lt {l : List PT} {f g : PT → Bool} {a : PT} (h : ∀ x ∈ l, f x = true → g x = true) (hm : a ∈ l) (hf : f a = false) (hg : g a = true) : (l.filter f).length < (l.filter g).length := by
  induction l with
  | nil => cases hm
  | cons b r ih =>
    have hr := fun x hx => h x (List.mem_cons_of_mem b hx)
    have hb := h b List.mem_cons_self
    have le := filter_sub hr
    simp only [List.filter_cons]
    rcases List.mem_cons.mp hm with rfl | hm
    · rw [hf, hg]; simp; omega
    · have lt := ih hr hm
      cases hfb : f b
      · cases hgb : g b <;> simp <;> omega
      · rw [hb hfb]; simp; omega
theorem rank_lt {l : List PT} {a b : PT} (ha : a ∈ l) (hab : pblt a b = true) : rank l a < rank l b :=
  filter_lt (fun x _ h => pblt_trans h hab) ha (pblt_irrefl a) hab
theorem rank_iff {l : List PT} {a b : PT} (ha : a ∈ l) (hb : b ∈ l) : decide (rank l a < rank l b) = pblt a b := by
  cases h : pblt a b
  · refine decide_eq_false fun q => ?_
    cases h' : pblt b a
    · rw [pblt_total h h'] at q; exact Nat.lt_irrefl _ q
    · exact Nat.lt_asymm q (rank_lt hb h')
  · exact decide_eq_true (rank_lt ha h)
theorem rank_inj {l : List PT} {a b : PT} (ha : a ∈ l) (hb : b ∈ l) (e : rank l a = rank l b) : a = b := by
  have h1 := rank_iff ha hb
  have h2 := rank_iff hb ha
  rw [e, decide_eq_false (Nat.lt_irrefl _)] at h1
  rw [e, decide_eq_false (Nat.lt_irrefl _)] at h2
  exact pblt_total h1.symm h2.symm
end
end Mine
end
/- SORT3 -/
section
open PySem PySem.W PyProof.Rows
set_option maxRecDepth 100000
set_option genSizeOf false
set_option genInjectivity false
namespace Mine

section
variable {prog : Program} {w : World} {A : Around} {E : Value → Shared → Prop} {s : Shared} {a₀ : Array Keyed} {rk : Value → Nat} {st : SortSt}

theorem mapM_one {α : Type} {f : Value → Sem α} {r : α} {M : Model} : ∀ {vs : List Value} {Q : List α → Shared → Prop}, (∀ v ∈ vs, ∀ Q' : α → Shared → Prop, Q' r s → wpAny M A (f v) Q' E s) → Q (vs.map fun _ => r) s → wpAny M A (vs.mapM f) Q E s
  | [], _, _, h => by rw [List.mapM_nil]; exact wpAny_pure h
  | v :: vs, _, hf, h => by
    rw [List.mapM_cons]
    refine wpAny_bind (hf v List.mem_cons_self _ (wpAny_bind (mapM_one (fun x hx => hf x (List.mem_cons_of_mem _ hx)) (wpAny_pure h))))

theorem kind_lists {v₁ v₂ : Value} {vs : List Value} {Q : SortKind → Shared → Prop} (hT : ∀ v ∈ v₁ :: v₂ :: vs, s.TypeIs v "list") (h : Q oneType' s) :
    wpAny (model prog w) A (keyKind' (v₁ :: v₂ :: vs).toArray) Q E s := by
  have first_eq : ∀ v, firstOfTuple' v = (do if (← typeOf v) != .type "tuple" then return none
                                             return (← Builtin.List.listItems v)[0]?) := fun _ => rfl
  rw [keyKind'_eq, List.mapM_toArray]
  refine wpAny_bind (wpAny_bind (m := List.mapM firstOfTuple' (v₁ :: v₂ :: vs)) (mapM_one (r := none) (fun v hv Q' hq => ?_) (wpAny_pure ?_)))
  · rw [first_eq]
    exact wpAny_bind (wpAny_typeOf (hT v hv) (wpAny_pure hq))
  · have e1 : ((((v₁ :: v₂ :: vs).map fun _ => (none : Option Value)).toArray).all (·.isSome)) = false := by simp
    have e2 : ((((v₁ :: v₂ :: vs).map fun _ => (none : Option Value)).toArray)[0]?.bind _root_.id).isSome = false := by simp
    simp only [e1, e2, Bool.false_eq_true, if_false, oneTypeOnly'_eq, List.mapM_toArray]
    refine wpAny_bind (wpAny_bind (wpAny_bind (m := List.mapM typeOf (v₁ :: v₂ :: vs)) (mapM_one (r := .type "list") (fun v hv Q' hq => wpAny_typeOf (hT v hv) hq) (wpAny_pure ?_))))
    have e3 : (((v₁ :: v₂ :: vs).map fun _ => Value.type "list").toArray)[0]? = some (.type "list") := by simp
    have e4 : (((v₁ :: v₂ :: vs).map fun _ => Value.type "list").toArray).all (· == .type "list") = true := by simp
    rw [e3]
    simp only [e4, if_true]
    exact wpAny_pure (wpAny_pure h)

theorem all_runs {Q : Unit → SortSt → Prop} (hC : Cmps prog w A s rk a₀) (hD : Differ rk a₀) (hB : SBase a₀ st) (h2 : 2 ≤ a₀.size) (h64 : a₀.size < 64)
    (h : ∀ st', (arrOf st').Perm a₀ → failedOf st' = none → Up rk (arrOf st') a₀.size → Q () st') : wpS (model prog w) A E s sortRuns' Q st := by
  rw [sortRuns'_eq]
  refine wpS_bind (wpS_get ?_)
  have hmr : minRun' a₀.size a₀.size 0 = a₀.size := by
    cases e : a₀.size with
    | zero => exact absurd (e ▸ h2) (Nat.not_succ_le_zero 1)
    | succ k => rw [minRun'_succ, if_pos (e ▸ h64)]
  have pb : ∀ st' : SortSt, SBase a₀ st' → (pendingOf st').back? = none := fun st' hB' => by rw [hB'.pend]; rfl
  simp only [hB.size, hmr]
  refine wpS_bind (wpS_mono (wpS_forRange (fun x c st' => if x = 0 then c = (none, 0) ∧ SBase a₀ st' else c = (none, a₀.size) ∧ (arrOf st').Perm a₀ ∧ failedOf st' = none ∧ (pendingOf st').size ≤ 1 ∧ Up rk (arrOf st') a₀.size)
    (Q := fun c st' => c = (none, a₀.size) ∧ (arrOf st').Perm a₀ ∧ failedOf st' = none ∧ (pendingOf st').size ≤ 1 ∧ Up rk (arrOf st') a₀.size)
    (fun x c st' _ hx hI => ?_) (fun c st' hI => ?_) ?_) (fun c st' hI => ?_))
  · by_cases h0 : x = 0
    · rw [if_pos h0] at hI
      obtain ⟨rfl, hB'⟩ := hI
      dsimp only
      rw [if_neg (by omega)]
      simp only [Nat.sub_zero, Nat.min_self, Nat.zero_add]
      refine wpS_bind (count_run hC hD hB' (Nat.le_refl _) (by omega) fun m st₂ hB₂ hm1 hm2 hu₂ => ?_)
      dsimp only
      by_cases hlt : m < a₀.size
      · rw [if_pos hlt]
        refine wpS_bind (wpS_lift (wpAny_rule ⟨rfl, wpS_bind (bin_sort hC hD hB₂ (Nat.le_refl _) hm1 hm2 hu₂ fun st₃ hB₃ hu₃ => ?_)⟩))
        simp only [Bool.not_true, Bool.false_eq_true, if_false]
        refine wpS_bind (wpS_get ?_)
        rw [pb st₃ hB₃]
        refine wpS_bind (wpS_modify (wpS_pure ?_))
        dsimp only
        rw [if_neg (Nat.succ_ne_zero x)]
        refine ⟨rfl, hB₃.perm, hB₃.failed, ?_, hu₃⟩
        show ((pendingOf st₃).push _).size ≤ 1
        rw [hB₃.pend]; exact Nat.le_refl 1
      · rw [if_neg hlt]
        have hm : m = a₀.size := Nat.le_antisymm hm2 (Nat.le_of_not_lt hlt)
        subst hm
        refine wpS_bind (wpS_get ?_)
        rw [pb st₂ hB₂]
        refine wpS_bind (wpS_modify (wpS_pure ?_))
        dsimp only
        rw [if_neg (Nat.succ_ne_zero x)]
        refine ⟨rfl, hB₂.perm, hB₂.failed, ?_, hu₂⟩
        show ((pendingOf st₂).push _).size ≤ 1
        rw [hB₂.pend]; exact Nat.le_refl 1
    · rw [if_neg h0] at hI
      obtain ⟨rfl, hI⟩ := hI
      dsimp only
      rw [if_pos (Nat.le_refl _)]
      exact wpS_pure ⟨rfl, hI⟩
  · rw [if_neg (by omega)] at hI
    exact hI
  · rw [if_pos rfl]
    exact ⟨rfl, hB⟩
  · obtain ⟨rfl, hp, hf, hpend, hu⟩ := hI
    dsimp only
    refine wpS_bind (wpS_mono (wpS_forRange (fun _ c st'' => st'' = st' ∧ c = (none, ())) (Q := fun c st'' => st'' = st' ∧ c = (none, ())) (fun x c st'' _ _ hI => ?_) (fun _ _ hI => hI) ⟨rfl, rfl⟩) (fun c st'' hI => ?_))
    · obtain ⟨rfl, rfl⟩ := hI
      refine wpS_bind (wpS_get ?_)
      rw [if_pos hpend]
      exact wpS_pure ⟨rfl, rfl⟩
    · obtain ⟨rfl, rfl⟩ := hI
      exact wpS_pure (h _ hp hf hu)
end

noncomputable abbrev keyed (vs : List Value) : Array Keyed := vs.toArray.zip vs.toArray
theorem keyed_list (vs : List Value) : (keyed vs).toList = vs.map fun v => (v, v) := by
  simp [List.zip_eq_zipWith, List.zipWith_self]
theorem keyed_size (vs : List Value) : (keyed vs).size = vs.length := by simp

section
variable {prog : Program} {w : World} {A : Around} {E : Value → Shared → Prop} {s : Shared}
/-- what a sort of a list's copy leaves -/
structure SortGot (h : Heap) (rk : Value → Nat) (vs : List Value) (D : Addr) (h' : Heap) (out : List Value) : Prop where
  none : h.get? D = none
  list : h'.PlainList D out.toArray
  perm : out.Perm vs
  up : out.Pairwise fun x y => rk x < rk y
  keep : ∀ b o, h.get? b = some o → h'.get? b = some o

theorem list_sort {rk : Value → Nat} {a : Addr} {vs : List Value} {n : Nat} {P : Fin → Shared → Prop} (ho : s.heap.get? a = some (seqObj "list" vs.toArray n))
    (hC : ∀ s' : Shared, (∀ b o, b ≠ a → s.heap.get? b = some o → s'.heap.get? b = some o) → Cmps prog w A s' rk (keyed vs))
    (hT : ∀ s' : Shared, (∀ b o, b ≠ a → s.heap.get? b = some o → s'.heap.get? b = some o) → ∀ v ∈ vs, s'.TypeIs v "list") (hD : (vs.map rk).Nodup) (h64 : vs.length < 64)
    (h : ∀ (h' : Heap) (out : List Value), h'.PlainList a out.toArray → out.Perm vs → (out.Pairwise fun x y => rk x < rk y) → (∀ b o, b ≠ a → s.heap.get? b = some o → h'.get? b = some o) → P (.done (.ret .none)) { s with heap := h' }) :
    wpAny (model prog w) A (Builtin.«list.sort» ⟨[.ref a], []⟩) P E s := by
  have ha : a < s.heap.objs.size := Heap.lt_size ho
  have hD' : Differ rk (keyed vs) := by
    unfold Differ
    rw [keyed_list, List.map_map]
    exact hD
  rw [list_sort_plain]
  refine wpAny_bind (listItems_at ho rfl (wpAny_bind (listUpdate_at ho rfl ?_ (hsz := leSz (Nat.le_of_lt h64)) (hsz2 := Nat.zero_le _))))
  obtain ⟨e₁, ho₁⟩ : ∃ e₁, (s.heap.update a (Obj.mapSeq fun _ => #[])).get? a = some (seqObj "list" #[] e₁) := ⟨_, get?_update_seq ho _⟩
  refine wpAny_bind (seqEpoch_at ho₁ rfl (wpAny_bind (wpAny_newTuple (wpAny_bind (wpAny_newList (wpAny_holding ?_ ))) (hsz := leSz (Nat.le_of_lt h64)))))
  have keepU : ∀ b o, b ≠ a → s.heap.get? b = some o → (s.heap.update a (Obj.mapSeq fun _ => #[])).get? b = some o := fun b o hb e => (Heap.get?_update_ne _ _ _ _ hb).trans e
  have hfin : ∀ (H : Heap) (arr : Array Keyed), H.get? a = some (seqObj "list" #[] e₁) → (∀ b o, b ≠ a → s.heap.get? b = some o → H.get? b = some o) → arr.Perm (keyed vs) → Up rk arr vs.length →
      P (.done (.ret .none)) { s with heap := H.update a (Obj.mapSeq fun _ => arr.map (·.2)) } := by
    intro H arr hHa hHk hp hu
    have hpl := Array.perm_iff_toList_perm.mp hp
    rw [keyed_list] at hpl
    have same : ∀ p ∈ arr.toList, p.1 = p.2 := fun p hp' => by
      obtain ⟨v, _, e⟩ := List.mem_map.mp (hpl.mem_iff.mp hp')
      rw [← e]
    have hsz : arr.size = vs.length := by have := hpl.length_eq; simpa using this
    refine h _ (arr.map (·.2)).toList ?_ ?_ ?_ fun b o hb e => (Heap.get?_update_ne _ _ _ _ hb).trans (hHk b o hb e)
    · rw [Array.toArray_toList]
      exact ⟨_, get?_update_seq hHa (fun _ => arr.map (·.2))⟩
    · have := hpl.map (fun p : Keyed => p.2)
      rw [List.map_map] at this
      simpa [Function.comp_def] using this
    · rw [Array.toList_map, List.pairwise_map, List.pairwise_iff_getElem]
      intro i j hi hj hij
      have hi' : i < arr.size := by simpa using hi
      have hj' : j < arr.size := by simpa using hj
      have hlt := hu i j hij (hsz ▸ hj')
      simp only [rkAt, Array.getElem?_eq_getElem hi', Array.getElem?_eq_getElem hj', Option.getD_some] at hlt
      have e1 := same arr[i] (by simp)
      have e2 := same arr[j] (by simp)
      rw [e1, e2] at hlt
      simpa using hlt
  have hH : ∀ H : Heap, H = ((s.heap.update a (Obj.mapSeq fun _ => #[])).push (seqObj "tuple" vs.toArray 0)).push (seqObj "list" #[] 0) → H.get? a = some (seqObj "list" #[] e₁) ∧ (∀ b o, b ≠ a → s.heap.get? b = some o → H.get? b = some o) := by
    rintro H rfl
    exact ⟨Heap.get?_push_of_some _ (Heap.get?_push_of_some _ ho₁), fun b o hb e => Heap.get?_push_of_some _ (Heap.get?_push_of_some _ (keepU b o hb e))⟩
  obtain ⟨hHa, hHk⟩ := hH _ rfl
  generalize ((s.heap.update a (Obj.mapSeq fun _ => #[])).push (seqObj "tuple" vs.toArray 0)).push (seqObj "list" #[] 0) = H at hHa hHk
  dsimp only
  have hvs : vs.toArray.size = vs.length := by simp
  have room : ∀ xs : Array Keyed, xs.size = vs.length → (xs.map (·.2)).size ≤ sizeLine + 1 := fun xs hx => by rw [Array.size_map, hx]; exact Nat.le_succ_of_le (leSz (Nat.le_of_lt h64))
  by_cases h2 : vs.toArray.size < 2
  · rw [if_pos h2]
    refine wpAny_bind (wpAny_pure ?_)
    rw [if_pos h2, StateT.run_pure]
    refine wpAny_bind (wpAny_pure ?_)
    dsimp only
    refine wpAny_bind (seqEpoch_at hHa rfl (wpAny_bind (listUpdate_at hHa rfl ?_ (hsz := Nat.zero_le _) (hsz2 := room _ (keyed_size vs)))))
    simp only [bne_self_eq_false, Bool.false_eq_true, if_false]
    exact wpAny_pure (hfin H (keyed vs) hHa hHk (Array.Perm.refl _) fun i j hij hj => absurd (Nat.lt_of_lt_of_le (Nat.lt_of_le_of_lt (Nat.succ_le_of_lt (Nat.lt_of_le_of_lt (Nat.zero_le i) hij)) hj) (Nat.le_of_lt_succ h2)) (Nat.lt_irrefl 1))
  · rw [if_neg h2]
    obtain ⟨v₁, v₂, rest, rfl⟩ : ∃ v₁ v₂ rest, vs = v₁ :: v₂ :: rest := by
      rcases vs with _ | ⟨v₁, _ | ⟨v₂, rest⟩⟩
      · simp at h2
      · simp at h2
      · exact ⟨v₁, v₂, rest, rfl⟩
    refine wpAny_bind (kind_lists (fun v hv => hT _ hHk v hv) ?_)
    rw [if_neg h2]
    refine wpAny_bind (wpAny_mono (all_runs (rk := rk) (a₀ := keyed (v₁ :: v₂ :: rest)) (Q := fun _ st' => (arrOf st').Perm (keyed (v₁ :: v₂ :: rest)) ∧ failedOf st' = none ∧ Up rk (arrOf st') (keyed (v₁ :: v₂ :: rest)).size)
      (hC _ hHk) hD' ⟨Array.Perm.refl _, rfl, rfl, rfl⟩ (by rw [keyed_size]; simp) (by rw [keyed_size]; exact h64) fun st' x1 x2 x3 => ⟨x1, x2, x3⟩) ?_ fun _ _ e => e)
    rintro ⟨⟨⟩, st'⟩ s' ⟨rfl, hp, hf, hu⟩
    dsimp only
    refine wpAny_bind (seqEpoch_at hHa rfl (wpAny_bind (listUpdate_at hHa rfl ?_ (hsz := Nat.zero_le _) (hsz2 := room _ (hp.size_eq.trans (keyed_size _))))))
    rw [hf]
    simp only [bne_self_eq_false, Bool.false_eq_true, if_false]
    rw [keyed_size] at hu
    exact wpAny_pure (hfin H (arrOf st') hHa hHk hp hu)

/-- sorted(l) of lists of two texts that all differ -/
theorem sorted_pairs {l : Addr} {vs : List Value} {ps : List PT} {Q : Value → Shared → Prop} (hl : s.heap.IsList l vs.toArray) (hp : PA s.heap vs ps) (hn : ps.Nodup) (h64 : vs.length < 64) (hu : A.units + 20 < cLine)
    (h : ∀ h' D us, s.heap.get? D = none → h'.PlainList D us.toArray → PA h' us (us.map (pairOf s.heap)) → (us.map (pairOf s.heap)).Perm ps → SortedP (us.map (pairOf s.heap)) → (∀ b o, s.heap.get? b = some o → h'.get? b = some o) → (∀ v ∈ us, v ∈ vs) → Q (.ref D) { s with heap := h' }) :
    wpAny (model prog w) A (call (.builtin "sorted") [.ref l]) Q E s := by
  refine Calls.call_function_entry kind_sorted plain_sorted entry_sorted (args_sorted1 _) ?_
  unfold Builtin.«sorted»
  refine wpAny_bind (m := checkCount "sorted" 1 1 _) (wpAny_pure (wpAny_bind (collect_list hl (wpAny_bind (wpAny_newList ?_ (hsz := leSz (Nat.le_of_lt h64)))) (hsz := leSz (Nat.le_of_lt h64)))))
  have hmem : ∀ {v}, v ∈ vs → ∃ a p t u n, v = .ref a ∧ s.heap.get? a = some (twoObj p t u n) ∧ p ∈ ps := fun hv => hp.mem hv
  have hmap := hp.map
  have hk1 : ∀ b o, s.heap.get? b = some o → ((s.heap.push (seqObj "list" #[] 0)).update s.heap.objs.size (Obj.mapSeq fun x => x ++ vs.toArray)).get? b = some o := fun b o e =>
    (Heap.get?_update_ne _ _ _ _ (Nat.ne_of_lt (Heap.lt_size e))).trans (Heap.get?_push_of_some _ e)
  dsimp only
  generalize (s.heap.push (seqObj "list" #[] 0)).update s.heap.objs.size (Obj.mapSeq fun x => x ++ vs.toArray) = H at hk1
  have hD2 : (H.push (seqObj "list" vs.toArray 0)).get? H.objs.size = some (seqObj "list" vs.toArray 0) := Heap.get?_push_size _ rfl
  have hnone : s.heap.get? H.objs.size = none := none_above hk1 (Nat.le_refl _)
  have hk2 : ∀ b o, s.heap.get? b = some o → (H.push (seqObj "list" vs.toArray 0)).get? b = some o := fun b o e => Heap.get?_push_of_some _ (hk1 b o e)
  have hne : ∀ b o, s.heap.get? b = some o → b ≠ H.objs.size := fun b o e q => by rw [q, hnone] at e; cases e
  refine wpAny_bind (wpAny_holding (wpAny_call_entry slot_list_sort ⟨_, hD2, rfl⟩ entry_list_sort (list_sort (rk := fun v => rank ps (pairOf s.heap v)) hD2 ?_ ?_ ?_ h64 fun h' us hl' hperm hup hk' => ⟨_, rfl, ?_⟩) (args_list_sort _)))
  · intro s' hk' E' Q' p q hp' hq' hQ
    have mem : ∀ {p : Keyed}, p ∈ keyed vs → p.1 ∈ vs := fun {p} h0 => by
      have := Array.mem_toList_iff.mpr h0
      rw [keyed_list] at this
      obtain ⟨v, hv, e⟩ := List.mem_map.mp this
      rw [← e]; exact hv
    obtain ⟨a, x, t, u, n, e1, e2, m1⟩ := hmem (mem hp')
    obtain ⟨b, y, t', u', n', f1, f2, m2⟩ := hmem (mem hq')
    rw [e1, f1] at hQ ⊢
    have eb : decide ((fun v => rank ps (pairOf s.heap v)) (Value.ref a) < (fun v => rank ps (pairOf s.heap v)) (Value.ref b)) = pblt x y := by
      have := rank_iff m1 m2
      rw [← pairOf_eq e2, ← pairOf_eq f2] at this ⊢
      exact this
    rw [eb] at hQ
    exact oneLt_two (room 2 hu) (hk' _ _ (hne _ _ e2) (hk2 _ _ e2)) (hk' _ _ (hne _ _ f2) (hk2 _ _ f2)) hQ
  · intro s' hk' v hv
    obtain ⟨a, x, t, u, n, rfl, e2, _⟩ := hmem hv
    exact ⟨_, hk' _ _ (hne _ _ e2) (hk2 _ _ e2), rfl⟩
  · have : (vs.map fun v => rank ps (pairOf s.heap v)) = ps.map (rank ps) := by
      rw [← hmap, List.map_map]
      simp [Function.comp_def]
    rw [this]
    exact List.pairwise_map.mpr (hn.imp_of_mem fun ha hb hne e => hne (rank_inj ha hb e))
  · have hin : ∀ v ∈ us, v ∈ vs := fun v hv => hperm.mem_iff.mp hv
    have hPA : PA s.heap us (us.map (pairOf s.heap)) := PA.of fun v hv => by
      obtain ⟨a, x, t, u, n, rfl, e2, _⟩ := hmem (hin v hv)
      exact ⟨a, x, t, u, n, rfl, e2⟩
    have hkk : ∀ b o, s.heap.get? b = some o → h'.get? b = some o := fun b o e => hk' b o (hne _ _ e) (hk2 b o e)
    refine wpAny_pure ⟨_, rfl, h h' _ us hnone hl' (hPA.keeps fun b o _ e => hkk b o e) (by rw [← hmap]; exact hperm.map _) ?_ hkk hin⟩
    refine List.pairwise_map.mpr (hup.imp_of_mem fun {x y} hx hy hlt => ?_)
    have mx : pairOf s.heap x ∈ ps := by rw [← hmap]; exact List.mem_map_of_mem (hin x hx)
    have my : pairOf s.heap y ∈ ps := by rw [← hmap]; exact List.mem_map_of_mem (hin y hy)
    rw [← rank_iff my mx]
    exact decide_eq_false (Nat.lt_asymm hlt)
end
end Mine
end
/- DATA -/
section
open PySem PySem.W PyProof.Rows PySem.Spec PySem.SeqAt
set_option maxRecDepth 100000
set_option genSizeOf false
set_option genInjectivity false
namespace Mine
noncomputable def encP (p : PT) : PyData := .list [.str (toS p.1), .str (toS p.2)]
theorem reads_two {h : Heap} {a : Addr} {p : PT} {t u : Tok} {n : Nat} (e : h.get? a = some (twoObj p t u n)) : Reads h (.ref a) (encP p) [a] := by
  have := Reads.list e rfl rfl (ReadsAll.cons (Reads.str (toS p.1) t) (ReadsAll.cons (Reads.str (toS p.2) u) ReadsAll.nil))
  simpa [encP] using this
theorem readsAll_PA {h : Heap} {vs : List Value} {ps : List PT} (x : PA h vs ps) : ∃ as, ReadsAll h vs (ps.map encP) as := by
  induction x with
  | nil => exact ⟨_, .nil⟩
  | cons a t u n e _ ih => obtain ⟨as, r⟩ := ih; exact ⟨_, .cons (reads_two e) r⟩
theorem reads_PA {h : Heap} {l : Addr} {vs : List Value} {ps : List PT} (hl : h.IsList l vs.toArray) (x : PA h vs ps) : ∃ as, Reads h (.ref l) (.list (ps.map encP)) as := by
  obtain ⟨as, r⟩ := readsAll_PA x
  obtain ⟨o, ho, hc, n, hd⟩ := hl
  exact ⟨_, Reads.list ho hc hd (by simpa using r)⟩
noncomputable def okT (t : Tx) : Prop := ∀ c ∈ t, c < 0x110000
noncomputable def okP (p : PT) : Prop := okT p.1 ∧ okT p.2
theorem strOk_toS {t : Tx} (h : okT t) : PyData.strOk (toS t) = true := by
  simp only [PyData.strOk, toS, Array.all_eq_true]
  intro i hi
  simp only [decide_eq_true_eq]
  exact h _ (by simp)
theorem canLay_enc {p : PT} (h : okP p) : PyData.canLay0 (encP p) = true := by
  simp [PyData.canLay0, PyData.canLayAll0, encP, strOk_toS h.1, strOk_toS h.2]
theorem canLay_encs : ∀ ps : List PT, (∀ p ∈ ps, okP p) → PyData.canLayAll0 (ps.map encP) = true
  | [], _ => by simp [PyData.canLayAll0]
  | p :: r, h => by
    rw [List.map_cons, PyData.canLayAll0, canLay_enc (h p List.mem_cons_self), canLay_encs r fun q hq => h q (List.mem_cons_of_mem _ hq)]
    rfl
theorem depth_encs : ∀ ps : List PT, PyData.depthAll (ps.map encP) ≤ 4
  | [] => by simp [PyData.depthAll]
  | p :: r => by
    simp only [List.map_cons, PyData.depthAll, PyData.depth, encP]
    exact Nat.max_le.mpr ⟨Nat.le_of_ble_eq_true rfl, depth_encs r⟩
theorem shaped_encs (ps : List PT) (h : ∀ p ∈ ps, okP p) : shaped (.list (ps.map encP)) = true := by
  have h1 := depth_encs ps
  have h2 : PyData.depth (.list (ps.map encP)) ≤ 64 := by simp only [PyData.depth]; exact Nat.succ_le_succ (leBig h1)
  unfold shaped
  rw [Bool.and_eq_true]
  exact ⟨by simp only [PyData.canLay0]; exact canLay_encs ps h, decide_eq_true h2⟩
theorem shaped_enc {p : PT} (h : okP p) : shaped (encP p) = true := by
  have h2 : PyData.depth (encP p) ≤ 64 := by simp only [PyData.depth, PyData.depthAll, encP]; exact Nat.le_of_ble_eq_true rfl
  unfold shaped
  rw [Bool.and_eq_true]
  exact ⟨canLay_enc h, decide_eq_true h2⟩
theorem noMix_enc (p q : PT) : noMix (encP p) (encP q) = true := by simp [encP, noMix, noMixAll]
theorem noMix_encs : ∀ ps qs : List PT, noMixAll (ps.map encP) (qs.map encP) = true
  | [], [] => by simp [noMixAll]
  | [], _ :: _ => by simp [noMixAll]
  | _ :: _, [] => by simp [noMixAll]
  | p :: r, q :: r' => by simp only [List.map_cons, noMixAll, noMix_enc, noMix_encs r r']; rfl
theorem same_enc (p q : PT) : Spec.same (encP p) (encP q) = decide (p = q) := by
  have e : ∀ a b : Tx, (toS a == toS b) = decide (a = b) := fun a b => by
    rw [Bool.eq_iff_iff, beq_iff_eq, decide_eq_true_eq]
    exact ⟨toS_inj, fun h => by rw [h]⟩
  obtain ⟨p1, p2⟩ := p
  obtain ⟨q1, q2⟩ := q
  simp [encP, Spec.same, Spec.sameAll, e, Prod.mk.injEq]
theorem same_encs : ∀ ps qs : List PT, Spec.sameAll (ps.map encP) (qs.map encP) = decide (ps = qs)
  | [], [] => by simp [Spec.sameAll]
  | [], _ :: _ => by simp [Spec.sameAll]
  | _ :: _, [] => by simp [Spec.sameAll]
  | p :: r, q :: r' => by
    simp only [List.map_cons, Spec.sameAll, same_enc, same_encs r r']
    by_cases h : p = q <;> simp [h]
theorem count_encs (p : PT) : ∀ ps : List PT, decide (Spec.countIn (encP p) (ps.map encP) ≠ 0) = decide (p ∈ ps)
  | [] => by simp [Spec.countIn]
  | q :: r => by
    have ih := count_encs p r
    have h0 := countIn_ge0 (encP p) (r.map encP)
    have ih' : Spec.countIn (encP p) (r.map encP) ≠ 0 ↔ p ∈ r := by
      have := congrArg (· = true) ih
      simpa using this
    simp only [List.map_cons, Spec.countIn, same_enc]
    by_cases e : q = p
    · subst e
      simp
      omega
    · have e' : ¬ p = q := fun x => e x.symm
      simp [e, e', ih']
section
variable {prog : Program} {w : World} {A : Around} {E : Value → Shared → Prop} {s : Shared} {Q : Value → Shared → Prop}
theorem ne_pairs {a b : Addr} {vs us : List Value} {ps qs : List PT} (hl : s.heap.IsList a vs.toArray) (x : PA s.heap vs ps) (hl' : s.heap.IsList b us.toArray) (y : PA s.heap us qs) (ho : ∀ p ∈ ps, okP p) (ho' : ∀ p ∈ qs, okP p) (hu : A.units + 64 < cLine)
    (h : Q (.bool (!decide (ps = qs))) s) : wpAny (model prog w) A (compareOp .NotEq (.ref a) (.ref b)) Q E s := by
  obtain ⟨as, r⟩ := reads_PA hl x
  obtain ⟨bs, r'⟩ := reads_PA hl' y
  exact ne_dataH_same r r' (shaped_encs ps ho) (shaped_encs qs ho') hu (by simp only [noMix]; exact noMix_encs ps qs) (by simp only [Spec.same]; rw [same_encs]; exact h)
theorem notin_pairs {a b : Addr} {vs : List Value} {ps : List PT} {p : PT} {t u : Tok} {n : Nat} (hl : s.heap.IsList a vs.toArray) (x : PA s.heap vs ps) (hb : s.heap.get? b = some (twoObj p t u n)) (ho : ∀ p ∈ ps, okP p) (ho' : okP p) (hu : A.units + 65 < cLine)
    (h : Q (.bool (!decide (p ∈ ps))) s) : wpAny (model prog w) A (compareOp .NotIn (.ref b) (.ref a)) Q E s := by
  obtain ⟨as, r⟩ := reads_PA hl x
  refine notIn_list_dataH r (reads_two hb) (shaped_encs ps ho) (shaped_enc ho') hu (fun y hy => ?_) (by rw [count_encs]; exact h)
  obtain ⟨q, _, rfl⟩ := List.mem_map.mp hy
  exact noMix_enc q p

theorem pop_list {a : Addr} {vs : List Value} {v : Value} {k : Nat} (hl : s.heap.get? a = some (listOf (vs ++ [v]).toArray k))
    (h : ∀ h' k', h'.get? a = some (listOf vs.toArray k') → Heap.SameBut a s.heap h' → Q v { s with heap := h' }) (hsz : vs.length + 1 ≤ sizeLine) :
    wpAny (model prog w) A (call (.builtin "list.pop") [.ref a]) Q E s := by
  refine wpAny_call_entry F.slot_list_pop ⟨_, hl, rfl⟩ F.entry_list_pop ?_ (F.args_list_pop_1 _)
  show wpAny _ _ (do
    if !Builtin.List.listFitsIndex (-1) then rule "list.pop.index-too-large"; raiseError "OverflowError" "Python int too large to convert to C ssize_t"
    let xs ← Builtin.List.listItems (.ref a)
    if xs.isEmpty then rule "list.pop.empty"; raiseError "IndexError" "pop from empty list"
    match (seqIndex? (-1) xs.size).bind fun k => xs[k]?.map (k, ·) with
    | some (k, x) => Builtin.List.listUpdate (.ref a) (·.eraseIdxIfInBounds k); ret x
    | none => rule "list.pop.out-of-range"; raiseError "IndexError" "pop index out of range") _ _ s
  have e1 : Builtin.List.listFitsIndex (-1) = true := by decide
  simp only [e1, Bool.not_true, Bool.false_eq_true, if_false]
  refine wpAny_bind (listItems_at hl rfl ?_)
  have e2 : ((vs ++ [v]).toArray).isEmpty = false := by simp
  have e3 : (seqIndex? (-1) ((vs ++ [v]).toArray).size).bind (fun k => ((vs ++ [v]).toArray)[k]?.map (k, ·)) = some (vs.length, v) := by
    have : seqIndex? (-1) ((vs ++ [v]).toArray).size = some vs.length := by
      simp [seqIndex?]
      omega
    rw [this]
    simp
  simp only [e2, Bool.false_eq_true, if_false, e3]
  have e4 : ((vs ++ [v]).toArray).eraseIdxIfInBounds vs.length = vs.toArray := by
    simp [List.eraseIdx_append_of_length_le]
  refine wpAny_bind (listUpdate_at hl rfl (wpAny_pure ⟨_, rfl, ?_⟩) (hsz := by simpa using hsz) (hsz2 := by rw [e4]; exact Nat.le_trans (Nat.le_succ _) (Nat.le_succ_of_le hsz)))
  have g := get?_update_seq hl (fun x => x.eraseIdxIfInBounds vs.length)
  rw [e4] at g
  exact h _ _ g (Heap.SameBut.update ..)
end
end Mine
end
/- STRIP -/
section
open PySem PySem.W PyProof.Rows
set_option maxRecDepth 100000
set_option genSizeOf false
set_option genInjectivity false
namespace Mine
open PySem.Builtin PySem.Builtin.Str
noncomputable def Stop (P : Prop) : Prop := P
theorem stop_here {P : Prop} (h : Stop P) : P := h

noncomputable def opV : Option Nat → Tok → Value
  | none, _ => .none
  | some o, u => .int o u
structure SNames (t : Str) (tk : Tok) (r : Addr) (st : Nat × Option Nat × List Tx) (m : Str → Option Value) : Prop where
  addr : m (Str.ofString "addr") = some (.str t tk)
  start : ∃ u, m (Str.ofString "start") = some (.int (st.1 : Nat) u)
  opn : ∃ u, m (Str.ofString "open_pos") = some (opV st.2.1 u)
  res : m (Str.ofString "result") = some (.ref r)
/-- before a turn of the loop over the events; n events are still to come -/
inductive SInv (w : World) (A : Around) (h₀ : Heap) (L : Addr) (t : Str) (tk : Tok) (s : Shared) (g : Nat) (a r : Addr) (W : List Addr) (n : Nat) (s' : Shared) : Prop
  | mk (h' : Heap) (g' : Array GenState) (n' : Nat) (gs : GenState) (m' : Str → Option Value) (its : Array Value) (k : Nat) (pre rest : List (Nat × Tx))
    (eq : s' = { s with heap := h', gens := g', toks := n' }) (old : OldGens s.gens g') (gen : g'[g]? = some gs)
    (goes : gs.Goes (model pgm w) A.in1 (Rp W) (Yp W (events t.cps.toList)) n (.send .none) (s'.setGen g .running))
    (evs : events t.cps.toList = pre ++ rest) (len : rest.length = n) (names : SNames t tk r (pre.foldl (cStep t.cps.toList) (0, none, [])) m') (F : Fr h₀ L h' m') (N : News h₀ L h' [(r, listOf its k)])
    (sa : SA its.toList ((pre.foldl (cStep t.cps.toList) (0, none, [])).2.2.map toS)) (ig : h'.IsGen a g) (sz : its.size ≤ pre.length)
inductive SPost (h₀ : Heap) (L : Addr) (t : Str) (tk : Tok) (r : Addr) (own : List (Addr × Obj)) (st : Nat × Option Nat × List Tx) (n : Nat) (s₂ : Shared) (f : Flow) (s₃ : Shared) : Prop
  | mk (flow : f = .next) (h₄ : Heap) (n₄ : Nat) (m₄ : Str → Option Value) (its : Array Value) (k : Nat) (eq : s₃ = { s₂ with heap := h₄, toks := n₄ }) (F : Fr h₀ L h₄ m₄) (names : SNames t tk r st m₄) (N : News h₀ L h₄ ((r, listOf its k) :: own)) (sa : SA its.toList (st.2.2.map toS)) (sz : its.size ≤ n + 1)

theorem ev_len : ∀ (rest : Tx) (i last : Nat) (e : Bool), (evF i last e rest).length ≤ rest.length + (if e = true then 1 else 0) := by
  intro rest
  induction rest with
  | nil => intro i last e; cases e <;> simp [evF]
  | cons c r ih =>
    intro i last e
    have a1 := ih (i + 1) i false
    have a2 := ih (i + 1) i true
    cases e with
    | true => simp only [evF, if_true, List.length_cons] at *; simp at a1; omega
    | false =>
      by_cases h92 : c = 92
      · subst h92; simp only [evF, List.length_cons] at *; simp at *; omega
      · have ev : evF i last false (c :: r) = (i, [c]) :: evF (i + 1) i false r := by simp [evF, h92]
        rw [ev]; simp only [List.length_cons] at *; simp at *; omega
theorem events_len (t : Tx) : (events t).length ≤ t.length := by simpa [events] using ev_len t 0 0 false
theorem cOk_fold (t : Tx) : ∀ (l : List (Nat × Tx)) (st : Nat × Option Nat × List Tx), (∀ q ∈ l, q.1 < t.length) → cOk t st → cOk t (l.foldl (cStep t) st) := by
  intro l
  induction l with
  | nil => intro st _ h; exact h
  | cons q r ih => intro st hq h; exact ih _ (fun x hx => hq x (List.mem_cons_of_mem _ hx)) (h.step (hq q List.mem_cons_self))

section
variable {w : World} {A : Around} {h₀ : Heap} {L : Addr} {t : Str} {tk : Tok} {s : Shared} {g : Nat} {a r : Addr} {W : List Addr}
theorem strip_loop {target1 target2 : Pos} {k0 : Nat} {tp0 : Pos} {body : List Stmt} {env : Env} {R : Result → Shared → Prop} {s₁ : Shared} {mean : ExcName → Option Value} {mg mb : Str → Option Value} (G : Gd w mean mg mb h₀) (ht : t.length ≤ 4096)
    (hh : A.handled = none) (hgz : g = s.gens.size) (hroom : A.depth < recursionLimit) (hL : env.locals = L) (hk : env.scope.kind = .function) (hl1 : env.kindOf (Str.ofString "pos") = some .local) (hl2 : env.kindOf (Str.ofString "ch") = some .local)
    (ga : GenAt w h₀ L [(r, listOf #[] 0)] W a) (h0 : SInv w A h₀ L t tk s g a r W (events t.cps.toList).length s₁)
    (hbody : ∀ (its : Array Value) (k : Nat) (st : Nat × Option Nat × List Tx) (p : Nat) (x : Tx) (tp tx : Tok) (h₃ : Heap) (g₃ : Array GenState) (n₃ : Nat) (m₀ : Str → Option Value) (own : List (Addr × Obj)), p < t.length → cOk t.cps.toList st → SNames t tk r st m₀ →
      Fr h₀ L h₃ (fun y => if y = Str.ofString "ch" then some (.str (toS x) tx) else if y = Str.ofString "pos" then some (.int p tp) else m₀ y) → News h₀ L h₃ ((r, listOf its k) :: own) → OwnOff own [r] → SA its.toList (st.2.2.map toS) → its.size ≤ 4096 →
      wpAny (model pgm w) A (execs body env) (SPost h₀ L t tk r own (cStep t.cps.toList st (p, x)) its.size { s with heap := h₃, gens := g₃, toks := n₃ }) (fun _ _ => False) { s with heap := h₃, gens := g₃, toks := n₃ })
    (done : ∀ (h₄ : Heap) (g₄ : Array GenState) (n₄ : Nat) (m₄ : Str → Option Value) (its : Array Value) (k : Nat) (st : Nat × Option Nat × List Tx), (AllBare s.gens → AllBare g₄) → cOk t.cps.toList st → cEnd t.cps.toList st = shorn t.cps.toList → SNames t tk r st m₄ → Fr h₀ L h₄ m₄ → News h₀ L h₄ [(r, listOf its k)] →
      SA its.toList (st.2.2.map toS) → its.size ≤ 4096 → R (.ok .next) { s with heap := h₄, gens := g₄, toks := n₄ }) :
    codeAny (model pgm w) A (.forLoop (.Tuple [.Name (Str.ofString "pos") target1, .Name (Str.ofString "ch") target2] k0 tp0) (.ref a) body [] env) R s₁ := by
  refine codeAny_forLoop_any (SInv w A h₀ L t tk s g a r W) ?_ _ h0
  rintro n s' ⟨h', g', n', gs, m', its, k, pre, rest, rfl, hbare, hgs, hgo, hev, hlen, hnm, F, N, hsa, hg, hsz⟩
  have elen := events_len t.cps.toList
  rw [len_list] at elen
  have epre : pre.length ≤ t.length := by
    have z := congrArg List.length hev
    rw [List.length_append] at z
    exact Nat.le_trans (Nat.le_add_right _ _) (z ▸ elen)
  have hoff : ∀ b o, h₀.get? b = some o → b ∉ W := fun b o e hb => by have := (ga.off b hb).2.2.1; rw [e] at this; cases this
  have hLW : L ∉ W := fun h => (ga.off _ h).1 rfl
  have hrW : r ∉ W := fun h => (ga.off _ h).2.2.2 _ (List.mem_singleton.mpr rfl) rfl
  have haW : a ∉ W := fun h => (ga.off _ h).2.1 rfl
  have hok : cOk t.cps.toList (pre.foldl (cStep t.cps.toList) (0, none, [])) := cOk_fold _ _ _ (fun q hq => events_lt _ q (by rw [hev]; exact List.mem_append_left _ hq)) ⟨Nat.zero_le _, fun o ho => nomatch ho⟩
  have next : ∀ h₁ : Heap, (∀ b o, b ∉ W → h'.get? b = some o → h₁.get? b = some o) → Fr h₀ L h₁ m' ∧ News h₀ L h₁ [(r, listOf its k)] ∧ h₁.IsGen a g := fun h₁ hk₁ =>
    ⟨⟨F.ns.at fun o e => hk₁ L o hLW e, fun b o e => hk₁ b o (hoff b o e) (F.keep b o e), F.above⟩,
      fun q hq => by rw [List.mem_singleton.mp hq]; exact ⟨hk₁ _ _ hrW (N _ (List.mem_singleton.mpr rfl)).1, (N _ (List.mem_singleton.mpr rfl)).2⟩,
      let ⟨o, nm, qn, ho, rr⟩ := hg; ⟨o, nm, qn, hk₁ _ _ haW ho, rr⟩⟩
  refine gen_next hh (G.keeps F.keep).T.nolimit hroom hg hgs hgo ?_ ?_
  · rintro T p x rest' pre' tp tx h₁ n₁ mm gs' hev' hlen' rfl hT hk₁ hkap
    obtain ⟨F₁, N₁, hg₁⟩ := next h₁ hk₁
    have same : pre = pre' ∧ rest = (p, x) :: rest' := by
      refine List.append_inj' (hev.symm.trans hev') ?_
      simp [hlen, hlen']
    obtain ⟨rfl, rfl⟩ := same
    refine go_gen hg₁ ?_
    subst hL
    refine assign_two hh hk hl1 hl2 hT F₁.ns fun h₂ n₂ hn₂ hk₂ => ?_
    have F₂ : Fr h₀ env.locals h₂ (fun y => if y = Str.ofString "ch" then some (.str (toS x) tx) else if y = Str.ofString "pos" then some (.int p tp) else m' y) :=
      ⟨hn₂, fun b o e => hk₂ b o (fun q => by
        have hlt := Nat.lt_of_lt_of_le (Heap.lt_size e) F.above
        exact absurd hlt (q ▸ Nat.lt_irrefl _)) (F₁.keep b o e), F.above⟩
    have hrL : r ≠ env.locals := (N _ (List.mem_singleton.mpr rfl)).2.1
    have N₂ : News h₀ env.locals h₂ ((r, listOf its k) :: ((a, (h₂.get? a).getD default) :: ownOf h₀ W h₂)) := by
      intro q hq
      rcases List.mem_cons.mp hq with rfl | hq
      · exact ⟨hk₂ _ _ hrL (N₁ _ (List.mem_singleton.mpr rfl)).1, (N₁ _ (List.mem_singleton.mpr rfl)).2⟩
      rcases List.mem_cons.mp hq with rfl | hq
      · obtain ⟨o, nm, qn, ho, _⟩ := hg₁
        have := hk₂ a o ga.aL ho
        exact ⟨by simp [this], ga.aL, ga.an⟩
      · exact news_ownOf hLW q hq
    have hplt : p < t.length := by
      have := events_lt t.cps.toList (p, x) (by rw [hev]; simp)
      rwa [len_list] at this
    refine wpAny_mono (hbody its k _ p x tp tx h₂ _ n₂ m' _ hplt hok hnm F₂ N₂ ?_ hsa (Nat.le_trans hsz (Nat.le_trans epre ht))) ?_ (fun _ _ e => e.elim)
    · intro q hq b hb e
      rw [List.mem_singleton.mp hb] at e
      rcases List.mem_cons.mp hq with rfl | hq
      · exact ga.aN _ (List.mem_singleton.mpr rfl) e.symm
      · exact hrW (e ▸ ownOf_sub q hq)
    · rintro f s₃ ⟨rfl, h₄, n₄, m₄, its', k', rfl, F₄, hnm₄, N₄, hsa₄, hsz₄⟩
      refine ⟨mm, Nat.lt_succ_self _, h₄, _, n₄, gs', m₄, its', k', pre ++ [(p, x)], rest', rfl, by subst hgz; exact (hbare.set _).set _, ?_, ?_, ?_, hlen', ?_, F₄, ?_, ?_, ?_, ?_⟩
      · rw [Array.getElem?_setIfInBounds]
        obtain ⟨hlt, _⟩ := Array.getElem?_eq_some_iff.mp hgs
        simp [hlt]
      · refine hkap _ fun b hb' o e => ?_
        obtain ⟨x1, _, x3, x4⟩ := ga.off b hb'
        have e₂ : h₂.get? b = some o := hk₂ b o x1 e
        exact (N₄ _ (List.mem_cons_of_mem _ (List.mem_cons_of_mem _ (mem_ownOf hb' x3 e₂)))).1
      · rw [hev]; simp
      · rw [List.foldl_append]; exact hnm₄
      · intro q hq
        rw [List.mem_singleton.mp hq]
        exact N₄ _ List.mem_cons_self
      · rw [List.foldl_append]; exact hsa₄
      · obtain ⟨o, nm, qn, ho, rr⟩ := hg₁
        have e₂ := hk₂ a o ga.aL ho
        have := (N₄ _ (List.mem_cons_of_mem _ List.mem_cons_self)).1
        simp only [e₂, Option.getD_some] at this
        exact ⟨o, nm, qn, this, rr⟩
      · exact lenSnoc hsz₄ hsz
  · rintro h₁ n₁ rfl hk₁
    obtain ⟨F₁, N₁, _⟩ := next h₁ hk₁
    have hr : rest = [] := List.eq_nil_of_length_eq_zero hlen
    subst hr
    rw [List.append_nil] at hev
    refine wpAny_execs_nil (done h₁ _ n₁ m' its k _ (fun hb0 => by subst hgz; exact (hbare.set _).bare _ rfl hb0) hok ?_ hnm F₁ N₁ hsa (Nat.le_trans hsz (Nat.le_trans epre ht)))
    rw [← hev]
    exact cons_is _
end

theorem x34 {x : Tx} (h : (toS x == Str.ofString "\"") = true) : x = [34] := by
  have h' := beq_iff_eq.mp h
  have z : Str.ofString "\"" = toS [34] := by decide
  rw [z] at h'
  have := congrArg (fun y => y.cps.toList) h'
  simpa using this
theorem xn34 {x : Tx} (h : (toS x == Str.ofString "\"") = false) : x ≠ [34] := by
  rintro rfl
  exact absurd h (by decide)
local macro_rules | `(tactic| walk_at $s:str) => `(tactic| k_extra $s)
set_option maxHeartbeats 4000000 in
theorem strip_walk (w : World) (mean : ExcName → Option Value) (mg mb : Str → Option Value) (t : Str) (tka : Tok) (ht : t.length ≤ 4096)
   (dp un : Nat) (fr : Option (List Env)) (gd : Option (List Code)) (s : Shared) (R : Result → Shared → Prop) (G : Gd w mean mg mb s.heap) (hd1 : dp + 12 < recursionLimit) (hu1 : un + 60 < cLine)
   (kR : ∀ h' g' n' tk', (∀ b o, s.heap.get? b = some o → h'.get? b = some o) → (AllBare s.gens → AllBare g') → R (.ok (.ret (.str (toS (shorn t.cps.toList)) tk'))) { s with heap := h', gens := g', toks := n' }) : codeAny (model pgm w) ⟨none, dp, fr, gd, un⟩ (.call (.ref 35) ⟨[Value.str t tka], []⟩) R s := by
  have dummy : PySem.Challenge.rw_wa0019_01 = PySem.Challenge.rw_wa0019_01 → Mine.hd.heap_39 = Mine.hd.heap_39 → True := by
    k_fill
    intros; trivial
  clear dummy
  k_with_none
  (k_with "room" => (((try dsimp only [Around.deeper]); first | exact roomT _ _ hd1 rfl | exact roomT _ _ hu1 rfl | exact room _ hd1 rfl | exact room _ hu1 rfl | exact room0 hd1)))
  (k_with "look me" => (first
    | exact rfl
    | with_reducible assumption
    | exact if_pos rfl
    | (refine (if_neg (by decide)).trans ?_; walk_at "look me")))
  (k_with "look all" => (((try dsimp only [opV]); walk_at "look me")))
  (k_with "eval Name" => ((with_reducible show wpAny _ _ (eval (Expr.Name _ _) (envOf _ _ _ _ _)) _ _ _; k_dflt (refine' ld ?k1 ?k2 ?_; (case k1 => with_reducible assumption); (case k2 => ((try dsimp only); walk_at "look me"))))))
  (k_with "call builtin:str.join" => ((refine stop_here ?_)))
  (k_with "exec For" => ((refine wpAny_For ?_)))
  (k_with "call ref" => ((
    (with_reducible refine gen_call (by assumption) (by assumption) (by assumption) rfl (by walk_at "room") ?_);
    (intro h'9 n'9 a9 W9 gs9 F9 N9 hg9 hb9 ga9 go9); (refine stop_here ?_))))
  have kX := G.K
  have kT := G.T
  refine enter G (room0 hd1) (by k_is) (by k_is) (BindsTo.of_eq rfl) (locs rfl) (by decide) rfl rfl rfl ?_
  intro L' h' tk' eL' kk F' N'
  (try dsimp only)
  (try k_fold)
  k_steps
  · rename List.isEmpty (occurrences _ _ _ _ _) = true => hem
    have z9 : Str.ofString "\"" = ⟨#[34]⟩ := by decide
    have hno : 34 ∉ t.cps.toList := by
      rw [z9] at hem
      have := StrLaws.found_one t 34
      rw [hem] at this
      simpa using this
    have e9 : toS (shorn t.cps.toList) = t := by rw [shorn_free hno, toS_toList]
    rw [e9] at kR
    exact kR _ _ _ _ F'.keep id
  · rename Fr _ _ _ _ => F0
    rename News _ _ _ _ => N0
    rename GenAt _ _ _ _ _ _ => ga
    rename Heap.IsGen _ _ _ => hg
    rename GenState.bare _ = true => hb
    rename (∀ _, _ → GenState.Goes _ _ _ _ _ _ _ _) => go

    delta Stop
    refine wpAny_pyIter_gen hg ?_
    refine strip_loop (s := s) (g := s.gens.size) (tk := tka) (W := _) G ht rfl rfl (by walk_at "room") rfl rfl rfl rfl ga ?_ ?_ ?_
    · refine ⟨_, _, _, _, _, _, _, [], _, rfl, OldGens.push _ _, ?_, go _ rfl, rfl, rfl, ⟨?_, ?_, ⟨0, ?_⟩, ?_⟩, F0, N0, SA.nil, hg, Nat.le_refl _⟩
      · simp
      · rfl
      · exact ⟨_, rfl⟩
      · rfl
      · rfl
    · intro its k st p x tp tx h₃ g₃ n₃ m₀ own hp hok nm F N ho hsa hsz
      obtain ⟨n1, ⟨u2, n2⟩, ⟨u3, n3⟩, n4⟩ := nm
      obtain ⟨st1, st2, st3⟩ := st
      clear F0 N0 ga hg hb go
      replace F : Fr s.heap L' h₃ _ := F
      replace N : News s.heap L' h₃ _ := N
      dsimp only at n2 n3 hsa
      cases st2 with
      | none =>
        dsimp only [opV] at n3
        k_steps
        all_goals (rename Fr _ _ _ _ => FF; rename News _ _ _ _ => NN)
        · rename (_ == _) = true => hx
          rw [x34 hx, show cStep t.cps.toList (st1, none, st3) (p, [34]) = (st1, some p, st3) by simp [cStep]]
          exact ⟨rfl, _, _, _, its, k, rfl, FF, ⟨by walk_at "look all", ⟨_, by walk_at "look all"⟩, ⟨_, by walk_at "look all"⟩, by walk_at "look all"⟩, NN, hsa, Nat.le_succ _⟩
        · rename (_ == _) = false => hx
          rw [show cStep t.cps.toList (st1, none, st3) (p, x) = (st1, none, st3) by simp [cStep, xn34 hx]]
          exact ⟨rfl, _, _, _, its, k, rfl, FF, ⟨by walk_at "look all", ⟨_, by walk_at "look all"⟩, ⟨0, by walk_at "look all"⟩, by walk_at "look all"⟩, NN, hsa, Nat.le_succ _⟩
      | some o =>
        dsimp only [opV] at n3
        have ho1 := hok.1
        have ho2 := hok.2 o rfl
        rw [len_list] at ho1 ho2
        k_steps
        all_goals (rename Fr _ _ _ _ => FF; rename News _ _ _ _ => NN)
        · rename (_ == _) = true => hx
          rename _ ≠ _ => hne
          rw [x34 hx, show cStep t.cps.toList (st1, some o, st3) (p, [34]) = (p + 1, none, st3 ++ [(t.cps.toList.take o).drop st1]) by simp [cStep]; omega]
          rw [slice_cut t ho1 ho2] at NN
          exact ⟨rfl, _, _, _, _, _, rfl, FF, ⟨by walk_at "look all", ⟨_, by walk_at "look all"⟩, ⟨0, by walk_at "look all"⟩, by walk_at "look all"⟩, NN, by simpa using hsa.snoc, by simp⟩
        · rename (_ == _) = true => hx
          rename _ = _ => hne
          rw [x34 hx, show cStep t.cps.toList (st1, some o, st3) (p, [34]) = (p + 1, none, st3) by simp [cStep]; omega]
          exact ⟨rfl, _, _, _, its, k, rfl, FF, ⟨by walk_at "look all", ⟨_, by walk_at "look all"⟩, ⟨0, by walk_at "look all"⟩, by walk_at "look all"⟩, NN, hsa, Nat.le_succ _⟩
        · rename (_ == _) = false => hx
          rw [show cStep t.cps.toList (st1, some o, st3) (p, x) = (st1, some o, st3) by simp [cStep, xn34 hx]]
          exact ⟨rfl, _, _, _, its, k, rfl, FF, ⟨by walk_at "look all", ⟨_, by walk_at "look all"⟩, ⟨_, by walk_at "look all"⟩, by walk_at "look all"⟩, NN, hsa, Nat.le_succ _⟩
    · intro h₄ g₄ n₄ m₄ its k st hb4 hok hend nm F N hsa hsz
      obtain ⟨n1, ⟨u2, n2⟩, ⟨u3, n3⟩, n4⟩ := nm
      obtain ⟨st1, st2, st3⟩ := st
      clear F0 N0 ga hg hb go
      replace F : Fr s.heap L' h₄ _ := F
      replace N : News s.heap L' h₄ _ := N
      dsimp only at n2 n3 hsa
      k_steps
      all_goals (rename Fr _ _ _ _ => FF; rename News _ _ _ _ => NN; delta Stop)
      · rename _ < _ => hlt
        have hlt' : st1 ≤ t.length := Nat.le_of_lt (Int.ofNat_lt.mp hlt)
        rw [slice_tail t hlt'] at NN
        have e9 : (st3 ++ [t.cps.toList.drop st1]).flatten = shorn t.cps.toList := by simpa [cEnd] using hend
        refine join_SA (xs := st3 ++ [t.cps.toList.drop st1]) ⟨_, (NN _ List.mem_cons_self).1, rfl, _, rfl⟩ (by simpa using hsa.snoc) ?_ fun t' k' => ?_
        · rw [e9]
          have z := shorn_len t.cps.toList
          rw [len_list] at z
          exact leBig (Nat.le_trans z ht)
        · rw [e9]
          exact kR _ _ _ _ FF.keep hb4
      · rename ¬ _ < _ => hlt
        have hlt' : t.cps.toList.length ≤ st1 := by rw [len_list]; exact Nat.le_of_not_lt fun q => hlt (Int.ofNat_lt.mpr q)
        have e9 : st3.flatten = shorn t.cps.toList := by
          simp only [cEnd, List.drop_eq_nil_of_le hlt', List.append_nil] at hend
          exact hend
        refine join_SA (xs := st3) ⟨_, (NN _ List.mem_cons_self).1, rfl, _, rfl⟩ hsa ?_ fun t' k' => ?_
        · rw [e9]
          have z := shorn_len t.cps.toList
          rw [len_list] at z
          exact leBig (Nat.le_trans z ht)
        · rw [e9]
          exact kR _ _ _ _ FF.keep hb4
end Mine
end
/- MAPC -/
section
open PySem PySem.W PyProof.Rows
set_option maxRecDepth 100000
set_option genSizeOf false
set_option genInjectivity false
namespace Mine

section
variable {prog : Program} {w : World} {A : Around} {E : Value → Shared → Prop} {s : Shared} {env : Env} {Q : Value → Shared → Prop}
/-- f(x): f a def of the text that the module's names hold, x a local -/
theorem call_global {fname x : Str} {p1 p2 p3 : Pos} {fa : Addr} {o : Obj} {fd : FuncData} {v : Value} {m mg : Str → Option Value} (hk : env.scope.kind = .function) (hf : env.kindOf fname = some .globalImplicit) (hx : env.kindOf x = some .local)
    (hg : s.heap.Ns env.globals mg) (hmg : mg fname = some (.ref fa)) (ho : s.heap.get? fa = some o) (hd : o.data = .func fd) (hn : s.heap.Ns env.locals m) (hm : m x = some v)
    (h : wpAny (model prog w) A (call (.ref fa) [v]) Q E s) (h1 : (fname == ("__debug__" : Str)) = false := by decide) (h2 : (x == ("__debug__" : Str)) = false := by decide) :
    wpAny (model prog w) A (eval (.Call (.Name fname p1) [.Name x p2] [] p3) env) Q E s := by
  refine wpAny_Call_NameR (Calls.Name_function_global hk hf (Calls.loadGlobal_global hg hmg ?_) h1)
  exact callWith_def hd (wpAny_items_cons (ev_local hk hx hn hm (wpAny_items_nil ⟨ho, h⟩) h2))

theorem lookup_relabel {scope : Scope} {x : Str} {k : NameKind} (hk : k ≠ .free) : ∀ (names : List (Str × NameKind)), names.lookup x = some k →
    (names.map fun (n, k) => if (k == .free && env.scope.kind == .function && env.kindOf n == some .cell) then (n, .cell) else (n, k)).lookup x = some k
  | [], h => by simp at h
  | (n, k') :: r, h => by
    rw [List.map_cons]
    by_cases e : x == n
    · rw [List.lookup_cons, e] at h
      cases h
      have hkf : (k == NameKind.free) = false := by simpa using hk
      simp [List.lookup_cons, e, hkf]
    · have e' : (x == n) = false := by simpa using e
      rw [List.lookup_cons, e'] at h
      have ih := lookup_relabel (scope := scope) hk r h
      dsimp only
      split <;> (rw [List.lookup_cons, e']; exact ih)
end

theorem listIter_live {I ax : Addr} {items : Array Value} : ∀ i (h : Heap), (h.IsListIter I ax i ∧ h.IsList ax items) → ∀ b ∈ [I], ∃ o, h.get? b = some o := by
  rintro i h ⟨⟨o, ho, _⟩, _⟩ b hb
  rw [List.mem_singleton.mp hb]
  exact ⟨o, ho⟩

section
variable {w : World} {A : Around} {s : Shared} {h₀ : Heap} {L : Addr} {m mg mb : Str → Option Value} {mean : ExcName → Option Value} {news : List (Addr × Obj)} {Q : Value → Shared → Prop} {E : Value → Shared → Prop}
/-- the news and the frame over a comprehension -/
theorem CompGot.fr {F : Nat → Value → List (Addr × Obj) → Prop} {n : Nat} {wr : List Addr} {s₂ : Shared} {h' : Heap} {g' : Array GenState} {D : Addr} {rs : List (Value × List (Addr × Obj))} (G : CompGot F n wr s₂ h' g' D rs)
    (Fr₂ : Fr h₀ L s₂.heap m) (hwr : ∀ b ∈ wr, h₀.get? b = Option.none ∧ b ≠ L) : Fr h₀ L h' m :=
  ⟨Fr₂.ns.at fun o e => G.keep _ o (fun q => (hwr _ q).2 rfl) e, fun b o e => G.keep b o (fun q => by have := (hwr _ q).1; rw [e] at this; cases this) (Fr₂.keep b o e), Fr₂.above⟩
theorem CompGot.led {F : Nat → Value → List (Addr × Obj) → Prop} {n : Nat} {wr : List Addr} {s₂ : Shared} {h' : Heap} {g' : Array GenState} {D : Addr} {rs : List (Value × List (Addr × Obj))} (G : CompGot F n wr s₂ h' g' D rs)
    (Fr₂ : Fr h₀ L s₂.heap m) (N : News h₀ L s₂.heap news) (hwr : ∀ p ∈ news, p.1 ∉ wr) : ∃ k, News h₀ L h' ((D, listOf (rs.map (·.1)).toArray k) :: (rs.flatMap (·.2) ++ news)) := by
  obtain ⟨k, hD⟩ := G.list
  have fresh : ∀ b, s₂.heap.get? b = Option.none → b ≠ L ∧ h₀.get? b = Option.none := fun b hb => by
    obtain ⟨_, _, _, hL, _⟩ := Fr₂.ns
    refine ⟨(fun q => by rw [q, hL] at hb; cases hb), ?_⟩
    cases e : h₀.get? b with
    | none => rfl
    | some o => rw [Fr₂.keep b o e] at hb; cases hb
  refine ⟨k, fun p hp => ?_⟩
  rcases List.mem_cons.mp hp with rfl | hp
  · exact ⟨hD, fresh _ G.none⟩
  rcases List.mem_append.mp hp with hp | hp
  · obtain ⟨r, hr, hp⟩ := List.mem_flatMap.mp hp
    exact ⟨(G.new r hr p hp).1, fresh _ (G.new r hr p hp).2⟩
  · exact ⟨G.keep _ _ (hwr p hp) (N p hp).1, (N p hp).2⟩

set_option maxHeartbeats 1000000 in
/-- [f(text) for text in pair] -/
theorem comp_two {name : Str} {scope cscope : Scope} {a : Addr} {cd : Value} {fname : Str} {fa : Addr} {fo : Obj} {fd : FuncData} {f : Tx → Tx} {p1 p2 p3 q1 q2 pos : Pos} {b : Addr} {p : PT} {t u : Tok} {n : Nat}
    (G : Gd w mean mg mb h₀) (F : Fr h₀ L s.heap m) (N : News h₀ L s.heap news) (hh : A.handled = none) (hm : m (Str.ofString "pair") = some (.ref b)) (hb : s.heap.get? b = some (twoObj p t u n))
    (hk : scope.kind = .function) (hl : (envOf name scope L a cd).kindOf (Str.ofString "pair") = some .local)
    (hfree : ∀ x ∈ cscope.names, x.2 ≠ .free) (hcell : ∀ x ∈ cscope.names, x.2 ≠ .cell) (hck : cscope.kind = .function) (hnames : ∀ y ∈ cscope.names, y.2 = .local → cscope.names.lookup y.1 = some .local)
    (hx : cscope.names.lookup (Str.ofString "text") = some .local) (hfn : cscope.names.lookup fname = some .globalImplicit) (hmg : mg fname = some (.ref fa)) (hfo : h₀.get? fa = some fo) (hfd : fo.data = .func fd)
    (hlen : p.1.length ≤ 4096 ∧ p.2.length ≤ 4096) (hdb : (fname == ("__debug__" : Str)) = false)
    (hcall : ∀ (s' : Shared) (x : Tx) (tk : Tok) (Q' : Value → Shared → Prop), (∀ b o, h₀.get? b = some o → s'.heap.get? b = some o) → x.length ≤ 4096 →
      (∀ h' g' n' tk', (∀ b o, s'.heap.get? b = some o → h'.get? b = some o) → (AllBare s'.gens → AllBare g') → Q' (.str (toS (f x)) tk') { s' with heap := h', gens := g', toks := n' }) →
      wpAny (model pgm w) A (call (.ref fa) [.str (toS x) tk]) Q' (fun _ _ => False) s')
    (h : ∀ h' g' tk' D t' u' n', Fr h₀ L h' m → News h₀ L h' ((D, twoObj (f p.1, f p.2) t' u' n') :: news) → (∀ q ∈ news, q.1 ≠ D) → (AllBare s.gens → AllBare g') → Q (.ref D) { s with heap := h', gens := g', toks := tk' }) :
    wpAny (model pgm w) A (eval (.ListComp (.Call (.Name fname p1) [.Name (Str.ofString "text") p2] [] p3) [⟨.Name (Str.ofString "text") q1, .Name (Str.ofString "pair") q2, [], 0⟩] cscope pos) (envOf name scope L a cd)) Q E s := by
  have hls : s.heap.IsList b #[.str (toS p.1) t, .str (toS p.2) u] := ⟨_, hb, rfl, _, rfl⟩
  have hI0 : h₀.get? s.heap.objs.size = none := none_above F.keep (Nat.le_refl _)
  refine comp_eval (cl := []) (closureFor_none hfree) hcell hck hnames (ld F hm (wpAny_pyIter_list hls ?_) hk hl)
  have F₂ := F.push { cls := .type "list_iterator", data := .fields #[.ref b, .int 0 0] }
  have N₂ : News h₀ L (s.heap.push { cls := .type "list_iterator", data := .fields #[.ref b, .int 0 0] }) news := News.ext N fun _ _ e => Heap.get?_push_of_some _ e
  have hbI : b ≠ s.heap.objs.size := Nat.ne_of_lt (Heap.lt_size hb)
  refine ⟨s.heap.objs.size, _, _, _, _, _, fun i y l => l = [] ∧ ∃ tk, y = .str (toS (f (if i = 0 then p.1 else p.2))) tk, rfl,
    Turns.name (px := q1) (Walks.list hh s.heap.objs.size b hbI #[.str (toS p.1) t, .str (toS p.2) u]) hck hx, by rw [sizeLine_eq]; exact (by decide : 2 ≤ 16777216), ⟨⟨_, Heap.get?_push_size _ rfl, rfl, rfl⟩, hls.at fun o e => Heap.get?_push_of_some _ e⟩, ?_, fun i h hst => listIter_live i h hst, ?_, ?_⟩
  · intro c hc
    show c < (s.heap.push _).objs.size
    rw [Heap.size_push]
    rcases List.mem_cons.mp hc with rfl | hc
    · exact Nat.lt_succ_self _
    · rw [List.mem_singleton.mp hc]; exact Nat.lt_succ_of_lt (Heap.lt_size hb)
  · intro C i s₃ m₃ hC hi ⟨v, hv, hm₃⟩ hn₃ hk₃ _
    have hk0 : ∀ c o, h₀.get? c = some o → s₃.heap.get? c = some o := fun c o e => hk₃ c o (fun q => by rw [List.mem_singleton.mp q, hI0] at e; cases e) (F₂.keep c o e)
    have hval : ∃ tk, v = .str (toS (if i = 0 then p.1 else p.2)) tk := by
      have hi2 : i < 2 := hi
      rcases Nat.lt_or_ge i 1 with h1 | h1
      · have := oneZero h1
        subst this
        exact ⟨t, (Option.some.inj hv).symm⟩
      · have := twoOne hi2 h1
        subst this
        exact ⟨u, (Option.some.inj hv).symm⟩
    obtain ⟨tk, rfl⟩ := hval
    have hkf : (compEnvC cscope [] C (envOf name scope L a cd)).kindOf fname = some .globalImplicit := lookup_relabel (scope := cscope) (by decide) _ hfn
    refine call_global (env := compEnvC cscope [] C (envOf name scope L a cd)) hck hkf (lookup_relabel_local hx) (G.T.g.keeps hk0) hmg (hk0 _ _ hfo) hfd hn₃ hm₃ ?_ hdb
    have hle : (if i = 0 then p.1 else p.2).length ≤ 4096 := by
      split
      · exact hlen.1
      · exact hlen.2
    refine hcall s₃ _ tk _ hk0 hle fun h' g' n' tk' hk' hb' => ⟨[], ⟨rfl, tk', rfl⟩, (fun _ hp => by cases hp), h', g', n', rfl, hk', hb'⟩
  · intro D h' g' tk' rs CG
    have hfr := CG.fr F₂ (fun c hc => by rw [List.mem_singleton.mp hc]; exact ⟨hI0, Nat.ne_of_gt F.ns.lt⟩)
    obtain ⟨k, hN⟩ := CG.led F₂ N₂ (fun q hq hc => by
      have := Heap.lt_size (N q hq).1
      rw [List.mem_singleton.mp hc] at this
      exact Nat.lt_irrefl _ this)
    have hlen2 : rs.length = 2 := CG.len
    obtain ⟨r0, r1, rfl⟩ : ∃ r0 r1, rs = [r0, r1] := by
      rcases rs with _ | ⟨r0, _ | ⟨r1, _ | ⟨r2, rest⟩⟩⟩
      · simp at hlen2
      · simp at hlen2
      · exact ⟨r0, r1, rfl⟩
      · simp at hlen2
    obtain ⟨l0, t0, e0⟩ := CG.each 0 r0 rfl
    obtain ⟨l1, t1, e1⟩ := CG.each 1 r1 rfl
    obtain ⟨v0, l0'⟩ := r0
    obtain ⟨v1, l1'⟩ := r1
    dsimp only at l0 l1 e0 e1
    subst l0 l1 e0 e1
    refine h h' g' tk' D t0 t1 k hfr (by simpa using hN) (fun q hq e => ?_) CG.bare
    have h1 := (N₂ q hq).1
    rw [e, CG.none] at h1
    cases h1
end
end Mine
end
/- REACH1 -/
section
open PySem PySem.W PyProof.Rows
set_option maxRecDepth 100000
set_option genSizeOf false
set_option genInjectivity false
namespace Mine

/-! ## the search, in plain lists -/
structure RP (P ps fp wp : List PT) : Prop where
  nd : fp.Nodup
  fsub : ∀ p ∈ fp, p ∈ P
  wsub : ∀ p ∈ wp, p ∈ P
  closed : ∀ p ∈ fp, (SP p ∈ fp ∨ SP p ∈ wp) ∧ (NP p ∈ fp ∨ NP p ∈ wp)
  init : ∀ p ∈ ps, p ∈ fp ∨ p ∈ wp
theorem nodup_len : ∀ {l P : List PT}, l.Nodup → (∀ p ∈ l, p ∈ P) → l.length ≤ P.length
  | [], _, _, _ => Nat.zero_le _
  | a :: l, P, hn, hs => by
    have ha := hs a List.mem_cons_self
    have hn' := List.nodup_cons.mp hn
    have z := nodup_len (P := P.erase a) hn'.2 fun p hp => (List.mem_erase_of_ne (fun (e : p = a) => hn'.1 (by rw [← e]; exact hp))).mpr (hs p (List.mem_cons_of_mem _ hp))
    rw [List.length_erase_of_mem ha] at z
    exact Nat.lt_of_le_of_lt z (Nat.sub_lt (List.length_pos_of_mem ha) Nat.one_pos)
noncomputable def meas (P fp wp : List PT) : Nat := 3 * (P.length - fp.length) + wp.length
theorem RP.old {P ps fp wp : List PT} {p : PT} (r : RP P ps fp (wp ++ [p])) (hp : p ∈ fp) : RP P ps fp wp := by
  have mv : ∀ q, q ∈ fp ∨ q ∈ wp ++ [p] → q ∈ fp ∨ q ∈ wp := fun q h => by
    rcases h with h | h
    · exact .inl h
    · rcases List.mem_append.mp h with h | h
      · exact .inr h
      · rw [List.mem_singleton.mp h]; exact .inl hp
  exact ⟨r.nd, r.fsub, fun q hq => r.wsub q (List.mem_append_left _ hq), fun q hq => ⟨mv _ (r.closed q hq).1, mv _ (r.closed q hq).2⟩, fun q hq => mv _ (r.init q hq)⟩
theorem RP.new {P ps fp wp : List PT} {p : PT} (r : RP P ps fp (wp ++ [p])) (hc : ClosedP P) (hp : p ∉ fp) : RP P ps (fp ++ [p]) (wp ++ [SP p] ++ [NP p]) := by
  have hpP := r.wsub p (by simp)
  have mv : ∀ q, q ∈ fp ∨ q ∈ wp ++ [p] → q ∈ fp ++ [p] ∨ q ∈ wp ++ [SP p] ++ [NP p] := fun q h => by
    rcases h with h | h
    · exact .inl (List.mem_append_left _ h)
    · rcases List.mem_append.mp h with h | h
      · exact .inr (by simp [h])
      · exact .inl (List.mem_append_right _ h)
  refine ⟨?_, ?_, ?_, ?_, fun q hq => mv _ (r.init q hq)⟩
  · rw [List.nodup_append]
    exact ⟨r.nd, by simp, fun a ha b hb e => hp (by rw [List.mem_singleton.mp hb] at e; rw [← e]; exact ha)⟩
  · intro q hq
    rcases List.mem_append.mp hq with h | h
    · exact r.fsub q h
    · rw [List.mem_singleton.mp h]; exact hpP
  · intro q hq
    simp only [List.mem_append, List.mem_singleton] at hq
    rcases hq with (h | h) | h
    · exact r.wsub q (List.mem_append_left _ h)
    · rw [h]; exact (hc p hpP).1
    · rw [h]; exact (hc p hpP).2
  · intro q hq
    rcases List.mem_append.mp hq with h | h
    · exact ⟨mv _ (r.closed q h).1, mv _ (r.closed q h).2⟩
    · rw [List.mem_singleton.mp h]
      exact ⟨.inr (by simp), .inr (by simp)⟩
theorem meas_old (P fp wp : List PT) (p : PT) : meas P fp wp < meas P fp (wp ++ [p]) := by simp [meas]
theorem meas_new {P ps fp wp : List PT} {p : PT} (r : RP P ps (fp ++ [p]) (wp ++ [SP p] ++ [NP p])) : meas P (fp ++ [p]) (wp ++ [SP p] ++ [NP p]) < meas P fp (wp ++ [p]) := by
  have z := nodup_len r.nd r.fsub
  rw [List.length_append] at z
  have e1 : P.length - fp.length = P.length - (fp ++ [p]).length + 1 := by rw [List.length_append]; exact (Nat.sub_add_cancel (Nat.sub_pos_of_lt z)).symm
  show 3 * (P.length - (fp ++ [p]).length) + _ < 3 * (P.length - fp.length) + _
  rw [e1, Nat.mul_add, Nat.add_assoc, List.length_append, List.length_append, List.length_append, List.length_append (as := wp)]
  exact Nat.add_lt_add_left (Nat.lt_of_lt_of_eq (Nat.add_lt_add_left (Nat.le_of_ble_eq_true rfl : 1 < 3) (wp.length + 1)) (Nat.add_comm (wp.length + 1) 3))  _
theorem meas_start {P ps : List PT} (h : P.length ≤ 7) (g : ps.length ≤ 100) : meas P [] ps ≤ 1000 := Nat.le_trans (Nat.add_le_add (Nat.mul_le_mul_left 3 h) g) (Nat.le_of_ble_eq_true rfl)

/-- the refs of pairs, told by the old heap and by what is new -/
inductive PO (h₀ : Heap) (own : List (Addr × Obj)) : List Value → List PT → Prop
  | nil : PO h₀ own [] []
  | cons {vs : List Value} {ps : List PT} {p : PT} (a : Addr) (t u : Tok) (n : Nat) : h₀.get? a = some (twoObj p t u n) ∨ (a, twoObj p t u n) ∈ own → PO h₀ own vs ps → PO h₀ own (.ref a :: vs) (p :: ps)
theorem PO.mono {h₀ : Heap} {own own' : List (Addr × Obj)} {vs : List Value} {ps : List PT} (x : PO h₀ own vs ps) (hs : ∀ q ∈ own, q ∈ own') : PO h₀ own' vs ps := by
  induction x with
  | nil => exact .nil
  | cons a t u n e _ ih => exact .cons a t u n (e.imp_right (hs _)) ih
theorem PO.toPA {h₀ h : Heap} {L : Addr} {m : Str → Option Value} {own news : List (Addr × Obj)} {vs : List Value} {ps : List PT} (x : PO h₀ own vs ps) (F : Fr h₀ L h m) (N : News h₀ L h news) (hs : ∀ q ∈ own, q ∈ news) : PA h vs ps := by
  induction x with
  | nil => exact .nil
  | cons a t u n e _ ih => exact .cons a t u n (e.elim (fun e => F.keep _ _ e) fun e => (N _ (hs _ e)).1) ih
theorem PO.ofPA {h₀ : Heap} {own : List (Addr × Obj)} {vs : List Value} {ps : List PT} (x : PA h₀ vs ps) : PO h₀ own vs ps := by
  induction x with
  | nil => exact .nil
  | cons a t u n e _ ih => exact .cons a t u n (.inl e) ih
theorem PO.length {h₀ : Heap} {own : List (Addr × Obj)} {vs : List Value} {ps : List PT} (x : PO h₀ own vs ps) : vs.length = ps.length := by
  induction x with
  | nil => rfl
  | cons _ _ _ _ _ _ ih => simp [ih]
theorem PO.append {h₀ : Heap} {own : List (Addr × Obj)} {vs us : List Value} {ps qs : List PT} (x : PO h₀ own vs ps) (y : PO h₀ own us qs) : PO h₀ own (vs ++ us) (ps ++ qs) := by
  induction x with
  | nil => exact y
  | cons a t u n e _ ih => exact .cons a t u n e ih
theorem PO.one {h₀ : Heap} {own : List (Addr × Obj)} {a : Addr} {t u : Tok} {n : Nat} {p : PT} (e : h₀.get? a = some (twoObj p t u n) ∨ (a, twoObj p t u n) ∈ own) : PO h₀ own [.ref a] [p] := .cons a t u n e .nil
/-- the last one -/
theorem PO.last {h₀ : Heap} {own : List (Addr × Obj)} : ∀ {vs : List Value} {ps : List PT}, PO h₀ own vs ps → ps ≠ [] → ∃ vs' ps' a p t u n, vs = vs' ++ [.ref a] ∧ ps = ps' ++ [p] ∧ PO h₀ own vs' ps' ∧ (h₀.get? a = some (twoObj p t u n) ∨ (a, twoObj p t u n) ∈ own)
  | _, _, .nil, hn => absurd rfl hn
  | _, _, @PO.cons _ _ vs ps p a t u n e x, _ => by
    by_cases hp : ps = []
    · subst hp
      cases x
      exact ⟨[], [], a, p, t, u, n, rfl, rfl, .nil, e⟩
    · obtain ⟨vs', ps', a', p', t', u', n', rfl, rfl, y, e'⟩ := PO.last x hp
      exact ⟨.ref a :: vs', p :: ps', a', p', t', u', n', rfl, rfl, .cons a t u n e y, e'⟩

section
variable {prog : Program} {w : World} {A : Around} {E : Value → Shared → Prop} {s : Shared} {h₀ : Heap} {L wq f D : Addr} {m : Str → Option Value} {Q : Value → Shared → Prop} {own rest : List (Addr × Obj)} {ws fs : List Value} {k k' : Nat} {v x : Value} {o oD ow of : Obj}

theorem ne_nil_T {b : Addr} {wp : List PT} {kb : Nat} {p : PT} (F : Fr h₀ L s.heap m) (N : News h₀ L s.heap ((b, listOf #[] kb) :: (wq, listOf ws.toArray k) :: rest)) (hP : PO h₀ own ws (wp ++ [p])) (hs : ∀ q ∈ own, q ∈ rest) (ho : ∀ p' ∈ wp ++ [p], okP p') (hu : A.units + 64 < cLine)
    (h : Q (.bool true) s) : wpAny (model prog w) A (compareOp .NotEq (.ref wq) (.ref b)) Q E s := by
  have hl : s.heap.IsList wq ws.toArray := ⟨_, (N _ (List.mem_cons_of_mem _ List.mem_cons_self)).1, rfl, _, rfl⟩
  have hl' : s.heap.IsList b ([] : List Value).toArray := ⟨_, (N _ List.mem_cons_self).1, rfl, _, rfl⟩
  refine ne_pairs hl (hP.toPA F N fun q hq => List.mem_cons_of_mem _ (List.mem_cons_of_mem _ (hs q hq))) hl' .nil ho (fun _ hp => by cases hp) hu ?_
  rw [decide_eq_false (by simp)]
  exact h
theorem ne_nil_F {b : Addr} {kb : Nat} (N : News h₀ L s.heap ((b, listOf #[] kb) :: (wq, listOf ([] : List Value).toArray k) :: rest)) (hu : A.units + 64 < cLine)
    (h : Q (.bool false) s) : wpAny (model prog w) A (compareOp .NotEq (.ref wq) (.ref b)) Q E s := by
  have hl : s.heap.IsList wq ([] : List Value).toArray := ⟨_, (N _ (List.mem_cons_of_mem _ List.mem_cons_self)).1, rfl, _, rfl⟩
  have hl' : s.heap.IsList b ([] : List Value).toArray := ⟨_, (N _ List.mem_cons_self).1, rfl, _, rfl⟩
  refine ne_pairs hl .nil hl' .nil (fun _ hp => by cases hp) (fun _ hp => by cases hp) hu ?_
  exact h
theorem pop_N (F : Fr h₀ L s.heap m) (N : News h₀ L s.heap ((wq, listOf (ws ++ [v]).toArray k) :: rest)) (hne : ∀ q ∈ rest, q.1 ≠ wq) (hsz : ws.length + 1 ≤ sizeLine)
    (h : ∀ h' k', Fr h₀ L h' m → News h₀ L h' ((wq, listOf ws.toArray k') :: rest) → Q v { s with heap := h' }) : wpAny (model prog w) A (call (.builtin "list.pop") [.ref wq]) Q E s := by
  have z := N _ List.mem_cons_self
  refine pop_list z.1 (fun h' k' ho hs => h h' k' (F.change hs z.2.1 z.2.2) (news_set (pre := []) N (fun _ hp => by cases hp) hne hs ho)) hsz
theorem app_DW (F : Fr h₀ L s.heap m) (N : News h₀ L s.heap ((D, oD) :: (wq, listOf ws.toArray k) :: (f, of) :: own)) (hDall : ∀ q ∈ (wq, listOf ws.toArray k) :: (f, of) :: own, q.1 ≠ D) (hf : f ≠ wq) (offw : ∀ q ∈ own, q.1 ≠ wq) (offf : ∀ q ∈ own, q.1 ≠ f) (hsz : ws.length ≤ sizeLine)
    (h : ∀ h', Fr h₀ L h' m → News h₀ L h' ((wq, listOf (ws ++ [x]).toArray (k + 1)) :: (f, of) :: (D, oD) :: own) → (∀ q ∈ (D, oD) :: own, q.1 ≠ wq) → (∀ q ∈ (D, oD) :: own, q.1 ≠ f) → Q .none { s with heap := h' }) : wpAny (model prog w) A (call (.builtin "list.append") [.ref wq, x]) Q E s := by
  have z := N (wq, listOf ws.toArray k) (by simp)
  have hD : D ≠ wq := Ne.symm (hDall _ List.mem_cons_self)
  have hDf : D ≠ f := Ne.symm (hDall _ (List.mem_cons_of_mem _ List.mem_cons_self))
  refine append_at (hsz := by simpa using hsz) z.1 fun h' hs ho' => h h' (F.change hs z.2.1 z.2.2) ?_ ?_ ?_
  · have := news_set (pre := [(D, oD)]) N (fun q hq => by rw [List.mem_singleton.mp hq]; exact hD) (fun q hq => by
      rcases List.mem_cons.mp hq with rfl | hq
      · exact hf
      · exact offw q hq) hs ho'
    intro q hq
    refine this q ?_
    have e : (ws ++ [x]).toArray = ws.toArray.push x := by simp
    rw [e] at hq
    simp only [List.mem_cons, List.cons_append, List.nil_append] at hq ⊢
    rcases hq with e | e | e | hq
    · exact .inr (.inl e)
    · exact .inr (.inr (.inl e))
    · exact .inl e
    · exact .inr (.inr (.inr hq))
  · intro q hq
    rcases List.mem_cons.mp hq with rfl | hq
    · exact hD
    · exact offw q hq
  · intro q hq
    rcases List.mem_cons.mp hq with rfl | hq
    · exact hDf
    · exact offf q hq
theorem app_f (F : Fr h₀ L s.heap m) (N : News h₀ L s.heap ((wq, ow) :: (f, listOf fs.toArray k) :: own)) (hf : wq ≠ f) (hne : ∀ q ∈ own, q.1 ≠ f) (hsz : fs.length ≤ sizeLine)
    (h : ∀ h', Fr h₀ L h' m → News h₀ L h' ((wq, ow) :: (f, listOf (fs ++ [x]).toArray (k + 1)) :: own) → Q .none { s with heap := h' }) : wpAny (model prog w) A (call (.builtin "list.append") [.ref f, x]) Q E s := by
  have z := N (f, listOf fs.toArray k) (by simp)
  refine append_at (hsz := by simpa using hsz) z.1 fun h' hs ho' => h h' (F.change hs z.2.1 z.2.2) ?_
  have := news_set (pre := [(wq, ow)]) N (fun q hq => by rw [List.mem_singleton.mp hq]; exact hf) hne hs ho'
  have e : (fs ++ [x]).toArray = fs.toArray.push x := by simp
  rw [e]
  exact this

theorem News.tl {h : Heap} {q : Addr × Obj} {news : List (Addr × Obj)} (N : News h₀ L h (q :: news)) : News h₀ L h news := fun p hp => N p (List.mem_cons_of_mem _ hp)
theorem two_at {h : Heap} {b : Addr} {o : Obj} {news : List (Addr × Obj)} (hbo : h₀.get? b = some o ∨ (b, o) ∈ own) (F : Fr h₀ L h m) (N : News h₀ L h news) (hs : ∀ q ∈ own, q ∈ news) : h.get? b = some o :=
  hbo.elim (fun e => F.keep _ _ e) fun e => (N _ (hs _ e)).1
theorem notin_at {b : Addr} {p : PT} {t u : Tok} {n : Nat} {fp : List PT} {res : Bool} (F : Fr h₀ L s.heap m) (N : News h₀ L s.heap ((wq, ow) :: (f, listOf fs.toArray k) :: own)) (pf : PO h₀ own fs fp) (hbo : h₀.get? b = some (twoObj p t u n) ∨ (b, twoObj p t u n) ∈ own)
    (hof : ∀ p ∈ fp, okP p) (hop : okP p) (hr : (!decide (p ∈ fp)) = res) (hu : A.units + 65 < cLine) (h : Q (.bool res) s) : wpAny (model prog w) A (compareOp .NotIn (.ref b) (.ref f)) Q E s := by
  have hs : ∀ q ∈ own, q ∈ (wq, ow) :: (f, listOf fs.toArray k) :: own := fun q hq => List.mem_cons_of_mem _ (List.mem_cons_of_mem _ hq)
  refine notin_pairs ⟨_, (N _ (List.mem_cons_of_mem _ List.mem_cons_self)).1, rfl, _, rfl⟩ (pf.toPA F N hs) (two_at hbo F N hs) hof hop hu ?_
  rw [hr]; exact h
end
section
variable {w : World} {mean : ExcName → Option Value} {mg mb : Str → Option Value} {A : Around} {h₀ : Heap}
theorem strip_callT (G : Gd w mean mg mb h₀) (hh : A.handled = none) (hd : A.depth + 12 < recursionLimit) (hu : A.units + 60 < cLine) (s' : Shared) (x : Tx) (tk : Tok) (Q' : Value → Shared → Prop) (hk : ∀ b o, h₀.get? b = some o → s'.heap.get? b = some o) (hx : x.length ≤ 4096)
    (h : ∀ h' g' n' tk', (∀ b o, s'.heap.get? b = some o → h'.get? b = some o) → (AllBare s'.gens → AllBare g') → Q' (.str (toS (shorn x)) tk') { s' with heap := h', gens := g', toks := n' }) :
    wpAny (model pgm w) A (call (.ref 35) [.str (toS x) tk]) Q' (fun _ _ => False) s' := by
  obtain ⟨ah, dp, fr, gd, un⟩ := A
  cases hh
  refine wpAny_call (strip_walk w mean mg mb (toS x) tk (by rw [toS_length]; exact hx) dp un fr gd s' (resOf Q' fun _ _ => False) (G.keeps hk) hd hu fun h' g' n' tk' hk' hb => ?_)
  rw [toS_cps]
  exact h h' g' n' tk' hk' hb
theorem named_callT (G : Gd w mean mg mb h₀) (hh : A.handled = none) (hd : A.depth + 12 < recursionLimit) (hu : A.units + 60 < cLine) (s' : Shared) (x : Tx) (tk : Tok) (Q' : Value → Shared → Prop) (hk : ∀ b o, h₀.get? b = some o → s'.heap.get? b = some o) (hx : x.length ≤ 4096)
    (h : ∀ h' g' n' tk', (∀ b o, s'.heap.get? b = some o → h'.get? b = some o) → (AllBare s'.gens → AllBare g') → Q' (.str (toS (named pE x)) tk') { s' with heap := h', gens := g', toks := n' }) :
    wpAny (model pgm w) A (call (.ref 21) [.str (toS x) tk]) Q' (fun _ _ => False) s' := by
  obtain ⟨ah, dp, fr, gd, un⟩ := A
  cases hh
  refine wpAny_call (named_walk w mean mg mb (toS x) tk (by rw [toS_length]; exact hx) dp un fr gd s' (resOf Q' fun _ _ => False) (G.keeps hk) (room _ hd) (room _ hu) fun h' n' tk' hk' => ?_)
  rw [toS_cps]
  exact h h' s'.gens n' tk' hk' id
end
end Mine
end
/- REACH -/
section
open PySem PySem.W PyProof.Rows
set_option maxRecDepth 100000
set_option genSizeOf false
set_option genInjectivity false
namespace Mine
open PySem.Builtin PySem.Builtin.Str

theorem leSzA {k : Nat} {xs : List Value} (h : xs.length ≤ k) (q : Nat.ble k 16777216 = true := by exact rfl) : xs.toArray.size ≤ sizeLine := leSz h q
theorem leSzS {a k : Nat} (h : a ≤ k) (q : Nat.ble (k + 1) 16777216 = true) : a + 1 ≤ sizeLine := leSz (Nat.succ_le_succ h) q
theorem leSzP {k : Nat} {xs : List Value} {v : Value} (h : xs.length ≤ k) (q : Nat.ble (k + 1) 16777216 = true) : (xs ++ [v]).length ≤ sizeLine := by rw [List.length_append]; exact leSzS h q
structure RNames (f wq : Addr) (m : Str → Option Value) : Prop where
  found : m (Str.ofString "found") = some (.ref f)
  waiting : m (Str.ofString "waiting") = some (.ref wq)
structure RAt (P ps : List PT) (h₀ : Heap) (L f wq : Addr) (h' : Heap) (m' : Str → Option Value) (fs ws : List Value) (k1 k2 : Nat) (own : List (Addr × Obj)) (fp wp : List PT) : Prop where
  names : RNames f wq m'
  F : Fr h₀ L h' m'
  N : News h₀ L h' ((wq, listOf ws.toArray k2) :: (f, listOf fs.toArray k1) :: own)
  ne : wq ≠ f
  offw : ∀ q ∈ own, q.1 ≠ wq
  offf : ∀ q ∈ own, q.1 ≠ f
  pf : PO h₀ own fs fp
  pw : PO h₀ own ws wp
  rp : RP P ps fp wp
inductive RInv (P ps : List PT) (h₀ : Heap) (L f wq : Addr) (s : Shared) (n : Nat) (s' : Shared) : Prop
  | mk (h' : Heap) (g' : Array GenState) (tk : Nat) (m' : Str → Option Value) (fs ws : List Value) (k1 k2 : Nat) (own : List (Addr × Obj)) (fp wp : List PT) (eq : s' = { s with heap := h', gens := g', toks := tk }) (bare : AllBare s.gens → AllBare g')
    (at' : RAt P ps h₀ L f wq h' m' fs ws k1 k2 own fp wp) (hn : n = meas P fp wp)
inductive RPost (P ps : List PT) (h₀ : Heap) (L f wq : Addr) (s : Shared) (n : Nat) (fl : Flow) (s' : Shared) : Prop
  | mk (flow : fl = .next) (k : Nat) (hk : k < n) (inv : RInv P ps h₀ L f wq s k s')
inductive RFin (P ps : List PT) (h₀ : Heap) (L f wq : Addr) (s : Shared) (fl : Flow) (s' : Shared) : Prop
  | mk (flow : fl = .next) (h' : Heap) (g' : Array GenState) (tk : Nat) (m' : Str → Option Value) (fs : List Value) (k1 k2 : Nat) (own : List (Addr × Obj)) (fp : List PT) (eq : s' = { s with heap := h', gens := g', toks := tk }) (bare : AllBare s.gens → AllBare g') (at' : RAt P ps h₀ L f wq h' m' fs [] k1 k2 own fp [])

section
variable {w : World} {A : Around} {P ps : List PT} {h₀ : Heap} {L f wq : Addr} {s : Shared}
theorem reach_loop {test : Expr} {body : List Stmt} {env : Env} {R : Result → Shared → Prop} {s₁ : Shared} {n : Nat} (h0 : RInv P ps h₀ L f wq s n s₁) (hn : n ≤ 1000)
    (turn : ∀ (h' : Heap) (g' : Array GenState) (tk : Nat) (m' : Str → Option Value) (fs ws : List Value) (k1 k2 : Nat) (own : List (Addr × Obj)) (fp wp : List PT), (AllBare s.gens → AllBare g') → RAt P ps h₀ L f wq h' m' fs ws k1 k2 own fp wp → meas P fp wp ≤ 1000 →
      wpAny (model pgm w) A (isTrue test env (eval test env)) (fun b s₂ => if b = true then wpAny (model pgm w) A (execs body env) (RPost P ps h₀ L f wq s (meas P fp wp)) (fun _ _ => False) s₂
        else wpAny (model pgm w) A (execs [] env) (RFin P ps h₀ L f wq s) (fun _ _ => False) s₂) (fun _ _ => False) { s with heap := h', gens := g', toks := tk })
    (done : ∀ s', RFin P ps h₀ L f wq s .next s' → R (.ok .next) s') :
    codeAny (model pgm w) A (.whileLoop test body [] env) R s₁ := by
  refine codeAny_whileLoop (fun n s' => n ≤ 1000 ∧ RInv P ps h₀ L f wq s n s') ?_ n ⟨hn, h0⟩
  rintro n s' ⟨hn, h', g', tk, m', fs, ws, k1, k2, own, fp, wp, rfl, hb, hR, rfl⟩
  refine wpAny_mono (turn h' g' tk m' fs ws k1 k2 own fp wp hb hR hn) (fun b s₂ h₂ => ?_) fun _ _ e => e.elim
  cases b with
  | true =>
    rw [if_pos rfl] at h₂ ⊢
    refine wpAny_mono h₂ (fun fl s₃ h₃ => ?_) fun _ _ e => e.elim
    obtain ⟨rfl, k, hk, hI⟩ := h₃
    exact ⟨k, hk, Nat.le_trans (Nat.le_of_lt hk) hn, hI⟩
  | false =>
    rw [if_neg Bool.false_ne_true] at h₂ ⊢
    refine wpAny_mono h₂ (fun fl s₃ h₃ => ?_) fun _ _ e => e.elim
    obtain ⟨rfl, _⟩ := id h₃
    exact done s₃ h₃
end

theorem RInv.start {P ps : List PT} {L f wq D : Addr} {s : Shared} {h' : Heap} {m' : Str → Option Value} {vs : List Value} {k1 k2 : Nat} {o : Obj} (F0 : Fr s.heap L h' m') (N0 : News s.heap L h' [(D, o), (wq, listOf vs.toArray k2), (f, listOf #[] k1)])
    (hf : m' (Str.ofString "found") = some (.ref f)) (hw : m' (Str.ofString "waiting") = some (.ref wq)) (hlt0 : wq < D ∧ f < D) (hlt1 : ∀ q ∈ [(f, listOf #[] k1)], q.1 < wq) (hp : PA s.heap vs ps) (hps : ∀ p ∈ ps, p ∈ P) :
    ∀ tk, RInv P ps s.heap L f wq s (meas P [] ps) { s with heap := h', toks := tk } := by
  intro tk
  refine ⟨h', s.gens, tk, m', [], vs, k1, k2, [(D, o)], [], ps, rfl, id, ⟨⟨hf, hw⟩, F0, fun q hq => N0 q ?_, Nat.ne_of_gt (hlt1 _ (List.mem_singleton.mpr rfl)), ?_, ?_, .nil, PO.ofPA hp, ⟨List.nodup_nil, (fun _ h => by cases h), hps, (fun _ h => by cases h), fun q hq => .inr hq⟩⟩, rfl⟩
  · simp only [List.mem_cons] at hq ⊢
    rcases hq with e | e | e | e
    · exact .inr (.inl e)
    · exact .inr (.inr (.inl e))
    · exact .inl e
    · cases e
  · intro q hq
    rw [List.mem_singleton.mp hq]
    exact Nat.ne_of_gt hlt0.1
  · intro q hq
    rw [List.mem_singleton.mp hq]
    exact Nat.ne_of_gt hlt0.2

local macro_rules | `(tactic| walk_at $s:str) => `(tactic| k_extra $s)
set_option maxHeartbeats 4000000 in
theorem reach_walk (w : World) (mean : ExcName → Option Value) (mg mb : Str → Option Value) (a : Addr) (vs : List Value) (ps P : List PT) (hP : P.length ≤ 7) (hps : ∀ p ∈ ps, p ∈ P) (hvs : vs.length ≤ 100) (hc : ClosedP P) (hok : ∀ p ∈ P, okP p ∧ p.1.length ≤ 4096 ∧ p.2.length ≤ 4096)
   (dp un : Nat) (fr : Option (List Env)) (gd : Option (List Code)) (s : Shared) (R : Result → Shared → Prop) (G : Gd w mean mg mb s.heap) (hd1 : dp + 16 < recursionLimit) (hu1 : un + 200 < cLine)
   (hl : s.heap.IsList a vs.toArray) (hp : PA s.heap vs ps)
   (kR : ∀ (h' : Heap) (g' : Array GenState) (n' : Nat) (D : Addr) (us : List Value) (qs : List PT), (∀ b o, s.heap.get? b = some o → h'.get? b = some o) → (AllBare s.gens → AllBare g') → h'.PlainList D us.toArray → s.heap.get? D = none → PA h' us qs → qs.Nodup → SortedP qs →
     (∀ p ∈ ps, p ∈ qs) → (∀ p ∈ qs, p ∈ P) → ClosedP qs → R (.ok (.ret (.ref D))) { s with heap := h', gens := g', toks := n' })
   : codeAny (model pgm w) ⟨none, dp, fr, gd, un⟩ (.call (.ref 115) ⟨[Value.ref a], []⟩) R s := by
  have dummy : PySem.Challenge.rw_wa0019_01 = PySem.Challenge.rw_wa0019_01 → Mine.hd.heap_39 = Mine.hd.heap_39 → True := by
    k_fill
    intros; trivial
  clear dummy
  k_with_none
  (k_with "room" => (((try dsimp only [Around.deeper]); first | exact roomT _ _ hd1 rfl | exact roomT _ _ hu1 rfl | exact room _ hd1 rfl | exact room _ hu1 rfl | exact room0 hd1)))
  (k_with "look me" => (first
    | exact rfl
    | with_reducible assumption
    | exact if_pos rfl
    | (refine (if_neg (by decide)).trans ?_; walk_at "look me")))
  (k_with "eval Name" => ((with_reducible show wpAny _ _ (eval (Expr.Name _ _) (envOf _ _ _ _ _)) _ _ _; k_dflt (refine' ld ?k1 ?k2 ?_; (case k1 => with_reducible assumption); (case k2 => ((try dsimp only); walk_at "look me"))))))
  (k_with "asm" => (with_reducible assumption))
  (k_with "fits" => ((first | exact leSz szw rfl | exact leSz szf rfl | exact leSzS szw rfl | exact leSzP szw rfl)))
  (k_with "compareOp NotEq ref ref" => (((with_reducible show wpAny _ _ (compareOp CmpOp.NotEq (Value.ref _) (Value.ref _)) _ _ _); k_dflt ((first | (refine ne_nil_F (by walk_at "asm") (by walk_at "room") ?_) | (refine ne_nil_T (by walk_at "asm") (by walk_at "asm") (by walk_at "asm") (fun q hq => List.mem_cons_of_mem _ hq) (by walk_at "asm") (by walk_at "room") ?_)); (rename News _ _ _ _ => NN9); (replace NN9 := News.tl NN9)))))
  (k_with "getMethod ref" => (((with_reducible show wpAny _ _ (getMethod (Value.ref _) (PySem.Str.ofString "pop") _) _ _ _); k_dflt (refine listMethod_K (by walk_at "asm") List.mem_cons_self PySem.F.slot_list_pop PySem.F.type_list_pop ?_))))
  (k_with "call builtin:list.pop" => (((with_reducible show wpAny _ _ (call (Value.builtin "list.pop") [Value.ref _]) _ _ _); k_dflt (refine pop_N (by walk_at "asm") (by walk_at "asm") (by walk_at "asm") (by walk_at "fits") ?_); (intro h'9 k'9 F'9 N'9))))
  (k_with "compareOp NotIn ref ref" => (((with_reducible show wpAny _ _ (compareOp CmpOp.NotIn (Value.ref _) (Value.ref _)) _ _ _); k_dflt (refine notin_at (by walk_at "asm") (by walk_at "asm") (by walk_at "asm") (by walk_at "asm") (by walk_at "asm") (by walk_at "asm") (by walk_at "asm") (by walk_at "room") ?_))))
  (k_with "call builtin:list.append" => (((with_reducible show wpAny _ _ (call (Value.builtin "list.append") [Value.ref _, _]) _ _ _); k_dflt (first | ((refine app_DW (by walk_at "asm") (by walk_at "asm") (by walk_at "asm") (by walk_at "asm") (by walk_at "asm") (by walk_at "asm") (by walk_at "fits") ?_); (intro h'9 F'9 N'9 offw9 offf9)) | ((refine app_f (by walk_at "asm") (by walk_at "asm") (by walk_at "asm") (by walk_at "asm") (by walk_at "fits") ?_); (intro h'9 F'9 N'9))))))
  (k_with "eval ListComp" => (((with_reducible show wpAny _ _ (eval (Expr.ListComp _ _ _ _) _) _ _ _); k_dflt ((first | (refine comp_two (f := shorn) (by walk_at "asm") (by walk_at "asm") (by walk_at "asm") rfl (by (try dsimp only); walk_at "look me") (two_at (by walk_at "asm") (by walk_at "asm") (by walk_at "asm") (by intro q hq; simp only [List.mem_cons]; simp [hq])) rfl rfl (by decide) (by decide) rfl (by decide) rfl rfl (mg_of (by walk_at "asm") (Top.g (by walk_at "asm")) (by k_is)) (Gd.K (by walk_at "asm") _ _ (by k_is)) rfl (by walk_at "asm") (by decide) (strip_callT (by walk_at "asm") rfl (by walk_at "room") (by walk_at "room")) ?_) | (refine comp_two (f := named pE) (by walk_at "asm") (by walk_at "asm") (by walk_at "asm") rfl (by (try dsimp only); walk_at "look me") (two_at (by walk_at "asm") (by walk_at "asm") (by walk_at "asm") (by intro q hq; simp only [List.mem_cons]; simp [hq])) rfl rfl (by decide) (by decide) rfl (by decide) rfl rfl (mg_of (by walk_at "asm") (Top.g (by walk_at "asm")) (by k_is)) (Gd.K (by walk_at "asm") _ _ (by k_is)) rfl (by walk_at "asm") (by decide) (named_callT (by walk_at "asm") rfl (by walk_at "room") (by walk_at "room")) ?_)); (intro h'9 g'9 tk'9 D'9 t'9 u'9 n'9 F'9 N'9 hD'9 hb'9)))))
  (k_with "exec While" => ((refine stop_here ?_)))
  (k_with "call builtin:sorted" => ((refine stop_here ?_)))
  (k_with "call type:list" => (((rename Fr _ _ _ _ => kF9); (refine list_copyK kF9 (by assumption) (Heap.IsList.at (by assumption) fun o e => Fr.keep kF9 _ o e) ?_ (leSzA hvs rfl)); intro l9 c9 h9 F9 N9 lt9)))
  have kX := G.K
  have kT := G.T
  refine enter G (room0 hd1) (by k_is) (by k_is) (BindsTo.of_eq rfl) (locs rfl) (by decide) rfl rfl rfl ?_
  intro L' h' tk' eL' kk F' N'
  (try dsimp only)
  (try k_fold)
  k_steps
  rename Fr _ _ _ _ => F0
  rename News _ _ _ _ => N0
  rename _ ∧ _ < _ => hlt0
  rename (∀ q ∈ _, Prod.fst q < _) => hlt1
  delta Stop
  refine wpAny_While ?_
  have hlp : ps.length = vs.length := hp.length.symm
  have I0 := RInv.start (P := P) (s := s) F0 N0 (by (try dsimp only); walk_at "look me") (by (try dsimp only); walk_at "look me") hlt0 hlt1 hp hps
  refine reach_loop (I0 _) (meas_start hP (hlp ▸ hvs)) ?turn ?done
  case done =>
    rintro s' ⟨_, h1, g1, tk1, m1, fs, k1, k2, own, fp, rfl, hb1, X⟩
    obtain ⟨⟨nf, nw⟩, F1, N1, ne1, offw, offf, pf, pw, rp⟩ := X
    clear F0 N0
    k_steps
    delta Stop
    rename Fr _ _ _ _ => FF
    rename News _ _ _ _ => NN
    have lenf : fp.length ≤ 7 := Nat.le_trans (nodup_len rp.nd rp.fsub) hP
    have lenfs := pf.length
    refine sorted_pairs (vs := fs) ⟨_, (NN _ (List.mem_cons_of_mem _ List.mem_cons_self)).1, rfl, _, rfl⟩ (pf.toPA FF NN fun q hq => List.mem_cons_of_mem _ (List.mem_cons_of_mem _ hq)) rp.nd (lenfs ▸ leLt lenf) (by walk_at "room") fun h2 D us hD hl2 hPA hperm hsort hk2 _ => ?_
    have hmem : ∀ p, p ∈ us.map (pairOf _) ↔ p ∈ fp := fun p => hperm.mem_iff
    refine kR _ g1 _ D us _ (fun b o e => hk2 b o (FF.keep b o e)) hb1 hl2 ?_ hPA (hperm.nodup_iff.mpr rp.nd) hsort ?_ ?_ ?_
    · cases e : s.heap.get? D with
      | none => rfl
      | some o => rw [FF.keep D o e] at hD; cases hD
    · intro p hp'
      rw [hmem]
      exact (rp.init p hp').elim id fun h => by cases h
    · intro p hp'
      rw [hmem] at hp'
      exact rp.fsub p hp'
    · intro p hp'
      rw [hmem] at hp' ⊢
      rw [hmem]
      exact ⟨(rp.closed p hp').1.elim id (fun h => by cases h), (rp.closed p hp').2.elim id (fun h => by cases h)⟩
  case turn =>
    intro h1 g1 tk1 m1 fs ws k1 k2 own fp wp hb1 X hm1
    obtain ⟨⟨nf, nw⟩, F1, N1, ne1, offw, offf, pf, pw, rp⟩ := X
    have ne2 := Ne.symm ne1
    clear F0 N0
    have szf : fs.length ≤ 7 := Nat.le_trans (Nat.le_of_eq pf.length) (Nat.le_trans (nodup_len rp.nd rp.fsub) hP)
    have lenw : wp.length ≤ 1000 := Nat.le_trans (Nat.le_add_left _ _) hm1
    by_cases hw : wp = []
    · subst hw
      cases pw
      k_steps
      rename Fr _ _ _ _ => FF
      rename News _ _ _ _ => NN
      exact ⟨rfl, _, _, _, m1, fs, _, _, own, fp, rfl, hb1, ⟨⟨nf, nw⟩, FF, NN, ne1, offw, offf, pf, .nil, rp⟩⟩
    · obtain ⟨ws', wp', b, p, t, u, n, rfl, rfl, pw', hbo⟩ := pw.last hw
      have hokw : ∀ p' ∈ wp' ++ [p], okP p' := fun p' hp' => (hok p' (rp.wsub p' hp')).1
      have hof : ∀ p' ∈ fp, okP p' := fun p' hp' => (hok p' (rp.fsub p' hp')).1
      have hop : okP p := hokw p (by simp)
      have hlen := (hok p (rp.wsub p (by simp))).2
      have hnw : ∀ q ∈ (_, listOf fs.toArray k1) :: own, q.1 ≠ _ := fun q hq => (List.mem_cons.mp hq).elim (fun e => by rw [e]; exact ne2) (offw q)
      have lenw2 : wp'.length ≤ 1000 := Nat.le_trans (Nat.le_add_right _ 1) ((List.length_append (as := wp') (bs := [p])) ▸ lenw)
      have szw : ws'.length ≤ 1000 := Nat.le_trans (Nat.le_of_eq pw'.length) lenw2
      by_cases hin : p ∈ fp
      · have hres : (!decide (p ∈ fp)) = false := by rw [decide_eq_true hin]; rfl
        k_steps
        rename Fr _ _ _ _ => FF
        rename News _ _ _ _ => NN
        exact ⟨rfl, meas P fp wp', meas_old P fp wp' p, _, _, _, _, fs, ws', _, _, own, fp, wp', rfl, hb1, ⟨⟨by (try dsimp only); walk_at "look me", by (try dsimp only); walk_at "look me"⟩, FF, NN, ne1, offw, offf, pf, pw', rp.old hin⟩, rfl⟩
      · have hres : (!decide (p ∈ fp)) = true := by rw [decide_eq_false hin]; rfl
        k_steps
        rename Fr _ _ _ _ => FF
        rename News _ _ _ _ => NN
        rename (∀ q ∈ _, Prod.fst q ≠ _) => offf9
        rename (AllBare _ → AllBare _) => hb3
        revert hb3
        rename (AllBare _ → AllBare _) => hb2
        intro hb3
        have rn := rp.new hc hin
        have hsub : ∀ (x y : Addr × Obj), ∀ q ∈ own, q ∈ x :: y :: own := fun x y q hq => List.mem_cons_of_mem _ (List.mem_cons_of_mem _ hq)
        exact ⟨rfl, _, meas_new rn, _, _, _, _, fs ++ [.ref b], ws' ++ [.ref _] ++ [.ref _], _, _, _ :: _ :: own, fp ++ [p], wp' ++ [SP p] ++ [NP p], rfl, fun h => hb3 (hb2 (hb1 h)), ⟨⟨by (try dsimp only); walk_at "look me", by (try dsimp only); walk_at "look me"⟩, FF, NN, ne1, by assumption, offf9,
          (pf.mono (hsub _ _)).append (PO.one (hbo.imp_right (hsub _ _ _))), ((pw'.mono (hsub _ _)).append (PO.one (.inr (List.mem_cons_of_mem _ List.mem_cons_self)))).append (PO.one (.inr List.mem_cons_self)), rn⟩, rfl⟩
end Mine
end
/- LISTD -/
section
open PySem PySem.W PyProof.Rows
set_option maxRecDepth 100000
set_option genSizeOf false
set_option genInjectivity false
namespace Mine
open Builtin Builtin.List

section
variable {prog : Program} {w : World} {A : Around} {s : Shared} {R : Result → Shared → Prop} {kvs : List (Str × Value)} {d : Addr}
noncomputable abbrev KS (prog : Program) (w : World) := PySem.strKind prog w

theorem SA.ofItems : ∀ {l : List Value} {xs : List Str}, l.length = xs.length → (∀ (j : Nat) (v : Value), l[j]? = some v → ∃ (x : Str) (t : Tok), xs[j]? = some x ∧ v = Value.str x t) → SA l xs
  | [], [], _, _ => .nil
  | [], _ :: _, h, _ => by simp at h
  | _ :: _, [], h, _ => by simp at h
  | v :: l, y :: xs, h, hj => by
    obtain ⟨x, t, e, rfl⟩ := hj 0 v rfl
    cases e
    exact .cons t rfl (SA.ofItems (by simpa using h) fun j u hu => hj (j + 1) u (by simpa using hu))

theorem hint_dict {Q : Bool → Shared → Prop} {E : Value → Shared → Prop} (hd : (d == sysModules) = false) (hm : s.heap.DictOf (KS prog w) d kvs) (hlen : kvs.length ≤ 100) (h : ∀ r tk, Q r { s with toks := tk }) : wpAny (model prog w) A (listLengthHint (.ref d)) Q E s := by
  have hT : s.TypeIs (.ref d) "dict" := hm.typeIs
  have e1 : splitId "dict.__len__" = some ("dict", "__len__") := by decide
  have e2 : (Value.type "dict" == Value.type "dict") = true := by rfl
  unfold listLengthHint
  refine wpAny_bind (wpAny_specialOf hT F.slot_dict_len.lookup ?_)
  dsimp only
  simp only [e1]
  refine wpAny_bind (wpAny_isInstance hT F.sub_dict_dict ?_)
  simp only [Bool.not_true, Bool.false_eq_true, if_false]
  show wpAny _ A (if (true : Bool) = true then _ else _) _ _ _
  rw [if_pos rfl]
  refine wpAny_bind (wpAny_typeOf hT ?_)
  exact wpAny_pure (h _ s.toks)

theorem extend_dict (hh : A.handled = none) (hd : (d == sysModules) = false) (S : Addr) (hdS : d ≠ S) {c₀ : Nat} (hS : s.heap.get? S = some (listOf #[] c₀)) (hm : s.heap.DictOf (KS prog w) d kvs) (hlen : kvs.length ≤ 100)
    (h : ∀ h' tk vs c, (∀ b o, b ≠ S → s.heap.get? b = some o → h'.get? b = some o) → h'.get? S = some (listOf vs.toArray c) → SA vs (kvs.map (·.1)) → R (.ok (.ret .none)) { s with heap := h', toks := tk }) :
    wpAny (model prog w) A.in1 (listExtendWith (.ref S) (.ref d) .none)
      (fun fin s' => match fin with | .done f => R (.ok f) s' | .again c' => c'.quiet = true ∧ codeAny (model prog w) A c' R s') (fun e s' => R (.error e) s') s := by
  have hT : s.TypeIs (.ref d) "dict" := hm.typeIs
  obtain ⟨ep, hAt⟩ := hm.dictAt
  unfold listExtendWith
  refine wpAny_bind (wpAny_typeOf hT ?_)
  have e1 : listSameRef (.ref S) (.ref d) = false := by simp [listSameRef, Ne.symm hdS]
  have e2 : (Value.type "dict" == Value.type "list") = false := by decide
  have e3 : (Value.type "dict" == Value.type "tuple") = false := by decide
  simp only [e1, e2, e3, Bool.or_false, Bool.false_eq_true, if_false]
  refine wpAny_bind (wpAny_pyIter_dict hd hAt (wpAny_bind (wpAny_holding ?_)))
  have hAt2 := hAt.push { cls := .type "dict_keyiterator", data := .fields #[.ref d, .int 0 0, .int kvs.length 0, .int ep 0] }
  have hIn : (s.heap.push { cls := .type "dict_keyiterator", data := .fields #[.ref d, .int 0 0, .int kvs.length 0, .int ep 0] }).get? s.heap.objs.size = some { cls := .type "dict_keyiterator", data := .fields #[.ref d, .int 0 0, .int kvs.length 0, .int ep 0] } := Heap.get?_push_size _ rfl
  have hS2 : (s.heap.push { cls := .type "dict_keyiterator", data := .fields #[.ref d, .int 0 0, .int kvs.length 0, .int ep 0] }).get? S = some (listOf #[] c₀) := Heap.get?_push_of_some _ hS
  have hk2 : ∀ b o, s.heap.get? b = some o → (s.heap.push { cls := .type "dict_keyiterator", data := .fields #[.ref d, .int 0 0, .int kvs.length 0, .int ep 0] }).get? b = some o := fun b o e => Heap.get?_push_of_some _ e
  have hbI : ∀ b o, s.heap.get? b = some o → b ≠ s.heap.objs.size := fun b o e => Nat.ne_of_lt (Heap.lt_size e)
  have hIs : S ≠ s.heap.objs.size := Nat.ne_of_lt (Heap.lt_size hS)
  have hId : d ≠ s.heap.objs.size := Nat.ne_of_lt hAt.lt_size
  generalize s.heap.push { cls := .type "dict_keyiterator", data := .fields #[.ref d, .int 0 0, .int kvs.length 0, .int ep 0] } = H at *
  generalize s.heap.objs.size = I at *
  refine hint_dict (s := { s with heap := H }) hd hAt2.dictOf hlen fun r tk => ?_
  have e4 : (r || ["set", "frozenset", "dict", "dict_keys", "dict_values", "dict_items"].any (Value.type "dict" == .type ·)) = true := by
    cases r <;> rfl
  show wpAny _ A.in1 (if (r || ["set", "frozenset", "dict", "dict_keys", "dict_values", "dict_items"].any (Value.type "dict" == .type ·)) = true then _ else _) _ _ _
  rw [if_pos e4]
  refine wpAny_bind (wpAny_rule (wpAny_bind ?_))
  unfold listTouch
  refine wpAny_bind (listUpdate_at hS2 rfl ?_ (hsz := Nat.zero_le _) (hsz2 := by rw [sizeLine_eq]; exact (by decide : 1 ≤ 16777216 + 1)))
  have hS3 := get?_update_seq hS2 (fun x : Array Value => x.push .none)
  refine listUpdate_at hS3 rfl ?_ (hsz := by rw [sizeLine_eq]; exact (by decide : 1 ≤ 16777216)) (hsz2 := Nat.zero_le _)
  have hS4 := get?_update_seq hS3 (fun x : Array Value => x.pop)
  have oth : ∀ b o, b ≠ S → H.get? b = some o → ((H.update S (Obj.mapSeq fun x => x.push .none)).update S (Obj.mapSeq fun x => x.pop)).get? b = some o := fun b o hb e =>
    (Heap.get?_update_ne _ _ _ _ hb).trans ((Heap.get?_update_ne _ _ _ _ hb).trans e)
  have W := (Walks.dictKeys (prog := prog) (w := w) (knd := KS prog w) (A := A.in1) hh I d hId kvs ep).toS
  refine wpAny_pure ⟨plainId_quiet F.plain_extend_loop _, codeAny_extend_loopS W (by rw [sizeLine_eq]; exact Nat.le_trans hlen (by decide)) S (by simp [hIs, Ne.symm hdS]) _ kvs.length 0 _ #[] _ rfl (Nat.zero_le _) ⟨⟨_, oth _ _ (Ne.symm hIs) hIn, rfl, rfl⟩, hAt2.at' fun o e => oth _ o hdS e⟩ (by simpa using hS4) (ItemsOf.nil _) fun s' acc c' hm' hS' hacc => ?_⟩
  obtain ⟨h₁, g₁, d₁, t₁, o₁⟩ := s'
  have hg : g₁ = s.gens := hm'.gens
  have hdr : d₁ = s.drawn := hm'.drawn
  have hos : o₁ = s.os := hm'.os
  subst hg hdr hos
  refine h h₁ t₁ acc.toList c' (fun b o hb e => hm'.heap b o ?_ (oth b o hb (hk2 b o e))) (by rw [Array.toArray_toList]; exact hS') (SA.ofItems ?_ fun j v hv => ?_)
  · simp [hb, hbI b o e]
  · simp [hacc.1]
  · obtain ⟨k, x, e1, e2⟩ := hacc.2 j v (by simpa using hv)
    obtain ⟨t, rfl⟩ := Value.isStrOf_shape e2
    exact ⟨k, t, by simp [e1], rfl⟩

theorem list_dict {Q : Value → Shared → Prop} {E : Value → Shared → Prop} (hh : A.handled = none) (hd : (d == sysModules) = false) (hm : s.heap.DictOf (KS prog w) d kvs) (hlen : kvs.length ≤ 100)
    (h : ∀ h' tk vs c, (∀ b o, s.heap.get? b = some o → h'.get? b = some o) → h'.get? s.heap.objs.size = some (listOf vs.toArray c) → SA vs (kvs.map (·.1)) → Q (.ref s.heap.objs.size) { s with heap := h', toks := tk }) :
    wpAny (model prog w) A (call (.type "list") [.ref d]) Q E s := by
  have hdS : d ≠ s.heap.objs.size := by obtain ⟨ep, x⟩ := hm.dictAt; exact Nat.ne_of_lt x.lt_size
  have hlt : ∀ b o, s.heap.get? b = some o → b ≠ s.heap.objs.size := fun b o e => Nat.ne_of_lt (Heap.lt_size e)
  refine callType_codes (Q₁ := fun obj s₁ => obj = .ref s.heap.objs.size ∧ s₁ = { s with heap := s.heap.push (listOf #[] 0) }) F.called_list (F.typeCall_list_1 _) F.entry_list_init
    (code_list_new _ ⟨rfl, rfl⟩) fun obj s₁ h₁ => ?_
  obtain ⟨rfl, rfl⟩ := h₁
  have hS : (s.heap.push (listOf #[] 0)).get? s.heap.objs.size = some (listOf #[] 0) := Heap.get?_push_size _ rfl
  refine ⟨⟨_, hS, rfl⟩, F.args_list_init_2 _ _, ?_⟩
  show wpAny _ A.in1.in1 (do let old ← listItems (.ref s.heap.objs.size); listUpdate (.ref s.heap.objs.size) (fun _ => #[]); letGo old.toList.reverse; listExtendWith (.ref s.heap.objs.size) (.ref d) .none) _ _ _
  refine wpAny_bind (listItems_at hS rfl (wpAny_bind (listUpdate_at hS rfl ?_ (hsz := Nat.zero_le _) (hsz2 := Nat.zero_le _))))
  have hS2 := get?_update_seq hS (fun _ : Array Value => (#[] : Array Value))
  have oth : ∀ b o, b ≠ s.heap.objs.size → s.heap.get? b = some o → ((s.heap.push (listOf #[] 0)).update s.heap.objs.size (Obj.mapSeq fun _ => #[])).get? b = some o := fun b o hb e =>
    (Heap.get?_update_ne _ _ _ _ hb).trans (Heap.get?_push_of_some _ e)
  refine wpAny_bind (wpAny_letGo ?_)
  refine extend_dict (A := A.in1) hh hd _ hdS (by simpa using hS2) ?_ hlen fun h' tk vs c hk hl hsa => ⟨rfl, h h' tk vs c (fun b o e => hk b o (hlt b o e) (oth b o (hlt b o e) e)) hl hsa⟩
  obtain ⟨o, ho, r⟩ := Heap.dictOf_iff.mp hm
  exact Heap.dictOf_iff.mpr ⟨o, oth _ _ hdS ho, r⟩
end
end Mine
end
/- TAB1 -/
section
open PySem PySem.W PyProof.Rows PyProof.V
set_option maxRecDepth 100000
set_option genSizeOf false
set_option genInjectivity false
namespace Mine

/-! ## the table as a dict -/
noncomputable def encD (tab : Tab) : List (PyData × PyData) := tab.map fun kv => (PyData.str (toS [kv.1]), PyData.str (toS kv.2))
noncomputable def putT (c : Nat) (t : Tx) (tab : Tab) : Tab := if tab.any (fun kv => kv.1 == c) then tab.map (fun kv => if kv.1 = c then (c, t) else kv) else tab ++ [(c, t)]
theorem toS_one {a b : Nat} : (toS [a] = toS [b]) ↔ a = b := ⟨fun h => by have := toS_inj h; simpa using this, fun h => by rw [h]⟩
theorem same_key (a b : Nat) : Spec.same (PyData.str (toS [a])) (PyData.str (toS [b])) = decide (a = b) := by
  rw [PyProof.V.same_str]
  by_cases h : a = b
  · simp [h]
  · rw [decide_eq_false h, decide_eq_false (fun q => h (toS_one.mp q))]
theorem lookup_encD (c : Nat) : ∀ tab : Tab, Spec.lookup (.str (toS [c])) (encD tab) = (tab.lookup c).map fun t => PyData.str (toS t)
  | [] => rfl
  | (k, t) :: r => by
    have ih := lookup_encD c r
    show (if Spec.same (PyData.str (toS [k])) (.str (toS [c])) = true then some (PyData.str (toS t)) else Spec.lookup (.str (toS [c])) (encD r)) = _
    rw [same_key, ih, List.lookup_cons]
    by_cases h : k = c
    · subst h; simp
    · have h' : (c == k) = false := by simpa using Ne.symm h
      simp [h, h']
theorem putD_encD (c : Nat) (t : Tx) (tab : Tab) : putD (.str (toS [c])) (.str (toS t)) (encD tab) = encD (putT c t tab) := by
  unfold putD putT
  have e1 : (encD tab).any (fun p => Spec.same p.1 (.str (toS [c]))) = tab.any (fun kv => kv.1 == c) := by
    unfold encD
    rw [List.any_map]
    congr 1
    funext kv
    show Spec.same (PyData.str (toS [kv.1])) (.str (toS [c])) = _
    rw [same_key]
    rfl
  rw [e1]
  split
  · unfold encD
    rw [List.map_map, List.map_map]
    refine List.map_congr_left fun kv _ => ?_
    show (if Spec.same (PyData.str (toS [kv.1])) (.str (toS [c])) = true then _ else _) = _
    rw [same_key]
    by_cases h : kv.1 = c
    · simp [h]
    · simp [h]
  · simp [encD]
theorem keys_flat {kvs : List (Str × Value)} : ∀ {tab : Tab}, FlatPairs PyData.str kvs (encD tab) → kvs.map (·.1) = tab.map fun kv => toS [kv.1] := by
  intro tab h
  generalize hD : encD tab = D at h
  induction h generalizing tab with
  | nil =>
    cases tab with
    | nil => rfl
    | cons _ _ => cases hD
  | @cons k v d kvs D hf hp ih =>
    cases tab with
    | nil => cases hD
    | cons q r =>
      have hD' : (PyData.str (toS [q.1]), PyData.str (toS q.2)) :: encD r = (PyData.str k, d) :: D := hD
      have e1 := congrArg (fun l => (l.head?.map (·.1))) hD'
      simp only [List.head?_cons, Option.map_some, Option.some.injEq, PyData.str.injEq] at e1
      have e2 : encD r = D := (List.cons.inj hD').2
      rw [List.map_cons, List.map_cons, ih e2, ← e1]

/-- the object of a table -/
noncomputable def TabIs (prog : Program) (w : World) (o : Obj) (tab : Tab) : Prop := ∃ kvs, o.IsDictOf (PySem.strKind prog w) kvs ∧ FlatPairs PyData.str kvs (encD tab)

section
variable {prog : Program} {w : World} {A : Around} {E : Value → Shared → Prop} {s : Shared} {h₀ : Heap} {L d : Addr} {m : Str → Option Value} {od : Obj} {led : List (Addr × Obj)} {tab : Tab}
theorem TabIs.at (hT : TabIs prog w od tab) (hd : (d == sysModules) = false) {h : Heap} (ho : h.get? d = some od) : StrTab prog w h d (encD tab) :=
  let ⟨_, hk, hf⟩ := hT; TabAt.ofObj hd ho hk hf
theorem tab_put {c : Nat} {t : Tx} {u v : Tok} {Q : Unit → Shared → Prop} (F : Fr h₀ L s.heap m) (N : News h₀ L s.heap ((d, od) :: led)) (hoff : ∀ q ∈ led, q.1 ≠ d) (hT : TabIs prog w od tab) (hlen : tab.length ≤ 100)
    (h : ∀ h' o', Fr h₀ L h' m → News h₀ L h' ((d, o') :: led) → TabIs prog w o' (putT c t tab) → Q () { s with heap := h', toks := s.toks + 1 }) : wpAny (model prog w) A (setItem (.ref d) (.str (toS [c]) u) (.str (toS t) v)) Q E s := by
  obtain ⟨kvs, hk, hf⟩ := hT
  refine setItem_made_str (dv := .str (toS t)) (Flat.str _ _) F N hoff hk hf (fun h' o' F' N' hk' hf' => h h' o' F' N' ⟨_, hk', by rw [← putD_encD]; exact hf'⟩) (by simp only [encD, List.length_map]; rw [sizeLine_eq]; exact Nat.le_trans hlen (by decide))
theorem tab_list {Q : Value → Shared → Prop} (hh : A.handled = none) (F : Fr h₀ L s.heap m) (N : News h₀ L s.heap ((d, od) :: led)) (hd : (d == sysModules) = false) (hT : TabIs prog w od tab) (hlen : tab.length ≤ 100)
    (h : ∀ h' tk l vs c, Fr h₀ L h' m → News h₀ L h' ((d, od) :: (l, listOf vs.toArray c) :: led) → (l ≠ d) → SA vs (tab.map fun kv => toS [kv.1]) → Q (.ref l) { s with heap := h', toks := tk }) : wpAny (model prog w) A (call (.type "list") [.ref d]) Q E s := by
  obtain ⟨kvs, hk, hf⟩ := hT
  have z := N _ List.mem_cons_self
  have hl : kvs.length = tab.length := by have := congrArg List.length (keys_flat hf); simpa using this
  refine list_dict hh hd (Heap.dictOf_iff.mpr ⟨od, z.1, hk⟩) (Nat.le_trans (Nat.le_of_eq hl) hlen) fun h' tk vs c hk' hl' hsa => ?_
  rw [keys_flat hf] at hsa
  have hn := news_pushed F N hk' hl' rfl
  refine h h' tk _ vs c (F.keeps hk') (fun q hq => hn q ?_) (Ne.symm (Nat.ne_of_lt (Heap.lt_size z.1))) hsa
  simp only [List.mem_cons] at hq ⊢
  rcases hq with e | e | e
  · exact .inr (.inl e)
  · exact .inl e
  · exact .inr (.inr e)
end

/-! ## a for loop over an iterator, with one object d that the turns change -/
inductive LPost (h₀ : Heap) (L d : Addr) (led : List (Addr × Obj)) (J : (Str → Option Value) → Obj → Prop) (s : Shared) (f : Flow) (s₂ : Shared) : Prop
  | mk (flow : f = .next) (h' : Heap) (tk : Nat) (m' : Str → Option Value) (od : Obj) (eq : s₂ = { s with heap := h', toks := tk }) (F : Fr h₀ L h' m') (N : News h₀ L h' ((d, od) :: led)) (hJ : J m' od)
inductive FInv (h₀ : Heap) (L d : Addr) (led : List (Addr × Obj)) (n : Nat) (St : Nat → Heap → Prop) (J : Nat → (Str → Option Value) → Obj → Prop) (s : Shared) (k : Nat) (s' : Shared) : Prop
  | mk (h' : Heap) (tk : Nat) (m' : Str → Option Value) (od' : Obj) (i : Nat) (eq : s' = { s with heap := h', toks := tk }) (hi : i ≤ n) (hk : k = n + 1 - i) (hst : St i h') (F : Fr h₀ L h' m') (N : News h₀ L h' ((d, od') :: led)) (hJ : J i m' od')
section
variable {prog : Program} {w : World} {A : Around} {s : Shared} {h₀ : Heap} {L d : Addr} {m : Str → Option Value} {od : Obj} {led : List (Addr × Obj)}
theorem for_led {x : Str} {px : Pos} {body : List Stmt} {env : Env} {R : Result → Shared → Prop} {I : Addr} {fp wr : List Addr} {n : Nat} {P : Nat → Value → Prop} {St : Nat → Heap → Prop} (W : Walks prog w A I fp wr n P St)
    (hk : env.scope.kind = .function) (hx : env.kindOf x = some .local) (hL : env.locals = L) (hLf : L ∉ fp) (hdf : d ∉ fp) (hwr : ∀ b ∈ wr, h₀.get? b = none) (hled : ∀ q ∈ led, q.1 ∉ wr) (hoff : ∀ q ∈ led, q.1 ≠ d)
    (hst : St 0 s.heap) (F : Fr h₀ L s.heap m) (N : News h₀ L s.heap ((d, od) :: led)) (J : Nat → (Str → Option Value) → Obj → Prop) (h0 : J 0 m od)
    (step : ∀ i v m₁ od₁ h tk own, i < n → P i v → J i m₁ od₁ → (∀ q ∈ own ++ led, q.1 ≠ d) → Fr h₀ L h (fun y => if y = x then some v else m₁ y) → News h₀ L h ((d, od₁) :: (own ++ led)) →
      wpAny (model prog w) A (execs body env) (LPost h₀ L d (own ++ led) (J (i + 1)) { s with heap := h, toks := tk }) (fun _ _ => False) { s with heap := h, toks := tk })
    (hR : ∀ h' tk m' od', Fr h₀ L h' m' → News h₀ L h' ((d, od') :: led) → J n m' od' → R (.ok .next) { s with heap := h', toks := tk }) :
    codeAny (model prog w) A (.forLoop (.Name x px) (.ref I) body [] env) R s := by
  subst hL
  have old : ∀ b o, h₀.get? b = some o → b ∉ wr := fun b o e hb => by rw [hwr b hb] at e; cases e
  have hLw : env.locals ∉ wr := fun q => hLf (W.sub _ q)
  have hdw : d ∉ wr := fun q => hdf (W.sub _ q)
  refine codeAny_forLoop_any (FInv h₀ env.locals d led n St J s) ?_ (n + 1)
    ⟨s.heap, s.toks, m, od, 0, rfl, Nat.zero_le _, rfl, hst, F, N, h0⟩
  rintro k s' ⟨h', tk, m', od', i, rfl, hi, rfl, hst', F', N', hJ⟩
  have next : ∀ h₁ : Heap, (∀ b o, b ∉ wr → h'.get? b = some o → h₁.get? b = some o) → Fr h₀ env.locals h₁ m' ∧ News h₀ env.locals h₁ ((d, od') :: led) := fun h₁ hk₁ =>
    ⟨⟨F'.ns.at fun o e => hk₁ _ o hLw e, fun b o e => hk₁ b o (old b o e) (F'.keep b o e), F'.above⟩, fun q hq => ⟨hk₁ _ _ (by
      rcases List.mem_cons.mp hq with e | hq
      · rw [e]; exact hdw
      · exact hled q hq) (N' q hq).1, (N' q hq).2⟩⟩
  by_cases hlt : i < n
  · refine W.item i _ _ _ hlt hst' fun v h₁ tk₁ hP hst₁ hk₁ => ?_
    obtain ⟨F₁, N₁⟩ := next h₁ hk₁
    show wpAny _ A (pure ()) _ _ _
    refine wpAny_pure (wpAny_assign_Name (wpAny_storeName_local hx F₁.ns (fun h₂ hn₂ hs₂ => ?_) (fn_block hk)))
    have F₂ := F₁.set hn₂ hs₂
    have Nown : News h₀ env.locals h₂ (ownOf h₀ fp h₂) := news_ownOf hLf
    have hst₂ : St (i + 1) h₂ := W.frame _ _ _ hst₁ fun b hb o e => hs₂.extBut b o (fun q => hLf (q ▸ hb)) e
    have N₂ : News h₀ env.locals h₂ ((d, od') :: (ownOf h₀ fp h₂ ++ led)) := fun q hq => by
      rcases List.mem_cons.mp hq with e | hq
      · exact (N₁.set hs₂) q (by rw [e]; exact List.mem_cons_self)
      · rcases List.mem_append.mp hq with hq | hq
        · exact Nown q hq
        · exact (N₁.set hs₂) q (List.mem_cons_of_mem _ hq)
    refine wpAny_mono (step i v m' od' h₂ _ (ownOf h₀ fp h₂) hlt hP hJ (fun q hq => ?_) F₂ N₂) (fun f s₃ h₃ => ?_) fun _ _ e => e.elim
    · rcases List.mem_append.mp hq with hq | hq
      · exact fun e => hdf (e ▸ ownOf_sub q hq)
      · exact hoff q hq
    · obtain ⟨rfl, h₄, tk₄, m₄, od₄, rfl, F₄, N₄, hJ₄⟩ := h₃
      refine ⟨n + 1 - (i + 1), downTurn hlt, h₄, tk₄, m₄, od₄, i + 1, rfl, hlt, rfl, ?_, F₄, fun q hq => N₄ q ?_, hJ₄⟩
      · refine W.frame _ _ _ hst₂ fun b hb o e => ?_
        cases hn : h₀.get? b with
        | some o₀ =>
          have : o₀ = o := by have := F₂.keep b o₀ hn; rw [e] at this; exact (Option.some.inj this).symm
          exact this ▸ F₄.keep b o₀ hn
        | none => exact (N₄ _ (List.mem_cons_of_mem _ (List.mem_append_left _ (mem_ownOf hb hn e)))).1
      · rcases List.mem_cons.mp hq with e | hq
        · rw [e]; exact List.mem_cons_self
        · exact List.mem_cons_of_mem _ (List.mem_append_right _ hq)
  · obtain rfl := eqOf hi hlt
    refine W.done _ _ _ hst' fun h₁ tk₁ hk₁ => wpAny_execs_nil ?_
    obtain ⟨F₁, N₁⟩ := next h₁ hk₁
    exact hR h₁ tk₁ m' od' F₁ N₁ hJ
end

/-! ## the steps of the table, in plain lists -/
noncomputable def ampStep (T : Tab) (c : Nat) : Tab := putT c (amp ++ ((T.lookup c).getD []).drop 1) T
noncomputable def ampTo (i : Nat) (tab : Tab) : Tab := ((tab.map (·.1)).take i).foldl ampStep tab
noncomputable def addTo (j : Nat) (hand : Nat) (tab : Tab) : Tab := ((words hand).take j).foldl tabAdd (tabAmp tab)
theorem ampTo_succ {i : Nat} {tab : Tab} {kv : Nat × Tx} (h : tab[i]? = some kv) : ampTo (i + 1) tab = ampStep (ampTo i tab) kv.1 := by
  unfold ampTo
  rw [List.take_succ, List.foldl_append]
  simp [h]
theorem addTo_succ {j hand : Nat} {tab : Tab} {wd : Tx} (h : (words hand)[j]? = some wd) : addTo (j + 1) hand tab = tabAdd (addTo j hand tab) wd := by
  unfold addTo
  rw [List.take_succ, List.foldl_append]
  simp [h]
theorem addTo_all (hand : Nat) (tab : Tab) : addTo (words hand).length hand tab = tabStep tab hand := by
  unfold addTo tabStep
  rw [List.take_length]
/-- what the two inner loops need of a table -/
noncomputable def tabFine (tab : Tab) : Bool :=
  (ampTo tab.length tab == tabAmp tab) && (List.range (tab.length + 1)).all (fun i => (ampTo i tab).length ≤ 100 && (tab.all fun kv => ((ampTo i tab).lookup kv.1).any fun t => decide (t.length ≤ 100)))
    && (List.range 5).all (fun hand => (List.range 9).all fun j => (addTo j hand tab).length ≤ 100)
theorem words_fine : ∀ h < 5, ∀ wd ∈ words h, wd ≠ [] ∧ wd.length ≤ 100 := by decide
theorem words_count : ∀ h < 5, (words h).length < 9 := by decide
theorem fine_tabs : tabFine [] = true ∧ ∀ a < 5, tabFine (tabOf [a]) = true := by decide
end Mine
end
/- TABW -/
section
open PySem PySem.W PyProof.Rows PyProof.V
set_option maxRecDepth 100000
set_option genSizeOf false
set_option genInjectivity false
namespace Mine
open PySem.Builtin PySem.Builtin.Str

/-- the list of the word lists -/
noncomputable def WordsAt (wl : List (Addr × Obj)) (items : List Value) : Prop := ∀ h < 5, ∃ l k vs, items[h]? = some (.ref l) ∧ (l, listOf vs.toArray k) ∈ wl ∧ SA vs ((words h).map toS)

theorem table_start {h₀ h : Heap} {L d lW w0 w1 w2 w3 w4 : Addr} {o : Obj} {t0 t1 t2 t3 t4 t5 t6 t7 t8 t9 t10 t11 t12 t13 t14 t15 t16 t17 t18 t19 t20 t21 t22 : Tok}
    (N : News h₀ L h [(d, o), (lW, listOf #[.ref w0, .ref w1, .ref w2, .ref w3, .ref w4] 0), (w4, listOf #[.str (Str.ofString "&amp;") t0, .str (Str.ofString "<lt;") t1, .str (Str.ofString "\"quot;") t2, .str (Str.ofString "\r#xD;") t3, .str (Str.ofString "\n#xA;") t4, .str (Str.ofString "\t#x9;") t5] 0), (w3, listOf #[.str (Str.ofString "&amp;") t6, .str (Str.ofString "<lt;") t7, .str (Str.ofString ">gt;") t8, .str (Str.ofString "\r#xD;") t9] 0), (w2, listOf #[.str (Str.ofString "&amp;") t10, .str (Str.ofString ">gt;") t11, .str (Str.ofString "\"quot;") t12] 0), (w1, listOf #[.str (Str.ofString "&amp;") t13, .str (Str.ofString "<lt;") t14, .str (Str.ofString ">gt;") t15, .str (Str.ofString "\"quot;") t16, .str (Str.ofString "\r#13;") t17, .str (Str.ofString "\n#10;") t18, .str (Str.ofString "\t#09;") t19] 0), (w0, listOf #[.str (Str.ofString "&amp;") t20, .str (Str.ofString "<lt;") t21, .str (Str.ofString ">gt;") t22] 0)])
    (p : lW < d ∧ w4 < d ∧ w3 < d ∧ w2 < d ∧ w1 < d ∧ w0 < d) :
    ∃ (wl : List (Addr × Obj)) (items : List Value), News h₀ L h ((d, o) :: wl) ∧ WordsAt wl items ∧ (lW, listOf items.toArray 0) ∈ wl ∧ ∀ q ∈ wl, q.1 ≠ d := by
  have s0 : Str.ofString "&amp;" = toS [38, 97, 109, 112, 59] := by decide
  have s1 : Str.ofString "<lt;" = toS [60, 108, 116, 59] := by decide
  have s2 : Str.ofString ">gt;" = toS [62, 103, 116, 59] := by decide
  have s3 : Str.ofString "\"quot;" = toS [34, 113, 117, 111, 116, 59] := by decide
  have s4 : Str.ofString "\r#13;" = toS [13, 35, 49, 51, 59] := by decide
  have s5 : Str.ofString "\n#10;" = toS [10, 35, 49, 48, 59] := by decide
  have s6 : Str.ofString "\t#09;" = toS [9, 35, 48, 57, 59] := by decide
  have s7 : Str.ofString "\r#xD;" = toS [13, 35, 120, 68, 59] := by decide
  have s8 : Str.ofString "\n#xA;" = toS [10, 35, 120, 65, 59] := by decide
  have s9 : Str.ofString "\t#x9;" = toS [9, 35, 120, 57, 59] := by decide
  refine ⟨_, [.ref w0, .ref w1, .ref w2, .ref w3, .ref w4], N, ?_, List.mem_cons_self, ?_⟩
  · intro h hh
    have hc := fiveCases hh
    rcases hc with rfl | rfl | rfl | rfl | rfl
    · exact ⟨w0, 0, _, rfl, List.mem_cons_of_mem _ (List.mem_cons_of_mem _ (List.mem_cons_of_mem _ (List.mem_cons_of_mem _ (List.mem_cons_of_mem _ List.mem_cons_self)))), SA.cons _ (by rw [s0]) (SA.cons _ (by rw [s1]) (SA.cons _ (by rw [s2]) SA.nil))⟩
    · exact ⟨w1, 0, _, rfl, List.mem_cons_of_mem _ (List.mem_cons_of_mem _ (List.mem_cons_of_mem _ (List.mem_cons_of_mem _ List.mem_cons_self))), SA.cons _ (by rw [s0]) (SA.cons _ (by rw [s1]) (SA.cons _ (by rw [s2]) (SA.cons _ (by rw [s3]) (SA.cons _ (by rw [s4]) (SA.cons _ (by rw [s5]) (SA.cons _ (by rw [s6]) SA.nil))))))⟩
    · exact ⟨w2, 0, _, rfl, List.mem_cons_of_mem _ (List.mem_cons_of_mem _ (List.mem_cons_of_mem _ List.mem_cons_self)), SA.cons _ (by rw [s0]) (SA.cons _ (by rw [s2]) (SA.cons _ (by rw [s3]) SA.nil))⟩
    · exact ⟨w3, 0, _, rfl, List.mem_cons_of_mem _ (List.mem_cons_of_mem _ List.mem_cons_self), SA.cons _ (by rw [s0]) (SA.cons _ (by rw [s1]) (SA.cons _ (by rw [s2]) (SA.cons _ (by rw [s7]) SA.nil)))⟩
    · exact ⟨w4, 0, _, rfl, List.mem_cons_of_mem _ List.mem_cons_self, SA.cons _ (by rw [s0]) (SA.cons _ (by rw [s1]) (SA.cons _ (by rw [s3]) (SA.cons _ (by rw [s7]) (SA.cons _ (by rw [s8]) (SA.cons _ (by rw [s9]) SA.nil)))))⟩
  · intro q hq
    simp only [List.mem_cons, List.not_mem_nil, or_false] at hq
    rcases hq with rfl | rfl | rfl | rfl | rfl | rfl
    · exact Nat.ne_of_lt p.1
    · exact Nat.ne_of_lt p.2.1
    · exact Nat.ne_of_lt p.2.2.1
    · exact Nat.ne_of_lt p.2.2.2.1
    · exact Nat.ne_of_lt p.2.2.2.2.1
    · exact Nat.ne_of_lt p.2.2.2.2.2

theorem ne_of_news {h₀ h : Heap} {L d a : Addr} {o : Obj} {wl : List (Addr × Obj)} {xs : Array Value} (hl : h₀.IsList a xs) (N : News h₀ L h ((d, o) :: wl)) : a ≠ d := fun e => by
  obtain ⟨ob, ho, _⟩ := hl
  have := (N _ List.mem_cons_self).2.2
  rw [← e, ho] at this
  cases this
section
variable {prog : Program} {w : World} {A : Around} {s : Shared} {h₀ : Heap} {L d l : Addr} {m : Str → Option Value} {od : Obj} {led : List (Addr × Obj)} {E : Value → Shared → Prop}
/-- for x in a list -/
theorem list_for {x : Str} {px : Pos} {body : List Stmt} {env : Env} {R : Result → Shared → Prop} {vs : List Value} (P : Nat → Value → Prop) (hP : ∀ (i : Nat) (v : Value), vs[i]? = some v → P i v)
    (hh : A.handled = none) (hk : env.scope.kind = .function) (hx : env.kindOf x = some .local) (hL : env.locals = L) (hl : s.heap.IsList l vs.toArray) (hld : l ≠ d) (hlL : l ≠ L) (hoff : ∀ q ∈ led, q.1 ≠ d)
    (F : Fr h₀ L s.heap m) (N : News h₀ L s.heap ((d, od) :: led)) (J : Nat → (Str → Option Value) → Obj → Prop) (h0 : J 0 m od)
    (step : ∀ i v m₁ od₁ h tk own, i < vs.length → P i v → J i m₁ od₁ → (∀ q ∈ own ++ led, q.1 ≠ d) → Fr h₀ L h (fun y => if y = x then some v else m₁ y) → News h₀ L h ((d, od₁) :: (own ++ led)) →
      wpAny (model prog w) A (execs body env) (LPost h₀ L d (own ++ led) (J (i + 1)) { s with heap := h, toks := tk }) (fun _ _ => False) { s with heap := h, toks := tk })
    (hR : ∀ h' tk m' od', Fr h₀ L h' m' → News h₀ L h' ((d, od') :: led) → J vs.length m' od' → R (.ok .next) { s with heap := h', toks := tk }) :
    wpAny (model prog w) A (pyIter (.ref l)) (fun it s₂ => codeAny (model prog w) A (.forLoop (.Name x px) it body [] env) R s₂) E s := by
  refine wpAny_pyIter_list hl ?_
  have hI0 : h₀.get? s.heap.objs.size = none := none_above F.keep (Nat.le_refl _)
  have hlI : l ≠ s.heap.objs.size := by obtain ⟨o, ho, _⟩ := hl; exact Nat.ne_of_lt (Heap.lt_size ho)
  have F₂ := F.push { cls := .type "list_iterator", data := .fields #[.ref l, .int 0 0] }
  have N₂ : News h₀ L (s.heap.push { cls := .type "list_iterator", data := .fields #[.ref l, .int 0 0] }) ((d, od) :: led) := News.ext N fun _ _ e => Heap.get?_push_of_some _ e
  have hIq : ∀ q ∈ (d, od) :: led, q.1 ≠ s.heap.objs.size := fun q hq => Nat.ne_of_lt (Heap.lt_size (N q hq).1)
  have sz : vs.toArray.size = vs.length := by simp
  refine for_led (Walks.list hh s.heap.objs.size l hlI vs.toArray) hk hx hL ?_ ?_ ?_ ?_ hoff ⟨⟨_, Heap.get?_push_size _ rfl, rfl, rfl⟩, hl.at fun o e => Heap.get?_push_of_some _ e⟩ F₂ N₂ J h0 ?_ ?_
  · intro q
    rcases List.mem_cons.mp q with e | q
    · exact absurd F.ns.lt (e ▸ Nat.lt_irrefl _)
    · exact hlL (List.mem_singleton.mp q).symm
  · intro q
    rcases List.mem_cons.mp q with e | q
    · exact hIq _ List.mem_cons_self e
    · exact hld (List.mem_singleton.mp q).symm
  · intro b hb
    rw [List.mem_singleton.mp hb]; exact hI0
  · intro q hq hb
    exact hIq q (List.mem_cons_of_mem _ hq) (List.mem_singleton.mp hb)
  · intro i v m₁ od₁ h tk own hi hv
    exact step i v m₁ od₁ h tk own (by rwa [sz] at hi) (hP i v (by simpa using hv))
  · intro h' tk m' od' F' N' hJ
    rw [sz] at hJ
    exact hR h' tk m' od' F' N' hJ
end

theorem slice1 (t : Tx) : Txt.slice (toS t) (some 1) none = toS (t.drop 1) := by
  rcases t with _ | ⟨c, r⟩
  · decide
  · have := slice_tail (toS (c :: r)) (a := 1) (by rw [toS_length]; simp)
    rw [toS_cps] at this
    exact this
theorem amp_slice (t : Tx) : Str.ofString "&amp;" ++ Txt.slice (toS t) (some 1) none = toS (amp ++ t.drop 1) := by
  rw [slice1, toS_append]; congr 1
theorem and_slice (t : Tx) : Str.ofString "&" ++ Txt.slice (toS t) (some 1) none = toS (38 :: t.drop 1) := by
  rw [slice1]
  show _ = toS ([38] ++ t.drop 1)
  rw [toS_append]; congr 1
theorem lookup_any (c : Nat) : ∀ tab : Tab, (tab.lookup c).isSome = tab.any (fun kv => kv.1 == c)
  | [] => rfl
  | (k, t) :: r => by
    rw [List.lookup_cons, List.any_cons, ← lookup_any c r]
    by_cases h : k = c
    · subst h; simp
    · have h1 : (c == k) = false := by simpa using Ne.symm h
      have h2 : (k == c) = false := by simpa using h
      simp [h1, h2]
theorem putT_none {c : Nat} {t : Tx} {tab : Tab} (h : (tab.lookup c).isSome = false) : putT c t tab = tab ++ [(c, t)] := by
  unfold putT
  rw [← lookup_any, h]
  rfl
theorem off_cons {d l : Addr} {o : Obj} {led : List (Addr × Obj)} (h1 : l ≠ d) (h2 : ∀ q ∈ led, q.1 ≠ d) : ∀ q ∈ (l, o) :: led, q.1 ≠ d := fun q hq => by
  rcases List.mem_cons.mp hq with rfl | hq
  · exact h1
  · exact h2 q hq
theorem SA.get {vs : List Value} {xs : List Str} (h : SA vs xs) : ∀ (i : Nat) (v : Value), vs[i]? = some v → ∃ (x : Str) (t : Tok), xs[i]? = some x ∧ v = .str x t := by
  induction h with
  | nil => intro i v e; simp at e
  | @cons v' vs x xs tk e _ ih =>
    intro i v hv
    cases i with
    | zero => simp only [List.getElem?_cons_zero, Option.some.injEq] at hv; subst hv; exact ⟨x, tk, rfl, e⟩
    | succ j => simp only [List.getElem?_cons_succ] at hv ⊢; exact ih j v hv
section
variable {prog : Program} {w : World} {A : Around} {s : Shared} {h₀ : Heap} {L d lW : Addr} {m : Str → Option Value} {od : Obj} {led news : List (Addr × Obj)} {E : Value → Shared → Prop} {Q : Value → Shared → Prop} {tab : Tab}
theorem words_item {value slice : Expr} {items : List Value} {h : Nat} {v : Value} {u : Tok} {k : Nat} (N : News h₀ L s.heap news) (hm : (lW, listOf items.toArray k) ∈ news) (h5 : h < 5) (hit : items[h]? = some v) (hq : Q v s)
    (hs : subscripted slice false (.ref lW) (.int (h : Nat) u) = operate [.ref lW, .int (h : Nat) u] (getItem (.ref lW) (.int (h : Nat) u)) := by rfl) : wpAny (model prog w) A (subscriptTail value slice (.ref lW) (.int (h : Nat) u)) Q E s :=
  item_litK ⟨_, (N _ hm).1, rfl, _, rfl⟩ (Int.natCast_nonneg _) (natSmall h5) (by simpa using hit) hq hs
theorem table_item {value slice : Expr} {c : Nat} {t0 : Tx} {u : Tok} (N : News h₀ L s.heap ((d, od) :: led)) (hT : TabIs prog w od tab) (hd : (d == sysModules) = false) (hl : tab.lookup c = some t0) (h : ∀ v, Q (.str (toS t0) v) { s with toks := s.toks + 1 })
    (hs : subscripted slice false (.ref d) (.str (toS [c]) u) = operate [.ref d, .str (toS [c]) u] (getItem (.ref d) (.str (toS [c]) u)) := by rfl) (hg : ∀ r, letTemporaryGo value (.ref d) r = pure () := by intro _; rfl) :
    wpAny (model prog w) A (subscriptTail value slice (.ref d) (.str (toS [c]) u)) Q E s := by
  refine item_strTab (hT.at hd (N _ List.mem_cons_self).1) (dv := .str (toS t0)) (by rw [lookup_encD, hl]; rfl) (fun v hv => ?_) hs hg
  have hv' := hv s.heap
  cases hv'
  exact h _
theorem table_notin {c : Nat} {b : Bool} {u : Tok} (N : News h₀ L s.heap ((d, od) :: led)) (hT : TabIs prog w od tab) (hd : (d == sysModules) = false) (hl : (tab.lookup c).isSome = b) (h : Q (.bool (!b)) { s with toks := s.toks + 1 }) :
    wpAny (model prog w) A (compareOp .NotIn (.str (toS [c]) u) (.ref d)) Q E s := by
  refine notin_strTab (hT.at hd (N _ List.mem_cons_self).1) ?_
  have : (Spec.lookup (.str (toS [c])) (encD tab)).isSome = b := by rw [lookup_encD, ← hl]; simp
  rw [this]
  exact h
theorem sign_item {value slice : Expr} {c : Nat} {r : Tx} {u v : Tok} (h : Q (.str (toS [c]) s.toks) { s with toks := s.toks + 1 })
    (hs : subscripted slice false (.str (toS (c :: r)) u) (.int 0 v) = operate [.str (toS (c :: r)) u, .int 0 v] (getItem (.str (toS (c :: r)) u) (.int 0 v)) := by rfl) :
    wpAny (model prog w) A (subscriptTail value slice (.str (toS (c :: r)) u) (.int 0 v)) Q E s :=
  tail_any (typeIs_str s _ _) PySem.F.slot_str_getitem.lookup (P.getItem_str (i := 0) (c := c) (by decide) (by simp [seqIndex?, toS, Str.length]) h) hs
end

local macro_rules | `(tactic| walk_at $s:str) => `(tactic| k_extra $s)
local macro_rules | `(tactic| walk_at "pyIter ref") => `(tactic| refine stop_here ?_)
set_option maxHeartbeats 1000000 in
theorem table_walk (w : World) (mean : ExcName → Option Value) (mg mb : Str → Option Value) (a : Addr) (vs : List Value) (hs : List Nat)
   (dp un : Nat) (fr : Option (List Env)) (gd : Option (List Code)) (s : Shared) (R : Result → Shared → Prop) (G : Gd w mean mg mb s.heap) (hd1 : dp + 16 < recursionLimit) (hu1 : un + 200 < cLine)
   (hl : s.heap.IsList a vs.toArray) (hvl : vs.length = hs.length) (hvs : ∀ (i : Nat) (v : Value), vs[i]? = some v → ∃ h t, hs[i]? = some h ∧ v = .int (h : Nat) t) (hh5 : ∀ h ∈ hs, h < 5) (hfine : ∀ i ≤ hs.length, i < hs.length → tabFine (tabOf (hs.take i)) = true) (hlen : hs.length ≤ 2)
   (kR : ∀ (h' : Heap) (n' : Nat) (D : Addr) (o : Obj), (∀ b o, s.heap.get? b = some o → h'.get? b = some o) → h'.get? D = some o → s.heap.get? D = none → (D == sysModules) = false → TabIs pgm w o (tabOf hs) → R (.ok (.ret (.ref D))) { s with heap := h', toks := n' })
   : codeAny (model pgm w) ⟨none, dp, fr, gd, un⟩ (.call (.ref 110) ⟨[Value.ref a], []⟩) R s := by
  have dummy : PySem.Challenge.rw_wa0019_01 = PySem.Challenge.rw_wa0019_01 → Mine.hd.heap_39 = Mine.hd.heap_39 → True := by
    k_fill
    intros; trivial
  clear dummy
  k_with_none
  (k_with "asm" => (with_reducible assumption))
  (k_with "room" => (((try dsimp only [Around.deeper]); first | exact roomT _ _ hd1 rfl | exact roomT _ _ hu1 rfl | exact room _ hd1 rfl | exact room _ hu1 rfl | exact room0 hd1)))
  (k_with "look me" => (first
    | exact rfl
    | with_reducible assumption
    | exact if_pos rfl
    | (refine (if_neg (by decide)).trans ?_; walk_at "look me")))
  (k_with "look all" => (((try dsimp only); walk_at "look me")))
  (k_with "eval Name" => ((with_reducible show wpAny _ _ (eval (Expr.Name _ _) (envOf _ _ _ _ _)) _ _ _; k_dflt (refine' ld ?k1 ?k2 ?_; (case k1 => with_reducible assumption); (case k2 => (walk_at "look all"))))))
  (k_with "exec For Name Call cons nil" => ((k_dflt (refine wpAny_For ?_))))
  (k_with "mem wl" => (first | with_reducible assumption | (refine List.mem_cons_of_mem _ ?_; walk_at "mem wl") | (refine List.mem_append_right _ ?_; walk_at "mem wl")))
  (k_with "subscriptTail" => (((with_reducible show wpAny _ _ (subscriptTail _ _ (Value.ref _) (Value.int _ _)) _ _ _); k_dflt (refine words_item (by walk_at "asm") (by walk_at "mem wl") (by walk_at "asm") (by walk_at "asm") ?_))))
  (k_with "subscriptTail" => (((with_reducible show wpAny _ _ (subscriptTail _ _ (Value.ref _) (Value.str _ _)) _ _ _); k_dflt (refine table_item (by walk_at "asm") (by walk_at "asm") (by walk_at "asm") (by walk_at "asm") ?_; intro v'9))))
  (k_with "subscriptTail" => (((with_reducible show wpAny _ _ (subscriptTail _ _ (Value.str _ _) (Value.int _ _)) _ _ _); k_dflt (refine sign_item ?_))))
  (k_with "compareOp NotIn str ref" => (((with_reducible show wpAny _ _ (compareOp CmpOp.NotIn (Value.str _ _) (Value.ref _)) _ _ _); k_dflt (refine table_notin (by walk_at "asm") (by walk_at "asm") (by walk_at "asm") (by walk_at "asm") ?_))))
  (k_with "setItem ref str" => (((with_reducible show wpAny _ _ (setItem (Value.ref _) (Value.str _ _) _) _ _ _); k_dflt ((first | rw [amp_slice] | rw [and_slice]); (refine tab_put (by walk_at "asm") (by walk_at "asm") (by walk_at "asm") (by walk_at "asm") (by walk_at "asm") ?_); (intro h'9 o'9 F'9 N'9 T'9)))))
  (k_with "exec For" => ((refine wpAny_For ?_)))
  (k_with "call type:list" => (((with_reducible show wpAny _ _ (call (Value.type "list") [Value.ref _]) _ _ _); k_dflt ((refine tab_list rfl (by walk_at "asm") (by walk_at "asm") (by walk_at "asm") (by walk_at "asm") (by walk_at "asm") ?_); (intro h'9 tk'9 l'9 vs'9 c'9 F'9 N'9 hld'9 hsa'9)))))
  have kX := G.K
  have kT := G.T
  refine enter G (room0 hd1) (by k_is) (by k_is) (BindsTo.of_eq rfl) (locs rfl) (by decide) rfl rfl rfl ?_
  intro L' h' tk' eL' kk F' N'
  (try dsimp only)
  (try k_fold)
  k_steps
  delta Stop
  rename Fr _ _ _ _ => F0
  rename News _ _ _ _ => N0
  rename Obj.IsDictOf (PySem.strKind _ _) _ _ => hk0
  rename FlatPairs PyData.str _ _ => hf0
  rename (_ == sysModules) = false => hsys
  rename (_ < _ ∧ _ < _ ∧ _ < _ ∧ _ < _ ∧ _ < _ ∧ _ < _) => hltd
  obtain ⟨wl, items, N1, hW, hlW, hoff1⟩ := table_start N0 hltd
  clear N0 hltd
  replace F0 : Fr s.heap L' _ _ := F0
  have haL : a ≠ L' := fun e => by obtain ⟨o, ho, _⟩ := hl; exact absurd (Heap.lt_size ho) (by rw [e, eL']; exact Nat.lt_irrefl _)
  have had := ne_of_news hl N1
  refine list_for (l := a) (fun i v => ∃ h t, hs[i]? = some h ∧ v = .int (h : Nat) t) hvs rfl rfl rfl rfl (hl.at fun o e => F0.keep _ o e) had haL hoff1 F0 N1 (fun i m od => m (Str.ofString "table") = some (.ref _) ∧ m (Str.ofString "words") = some (.ref _) ∧ TabIs pgm w od (tabOf (hs.take i))) ⟨by walk_at "look all", by walk_at "look all", ⟨[], hk0, hf0⟩⟩ ?_ ?_
  · rintro i v m₁ od₁ h tk own hi ⟨hd', t', hhs, rfl⟩ ⟨m1, m2, hT⟩ hoff2 F2 N2
    replace F2 : Fr s.heap L' h _ := F2
    replace N2 : News s.heap L' h _ := N2
    clear F0 N1
    have h5 : hd' < 5 := hh5 hd' (List.mem_of_getElem? hhs)
    have hih := Nat.lt_of_lt_of_eq hi hvl
    have hfn := hfine i (Nat.le_of_lt hih) hih
    have hfn1 : ampTo (tabOf (hs.take i)).length (tabOf (hs.take i)) = tabAmp (tabOf (hs.take i)) := by
      simp only [tabFine, Bool.and_eq_true] at hfn
      exact eq_of_beq hfn.1.1
    have hfn2 : ∀ j ≤ (tabOf (hs.take i)).length, (ampTo j (tabOf (hs.take i))).length ≤ 100 ∧ ∀ kv ∈ tabOf (hs.take i), ∃ t0, (ampTo j (tabOf (hs.take i))).lookup kv.1 = some t0 ∧ t0.length ≤ 100 := by
      intro j hj
      simp only [tabFine, Bool.and_eq_true] at hfn
      have := List.all_eq_true.mp hfn.1.2 j (List.mem_range.mpr (Nat.lt_succ_of_le hj))
      simp only [Bool.and_eq_true, decide_eq_true_eq, List.all_eq_true] at this
      refine ⟨this.1, fun kv hkv => ?_⟩
      have h2 := this.2 kv hkv
      cases hlk : (ampTo j (tabOf (hs.take i))).lookup kv.1 with
      | none => rw [hlk] at h2; cases h2
      | some t0 => rw [hlk] at h2; exact ⟨t0, rfl, of_decide_eq_true h2⟩
    have hfn3 : ∀ j < 9, (addTo j hd' (tabOf (hs.take i))).length ≤ 100 := by
      intro j hj
      simp only [tabFine, Bool.and_eq_true] at hfn
      have := List.all_eq_true.mp (List.all_eq_true.mp hfn.2 hd' (List.mem_range.mpr h5)) j (List.mem_range.mpr hj)
      simpa using this
    have hl100 : (tabOf (hs.take i)).length ≤ 100 := (hfn2 0 (Nat.zero_le _)).1
    generalize htab : tabOf (hs.take i) = tab0 at *
    k_steps
    delta Stop
    rename Fr _ _ _ _ => F3
    rename News _ _ _ _ => N3
    rename SA _ _ => hsa
    rename _ ≠ _ => hld
    refine list_for (L := L') (h₀ := s.heap) (fun j v => ∃ (kv : Nat × Tx) (t : Tok), tab0[j]? = some kv ∧ v = .str (toS [kv.1]) t) (fun j v hv => ?_) rfl rfl rfl rfl ⟨_, (N3 _ (List.mem_cons_of_mem _ List.mem_cons_self)).1, rfl, _, rfl⟩ hld (N3 _ (List.mem_cons_of_mem _ List.mem_cons_self)).2.1 (off_cons hld hoff2) F3 N3
      (fun j m od => m (Str.ofString "table") = some (.ref _) ∧ m (Str.ofString "words") = some (.ref _) ∧ m (Str.ofString "hand") = some (.int (hd' : Nat) t') ∧ TabIs pgm w od (ampTo j tab0)) ⟨by walk_at "look all", by walk_at "look all", by walk_at "look all", hT⟩ ?_ ?_
    · obtain ⟨x, t, hx, rfl⟩ := hsa.get j v hv
      rw [List.getElem?_map] at hx
      cases hkv : tab0[j]? with
      | none => rw [hkv] at hx; cases hx
      | some kv => rw [hkv] at hx; cases hx; exact ⟨kv, t, rfl, rfl⟩
    · rintro j v m₂ od₂ h2 tk2 own2 hj ⟨kv, t2, hkv, rfl⟩ ⟨m3, m4, m5, hT2⟩ hoff4 F4 N4
      replace F4 : Fr s.heap L' h2 _ := F4
      replace N4 : News s.heap L' h2 _ := N4
      clear F3 N3
      have hj2 : j < tab0.length := (List.getElem?_eq_some_iff.mp hkv).1
      have hfj := hfn2 j (Nat.le_of_lt hj2)
      have hlen9 := hfj.1
      obtain ⟨t0, ht0, ht00⟩ := hfj.2 kv (List.mem_of_getElem? hkv)
      have ht1 : (toS t0).length ≤ 100 := by rw [toS_length]; exact ht00
      k_steps
      rename Fr _ _ _ _ => FF
      rename News _ _ _ _ => NN
      rename TabIs _ _ _ (putT _ _ _) => TT
      have ea : ampTo (j + 1) tab0 = putT kv.1 (amp ++ t0.drop 1) (ampTo j tab0) := by
        rw [ampTo_succ hkv]
        simp only [ampStep, ht0, Option.getD_some]
      refine ⟨rfl, _, _, _, _, rfl, FF, NN, by walk_at "look all", by walk_at "look all", by walk_at "look all", ?_⟩
      rw [ea]
      exact TT
    · intro h2 tk2 m₂ od₂ F4 N4 ⟨m3, m4, m5, hT2⟩
      replace F4 : Fr s.heap L' h2 _ := F4
      replace N4 : News s.heap L' h2 _ := N4
      clear F3 N3
      have hlv : _ = tab0.length := (SA.length hsa).trans (List.length_map ..)
      rw [hlv, hfn1] at hT2
      obtain ⟨lw, kw, wv, hit, hwm, hwsa⟩ := hW hd' h5
      have hlw := words_count hd' h5
      have hwl := SA.length hwsa
      rw [List.length_map] at hwl
      k_steps
      delta Stop
      rename Fr _ _ _ _ => F5
      rename News _ _ _ _ => N5
      have hwz := N5 _ (List.mem_cons_of_mem _ (List.mem_cons_of_mem _ (List.mem_append_right own hwm)))
      refine list_for (L := L') (h₀ := s.heap) (fun j v => ∃ (wd : Tx) (t : Tok), (words hd')[j]? = some wd ∧ v = .str (toS wd) t) (fun j v hv => ?_) rfl rfl rfl rfl ⟨_, hwz.1, rfl, _, rfl⟩ (hoff2 _ (List.mem_append_right own hwm)) hwz.2.1 (off_cons hld hoff2) F5 N5
        (fun j m od => m (Str.ofString "table") = some (.ref _) ∧ m (Str.ofString "words") = some (.ref _) ∧ m (Str.ofString "hand") = some (.int (hd' : Nat) t') ∧ TabIs pgm w od (addTo j hd' tab0)) ⟨by walk_at "look all", by walk_at "look all", by walk_at "look all", hT2⟩ ?_ ?_
      · obtain ⟨x, t, hx, rfl⟩ := hwsa.get j v hv
        rw [List.getElem?_map] at hx
        cases hkv : (words hd')[j]? with
        | none => rw [hkv] at hx; cases hx
        | some wd => rw [hkv] at hx; cases hx; exact ⟨wd, t, rfl, rfl⟩
      · rintro j v m₃ od₃ h3 tk3 own3 hj ⟨wd, t3, hwd, rfl⟩ ⟨m6, m7, m8, hT3⟩ hoff5 F6 N6
        replace F6 : Fr s.heap L' h3 _ := F6
        replace N6 : News s.heap L' h3 _ := N6
        clear F5 N5
        obtain ⟨hw0, hw1⟩ := words_fine hd' h5 wd (List.mem_of_getElem? hwd)
        have hlen9 := hfn3 j (Nat.lt_trans (Nat.lt_of_lt_of_eq hj hwl) hlw)
        have hw2 : (toS wd).length ≤ 100 := by rw [toS_length]; exact hw1
        obtain ⟨c, r, rfl⟩ : ∃ c r, wd = c :: r := by
          cases wd with
          | nil => exact absurd rfl hw0
          | cons c r => exact ⟨c, r, rfl⟩
        cases hbb : (List.lookup c (addTo j hd' tab0)).isSome with
        | true =>
          k_steps
          rename Fr _ _ _ _ => FF
          rename News _ _ _ _ => NN
          refine ⟨rfl, _, _, _, _, rfl, FF, NN, by walk_at "look all", by walk_at "look all", by walk_at "look all", ?_⟩
          rw [addTo_succ hwd]
          unfold tabAdd
          rw [show (c :: r).headD 0 = c from rfl, if_pos hbb]
          exact hT3
        | false =>
          k_steps
          rename Fr _ _ _ _ => FF
          rename News _ _ _ _ => NN
          rename TabIs _ _ _ (putT _ _ _) => TT
          refine ⟨rfl, _, _, _, _, rfl, FF, NN, by walk_at "look all", by walk_at "look all", by walk_at "look all", ?_⟩
          rw [addTo_succ hwd]
          unfold tabAdd
          rw [if_neg (by rw [show (c :: r).headD 0 = c from rfl, hbb]; exact Bool.false_ne_true)]
          rw [putT_none hbb] at TT
          exact TT
      · intro h3 tk3 m₃ od₃ F6 N6 ⟨m6, m7, m8, hT3⟩
        replace F6 : Fr s.heap L' h3 _ := F6
        replace N6 : News s.heap L' h3 _ := N6
        clear F5 N5
        k_steps
        rename Fr _ _ _ _ => FF
        rename News _ _ _ _ => NN
        rw [hwl, addTo_all, ← htab] at hT3
        have et : tabOf (hs.take (i + 1)) = tabStep (tabOf (hs.take i)) hd' := by
          unfold tabOf
          rw [List.take_succ, List.foldl_append, hhs]
          rfl
        exact ⟨rfl, _, _, _, _, rfl, FF, fun q hq => NN q (by
          rcases List.mem_cons.mp hq with e | hq
          · rw [e]; exact List.mem_cons_self
          · exact List.mem_cons_of_mem _ (List.mem_cons_of_mem _ hq)), by walk_at "look all", by walk_at "look all", by rw [et]; exact hT3⟩
  · intro h' tk m' od' F2 N2 ⟨m1, m2, hT⟩
    replace F2 : Fr s.heap L' h' _ := F2
    replace N2 : News s.heap L' h' _ := N2
    clear F0 N1
    k_steps
    rename Fr _ _ _ _ => FF
    rename News _ _ _ _ => NN
    rw [hvl, List.take_length] at hT
    exact kR _ _ _ od' FF.keep (NN _ List.mem_cons_self).1 (NN _ List.mem_cons_self).2.2 hsys hT
end Mine
end
/- COMPL -/
section
open PySem PySem.W PyProof.Rows
set_option maxRecDepth 100000
set_option genSizeOf false
set_option genInjectivity false
namespace Mine
section
variable {prog : Program} {w : World} {A : Around} {s : Shared} {env : Env} {h₀ : Heap} {L : Addr} {m : Str → Option Value} {news : List (Addr × Obj)} {Q : Value → Shared → Prop} {E : Value → Shared → Prop}
/-- what the walk keeps of a comprehension over a list -/
structure ListGot (Fp : Nat → Value → List (Addr × Obj) → Prop) (n : Nat) (h₀ : Heap) (L : Addr) (m : Str → Option Value) (news : List (Addr × Obj)) (s : Shared) (h' : Heap) (g' : Array GenState) (D : Addr) (k : Nat) (rs : List (Value × List (Addr × Obj))) : Prop where
  F : Fr h₀ L h' m
  N : News h₀ L h' ((D, listOf (rs.map (·.1)).toArray k) :: (rs.flatMap (·.2) ++ news))
  len : rs.length = n
  each : ∀ i r, rs[i]? = some r → Fp i r.1 r.2
  off : ∀ q ∈ news, q.1 ≠ D
  keep : ∀ b o, s.heap.get? b = some o → h'.get? b = some o
  none : s.heap.get? D = Option.none
  bare : AllBare s.gens → AllBare g'

theorem comp_list {x : Str} {px : Pos} {elt : Expr} {cscope : Scope} {cl : List (Str × Addr)} {l : Addr} {items : List Value} (Fp : Nat → Value → List (Addr × Obj) → Prop)
    (hh : A.handled = none) (hck : cscope.kind = .function) (hx : cscope.names.lookup x = some .local) (hsz : items.length ≤ 1000) (hls : s.heap.IsList l items.toArray) (Fr₀ : Fr h₀ L s.heap m) (N : News h₀ L s.heap news)
    (helt : ∀ C i v (s₃ : Shared) m₃, items[i]? = some v → s₃.heap.Ns C m₃ → m₃ x = some v → (∀ b o, s.heap.get? b = some o → s₃.heap.get? b = some o) → s.toks ≤ s₃.toks →
      wpAny (model prog w) A (eval elt (compEnvC cscope cl C env)) (fun y s₄ => ∃ l, Fp i y l ∧ (∀ p ∈ l, s₄.heap.get? p.1 = some p.2 ∧ s₃.heap.get? p.1 = none) ∧ Kp s₃ s₄) (fun _ _ => False) s₃)
    (h : ∀ h' g' tk' D k rs, ListGot Fp items.length h₀ L m news s h' g' D k rs → Q (.ref D) { s with heap := h', gens := g', toks := tk' }) :
    wpAny (model prog w) A (pyIter (.ref l)) (fun it s₂ => ∃ I fp wr n B St F, it = .ref I ∧ Turns prog w A env cscope cl (.Name x px) I fp wr n B St ∧ n ≤ sizeLine ∧ St 0 s₂.heap ∧ (∀ b ∈ fp, b < s₂.heap.objs.size) ∧
      (∀ i h, St i h → ∀ b ∈ wr, ∃ o, h.get? b = some o) ∧ EltOk prog w A env cscope cl elt wr n B F s₂ ∧
      (∀ D h' g' tk rs, CompGot F n wr s₂ h' g' D rs → Q (.ref D) { s₂ with heap := h', gens := g', toks := tk })) E s := by
  refine wpAny_pyIter_list hls ?_
  have hI0 : h₀.get? s.heap.objs.size = none := none_above Fr₀.keep (Nat.le_refl _)
  have F₂ := Fr₀.push { cls := .type "list_iterator", data := .fields #[.ref l, .int 0 0] }
  have N₂ : News h₀ L (s.heap.push { cls := .type "list_iterator", data := .fields #[.ref l, .int 0 0] }) news := News.ext N fun _ _ e => Heap.get?_push_of_some _ e
  have hlI : l ≠ s.heap.objs.size := by obtain ⟨o, ho, _⟩ := hls; exact Nat.ne_of_lt (Heap.lt_size ho)
  have hIb : ∀ b o, s.heap.get? b = some o → b ∉ [s.heap.objs.size] := fun b o e q => by rw [List.mem_singleton.mp q] at e; exact Nat.lt_irrefl _ (Heap.lt_size e)
  refine ⟨s.heap.objs.size, _, _, _, _, _, Fp, rfl, Turns.name (px := px) (Walks.list hh s.heap.objs.size l hlI items.toArray) hck hx, by rw [sizeLine_eq, List.size_toArray]; exact Nat.le_trans hsz (by decide),
    ⟨⟨_, Heap.get?_push_size _ rfl, rfl, rfl⟩, hls.at fun o e => Heap.get?_push_of_some _ e⟩, ?_, fun i h hst => listIter_live i h hst, ?_, ?_⟩
  · intro c hc
    show c < (s.heap.push _).objs.size
    rw [Heap.size_push]
    rcases List.mem_cons.mp hc with rfl | hc
    · exact Nat.lt_succ_self _
    · rw [List.mem_singleton.mp hc]
      obtain ⟨o, ho, _⟩ := hls
      exact Nat.lt_succ_of_lt (Heap.lt_size ho)
  · rintro C i s₃ m₃ hC hi ⟨v, hv, hm₃⟩ hn₃ hk₃ htk
    exact helt C i v s₃ m₃ (by simpa using hv) hn₃ hm₃ (fun b o e => hk₃ b o (hIb b o e) (Heap.get?_push_of_some _ e)) htk
  · intro D h' g' tk' rs CG
    have hfr := CG.fr F₂ (fun c hc => by rw [List.mem_singleton.mp hc]; exact ⟨hI0, Nat.ne_of_gt Fr₀.ns.lt⟩)
    obtain ⟨k, hN⟩ := CG.led F₂ N₂ (fun q hq => hIb _ _ (N q hq).1)
    refine h h' g' tk' D k rs ⟨hfr, hN, by simpa using CG.len, CG.each, fun q hq e => ?_, fun b o e => CG.keep b o (hIb b o e) (Heap.get?_push_of_some _ e), ?_, CG.bare⟩
    · have h1 := (N₂ q hq).1
      rw [e, CG.none] at h1
      cases h1
    · cases e : s.heap.get? D with
      | none => rfl
      | some o =>
        have := CG.none
        rw [show (s.heap.push { cls := .type "list_iterator", data := .fields #[.ref l, .int 0 0] }).get? D = some o from Heap.get?_push_of_some _ e] at this
        cases this

/-- [elt for x in iter], iter a name that holds a list -/
theorem comp_evalL {x : Str} {px : Pos} {elt iter : Expr} {cscope : Scope} {cl : List (Str × Addr)} {l : Addr} {items : List Value} {pos : Pos} (Fp : Nat → Value → List (Addr × Obj) → Prop)
    (hclos : closureFor cscope env = pure cl) (hcell : ∀ y ∈ cscope.names, y.2 ≠ .cell) (hnames : ∀ y ∈ cscope.names, y.2 = .local → cscope.names.lookup y.1 = some .local)
    (hit : ∀ Q' : Value → Shared → Prop, Q' (.ref l) s → wpAny (model prog w) A (eval iter env) Q' E s)
    (hh : A.handled = none) (hck : cscope.kind = .function) (hx : cscope.names.lookup x = some .local) (hsz : items.length ≤ 1000) (hls : s.heap.IsList l items.toArray) (Fr₀ : Fr h₀ L s.heap m) (N : News h₀ L s.heap news)
    (helt : ∀ C i v (s₃ : Shared) m₃, items[i]? = some v → s₃.heap.Ns C m₃ → m₃ x = some v → (∀ b o, s.heap.get? b = some o → s₃.heap.get? b = some o) → s.toks ≤ s₃.toks →
      wpAny (model prog w) A (eval elt (compEnvC cscope cl C env)) (fun y s₄ => ∃ l, Fp i y l ∧ (∀ p ∈ l, s₄.heap.get? p.1 = some p.2 ∧ s₃.heap.get? p.1 = none) ∧ Kp s₃ s₄) (fun _ _ => False) s₃)
    (h : ∀ h' g' tk' D k rs, ListGot Fp items.length h₀ L m news s h' g' D k rs → Q (.ref D) { s with heap := h', gens := g', toks := tk' })
    (hs : ∀ x, foldedSetIterable iter env x = pure x := by intro _; rfl) :
    wpAny (model prog w) A (eval (.ListComp elt [⟨.Name x px, iter, [], 0⟩] cscope pos) env) Q E s :=
  comp_eval hclos hcell hck hnames (hit _ (comp_list Fp hh hck hx hsz hls Fr₀ N helt h)) hs
end
end Mine
end
/- DRAW -/
section
open PySem PySem.W PyProof.Rows
open PySem.Builtin PySem.Builtin.Str
set_option maxRecDepth 100000
set_option genSizeOf false
set_option genInjectivity false
namespace Mine

/-- a def of the text whose names another block reads, entered -/
theorem enterC {w : World} {A : Around} {R : Result → Shared → Prop} {s : Shared} {mean : ExcName → Option Value} {mg mb : Str → Option Value}
    {name qual : Str} {params : Arguments} {body : List Stmt} {scope : Scope} {dV kV doc pm cdv ct oc : Value} {an od : Option Addr} {osl : Array (Option Value)}
    {f : Addr} {args : Args} {binds : List (Str × Value)}
    (G : Gd w mean mg mb s.heap) (hroom : A.depth < recursionLimit)
    (ho : (hd.heap_39 w.params).lookup f = some ⟨oc, od, .func (fnOf name qual params body scope dV kV doc pm an cdv ct), osl⟩) (hcd : codeIn (hd.heap_39 w.params) cdv qual = true)
    (hbind : BindsTo s (fnOf name qual params body scope dV kV doc pm an cdv ct) args binds)
    (hkind : ∀ n, ∀ x ∈ binds, scope.names.lookup x.1 = some .local ∨ (scope.names.lookup x.1 = some .cell ∧ ((cellsFrom n scope.names []).lookup x.1).isSome = true))
    (hnd : ((cellsFrom 0 scope.names []).map (·.1)).Nodup)
    (hco : scope.isCoroutine = false) (hgen : scope.isGenerator = false) (hk : scope.kind = .function)
    (h : ∀ L h₁ tk₁ cells, L = s.heap.objs.size → (∀ b o, s.heap.get? b = some o → h₁.get? b = some o) → Fr s.heap L h₁ (bindL (envOfC qual scope L f cdv).kindOf binds fun _ => none) → News s.heap L h₁ cells →
      CellsAre (bindC (envOfC qual scope L f cdv).kindOf binds fun _ => none) (cellsFrom (L + 1) scope.names []) cells →
      wpAny (model pgm w) (A.deeper (envOfC qual scope L f cdv)) (execs body (envOfC qual scope L f cdv))
        (fun fl s' => R (.ok (.ret (match fl with | .ret v => v | _ => .none))) s') (fun _ _ => False)
        { s with heap := h₁, toks := tk₁ }) : codeAny (model pgm w) A (.call (.ref f) args) R s := by
  refine codeAny_call_function (fd := fnOf name qual params body scope dV kV doc pm an cdv ct) hroom (G.K _ _ ho) rfl hco hgen rfl (codeRec_of G.K hcd) (hbind _ _ _ _ (wpAny_newFunctionEnv_cells hk (hkind _) fun env' he s' x => ?_))
  subst he
  obtain ⟨h₁, tk, rfl, hkp⟩ := x.done
  obtain ⟨cells, NC, Y⟩ := Cl.news (h₀ := s.heap) (Nat.le_refl _) fun n c hm => ⟨x.cell n c (lookup_of_mem_nodup (cellsFrom_names scope.names 0 (s.heap.objs.size + 1) [] [] rfl ▸ hnd) hm), x.above n c hm⟩
  exact ⟨G.T.nolimit.keeps hkp, codeAny_func (wpAny_mono (h _ h₁ tk cells rfl hkp ⟨x.toInCall.ns, hkp, Nat.le_refl _⟩ NC Y) (fun _ _ hl => hl) fun _ _ e => e.elim)⟩

theorem fmod16 (n : Nat) : ((n : Int).fmod 16) = ((n % 16 : Nat) : Int) := by
  rw [Int.fmod_eq_emod_of_nonneg _ (by decide)]; rfl
theorem fdiv16 (n : Nat) : ((n : Int).fdiv 16) = ((n / 16 : Nat) : Int) := by
  rw [Int.fdiv_eq_ediv_of_nonneg _ (by decide)]; rfl
/-- the sixteen pieces -/
noncomputable def PiecesAt (items : List Value) : Prop := ∀ k < 16, ∃ (y : Tx) (t : Tok), items[k]? = some (.str (toS y) t) ∧ y.length ≤ 3 ∧ okT y
section
variable {prog : Program} {w : World} {A : Around} {E : Value → Shared → Prop} {s : Shared} {env : Env} {m : Str → Option Value} {Q : Value → Shared → Prop}
theorem elt_drawn {c l : Addr} {items : List Value} {n : Nat} {t : Tok}   (hk : env.scope.kind = .function) (hpc : env.kindOf (Str.ofString "pieces") = some .cell) (hc : env.cells.lookup (Str.ofString "pieces") = some c) (hcell : s.heap.IsCell c (some (.ref l)))
    (hl : s.heap.IsList l items.toArray) (hit : PiecesAt items) (hx : env.kindOf (Str.ofString "cell") = some .local) (hn : s.heap.Ns env.locals m) (hm : m (Str.ofString "cell") = some (.int (n : Nat) t)) (hn6 : n < 1000000)
    (h : ∀ y t k, y.length ≤ 6 → okT y → Q (.str (toS y) t) { s with toks := k }) :
    wpAny (model prog w) A (eval (.BinOp (.Subscript (.Name (Str.ofString "pieces") (⟨123, 20, 123, 26⟩ : Pos)) (.BinOp (.Name (Str.ofString "cell") (⟨123, 27, 123, 31⟩ : Pos)) .Mod (.Constant (.int 16) 0 (⟨123, 34, 123, 36⟩ : Pos)) (⟨123, 27, 123, 36⟩ : Pos)) (⟨123, 20, 123, 37⟩ : Pos)) .Add
      (.Subscript (.Name (Str.ofString "pieces") (⟨123, 40, 123, 46⟩ : Pos)) (.BinOp (.BinOp (.Name (Str.ofString "cell") (⟨123, 47, 123, 51⟩ : Pos)) .FloorDiv (.Constant (.int 16) 0 (⟨123, 55, 123, 57⟩ : Pos)) (⟨123, 47, 123, 57⟩ : Pos)) .Mod (.Constant (.int 16) 0 (⟨123, 60, 123, 62⟩ : Pos)) (⟨123, 47, 123, 62⟩ : Pos)) (⟨123, 40, 123, 63⟩ : Pos)) (⟨123, 20, 123, 63⟩ : Pos)) env) Q E s := by
  have cellv : ∀ (s' : Shared) (p : Pos) (Q' : Value → Shared → Prop), (∀ b o, s.heap.get? b = some o → s'.heap.get? b = some o) → Q' (.ref l) s' → wpAny (model prog w) A (eval (.Name (Str.ofString "pieces") p) env) Q' E s' := fun s' p Q' hk' hq =>
    wpAny_Name (wpAny_loadName_cell hk hpc hc (hcell.keeps hk') hq) (by decide)
  have item : ∀ (s' : Shared) (k : Nat) (u : Tok) (Q' : Value → Shared → Prop), (∀ b o, s.heap.get? b = some o → s'.heap.get? b = some o) → k < 16 → (∀ y t', y.length ≤ 3 → okT y → Q' (.str (toS y) t') s') → SubscriptOn (model prog w) A (.ref l) (.int (k : Nat) u) Q' E s' := fun s' k u Q' hk' hk16 hq => by
    obtain ⟨y, t', e, h1, h2⟩ := hit k hk16
    have hl' : s'.heap.IsList l items.toArray := hl.at fun o e => hk' _ o e
    exact ⟨"list", _, slot_list_getitem.lookup, hl'.typeIs, wpAny_getItem_list hl' (Int.natCast_nonneg _) (natSmall hk16) (by simpa using e) (hq y t' h1 h2)⟩
  refine wpAny_BinOp (wpAny_Subscript_BinOp_late (cellv s _ _ (fun _ _ e => e) ?_) (by intro _ _; rfl))
  refine wpAny_BinOp (ev_local hk hx hn hm (wpAny_Constant_int (mod_int' (by decide) ?_)))
  rw [fmod16]
  refine item _ (n % 16) _ _ (fun _ _ e => e) (Nat.mod_lt _ (by decide)) fun y1 t1 hy1 ho1 => ?_
  refine wpAny_Subscript_BinOp_late (cellv _ _ _ (fun _ _ e => e) ?_) (by intro _ _; rfl)
  refine wpAny_BinOp (wpAny_BinOp (ev_local hk hx (s := { s with toks := _ }) hn hm (wpAny_Constant_int (floordiv_int (by decide) ?_ (Or.inl (PyProof.noPylong_small (by decide)))))))
  rw [fdiv16]
  refine wpAny_Constant_int (mod_int' (by decide) ?_)
  rw [fmod16]
  refine item _ (n / 16 % 16) _ _ (fun _ _ e => e) (Nat.mod_lt _ (by decide)) fun y2 t2 hy2 ho2 => ?_
  have hcat : okT (y1 ++ y2) := fun c hc => (List.mem_append.mp hc).elim (ho1 c) (ho2 c)
  have hlen : (y1 ++ y2).length ≤ 6 := by rw [List.length_append]; exact Nat.add_le_add hy1 hy2
  refine P.add_str ?_
  split
  · rename_i h0
    have : y1 = [] := by rw [toS_length] at h0; exact List.eq_nil_of_length_eq_zero (by simpa using h0)
    subst this
    exact h y2 t2 _ (by simpa using hlen) ho2
  · split
    · exact h y1 t1 _ (leBig hy1) ho1
    · refine ⟨by rw [← toS_append, toS_length, sizeLine_eq]; exact Nat.le_trans hlen (by decide), ?_⟩
      rw [← toS_append]
      exact h _ _ _ hlen hcat
end

theorem piece_of {x : Str} {tk : Tok} (h1 : x.length ≤ 3) (h2 : okT x.cps.toList) : ∃ (y : Tx) (t : Tok), (some (Value.str x tk)) = some (.str (toS y) t) ∧ y.length ≤ 3 ∧ okT y :=
  ⟨x.cps.toList, tk, by rw [toS_toList], by rw [len_list]; exact h1, h2⟩
theorem got_texts {P : Tx → Prop} : ∀ {rs : List (Value × List (Addr × Obj))}, (∀ (i : Nat) (r : Value × List (Addr × Obj)), rs[i]? = some r → r.2 = [] ∧ ∃ (y : Tx) (tk : Tok), r.1 = .str (toS y) tk ∧ P y) →
    ∃ ys : List Tx, SA (rs.map (·.1)) (ys.map toS) ∧ ys.length = rs.length ∧ (∀ y ∈ ys, P y) ∧ rs.flatMap (·.2) = []
  | [], _ => ⟨[], .nil, rfl, fun _ h => (by cases h), rfl⟩
  | r :: rs, h => by
    obtain ⟨ys, h1, h2, h3, h4⟩ := got_texts (rs := rs) fun i q hq => h (i + 1) q (by simpa using hq)
    obtain ⟨e, y, tk, e2, hp⟩ := h 0 r rfl
    refine ⟨y :: ys, .cons tk e2 h1, by simp [h2], fun z hz => ?_, by simp [e, h4]⟩
    rcases List.mem_cons.mp hz with rfl | hz
    · exact hp
    · exact h3 z hz
theorem flat_len {n : Nat} : ∀ {ys : List Tx}, (∀ y ∈ ys, y.length ≤ n) → ys.flatten.length ≤ ys.length * n
  | [], _ => by simp
  | y :: ys, h => by
    have h1 := h y List.mem_cons_self
    have h2 := flat_len (ys := ys) fun z hz => h z (List.mem_cons_of_mem _ hz)
    simp only [List.flatten_cons, List.length_append, List.length_cons, Nat.succ_mul]
    exact Nat.le_trans (Nat.add_le_add h1 h2) (Nat.le_of_eq (Nat.add_comm n _))

local macro_rules | `(tactic| walk_at $s:str) => `(tactic| k_extra $s)
set_option maxHeartbeats 1000000 in
theorem drawn_walk (w : World) (mean : ExcName → Option Value) (mg mb : Str → Option Value) (a : Addr) (vs : List Value)
   (dp un : Nat) (fr : Option (List Env)) (gd : Option (List Code)) (s : Shared) (R : Result → Shared → Prop) (G : Gd w mean mg mb s.heap) (hd1 : dp + 16 < recursionLimit) (hu1 : un + 200 < cLine)
   (hl : s.heap.IsList a vs.toArray) (hvl : vs.length = 3) (hvs : ∀ (i : Nat) (v : Value), vs[i]? = some v → ∃ (n : Nat) (t : Tok), v = .int n t ∧ n < 1000000)
   (kR : ∀ h' g' n' x tk', (∀ b o, s.heap.get? b = some o → h'.get? b = some o) → (AllBare s.gens → AllBare g') → x.length ≤ 18 → okT x → R (.ok (.ret (.str (toS x) tk'))) { s with heap := h', gens := g', toks := n' })
   : codeAny (model pgm w) ⟨none, dp, fr, gd, un⟩ (.call (.ref 82) ⟨[Value.ref a], []⟩) R s := by
  have dummy : PySem.Challenge.rw_wa0019_01 = PySem.Challenge.rw_wa0019_01 → Mine.hd.heap_39 = Mine.hd.heap_39 → True := by
    k_fill
    intros; trivial
  clear dummy
  k_with_none
  (k_with "call builtin:str.join" => ((refine stop_here ?_)))
  (k_with "eval ListComp" => ((refine stop_here ?_)))
  have kX := G.K
  have kT := G.T
  refine enterC G (room0 hd1) (by k_is) (by k_is) (BindsTo.of_eq rfl) (by intro n x hx; revert x; simp) (by decide) rfl rfl rfl ?_
  intro L' h' tk' cells eL' kk F' N' C'
  (try dsimp only)
  (try k_fold)
  have C2 : CellsAre _ [(Str.ofString "pieces", L' + 1)] cells := C'
  obtain ⟨o9, rfl, ho9⟩ := C2.one
  k_steps
  delta Stop
  rename Fr _ _ _ _ => F1
  rename News _ _ _ _ => N1
  rename Obj.data _ = Data.cell (some _) => hcd
  have hls := hl.at fun o e => F1.keep _ o e
  have hpl := (N1 _ List.mem_cons_self).1
  have hcl := (N1 _ (List.mem_cons_of_mem _ List.mem_cons_self)).1
  refine comp_evalL (cl := [(Str.ofString "pieces", L' + 1)]) (items := vs) (l := a) (L := L') (h₀ := s.heap) (fun i v l => l = [] ∧ ∃ (y : Tx) (tk : Tok), v = .str (toS y) tk ∧ (y.length ≤ 6 ∧ okT y)) (by rfl) (by decide) (by decide) (fun Q' hq => ev_local (v := .ref a) rfl rfl F1.ns (by rfl) hq) rfl rfl rfl (Nat.le_trans (Nat.le_of_eq hvl) (Nat.le_of_ble_eq_true rfl)) hls F1 N1 ?_ ?_ (by intro _; rfl)
  · intro C i v s₃ m₃ hv hn hm hk _
    obtain ⟨n, t, rfl, hn6⟩ := hvs i v hv
    have hpl3 : s₃.heap.IsList _ _ := ⟨_, hk _ _ hpl, rfl, _, rfl⟩
    refine elt_drawn (c := L' + 1) rfl (by rfl) (by rfl) ⟨_, hk _ _ hcl, hcd⟩ hpl3 ?_ (lookup_relabel_local rfl) hn hm hn6 fun y t' k' h1 h2 => ⟨[], ⟨rfl, y, t', rfl, h1, h2⟩, (fun _ hp => by cases hp), s₃.heap, s₃.gens, k', rfl, fun _ _ e => e, id⟩
    intro k hk16
    rcases k with _ | _ | _ | _ | _ | _ | _ | _ | _ | _ | _ | _ | _ | _ | _ | _ | k
    all_goals (first | exact piece_of (by decide) (by unfold okT; decide) | exact absurd hk16 (Nat.not_lt.mpr (Nat.le_add_left 16 k)))
  · intro h2 g2 tk2 D k rs LG
    obtain ⟨ys, hsa, hylen, hyp, hnil⟩ := got_texts LG.each
    have hrl := LG.len
    have FF := LG.F
    have NN := LG.N
    have hbare := LG.bare
    clear F1 N1 LG
    k_steps
    delta Stop
    rename Fr _ _ _ _ => FF2
    rename News _ _ _ _ => NN2
    have hfl := flat_len (n := 6) fun y hy => (hyp y hy).1
    rw [hylen, hrl, hvl] at hfl
    refine join_SA (xs := ys) ⟨_, (NN2 _ List.mem_cons_self).1, rfl, _, rfl⟩ (by simpa using hsa) (leBig hfl) fun t' k' => ?_
    refine kR _ _ _ _ _ FF2.keep hbare hfl fun c hc => ?_
    obtain ⟨y, hy, hcy⟩ := List.mem_flatten.mp hc
    exact (hyp y hy).2 c hcy
end Mine
end
/- LEFT -/
section
open PySem PySem.W PyProof.Rows
set_option maxRecDepth 100000
set_option genSizeOf false
set_option genInjectivity false
namespace Mine
open PySem.Builtin PySem.Builtin.Str
local macro_rules | `(tactic| walk_at $s:str) => `(tactic| k_extra $s)
set_option maxHeartbeats 4000000 in
theorem left_walk (w : World) (mean : ExcName → Option Value) (mg mb : Str → Option Value) (t : Str) (tk : Tok) (ht : t.length ≤ 4096)
   (dp un : Nat) (fr : Option (List Env)) (gd : Option (List Code)) (s : Shared) (R : Result → Shared → Prop) (G : Gd w mean mg mb s.heap) (hd1 : dp + 12 < recursionLimit) (hu1 : un + 60 < cLine)
   (kR : ∀ h' n' a vs k, (∀ b o, s.heap.get? b = some o → h'.get? b = some o) → h'.get? a = some (listOf vs.toArray k) → s.heap.get? a = none → SA vs ((left t.cps.toList).map toS) → R (.ok (.ret (.ref a))) { s with heap := h', toks := n' }) : codeAny (model pgm w) ⟨none, dp, fr, gd, un⟩ (.call (.ref 103) ⟨[Value.str t tk], []⟩) R s := by
  have dummy : PySem.Challenge.rw_wa0019_01 = PySem.Challenge.rw_wa0019_01 → Mine.hd.heap_39 = Mine.hd.heap_39 → True := by
    k_fill
    intros; trivial
  clear dummy
  k_with_none
  (k_with "len" => (first | assumption | decide | (with_reducible refine Nat.le_trans (shorn_lenS _) ?_; walk_at "len") | (with_reducible refine Nat.le_trans (named_lenS _ _) ?_; walk_at "len")))
  (k_with "room" => (((try dsimp only [Around.deeper]); first | exact roomT _ _ hd1 rfl | exact roomT _ _ hu1 rfl | exact room _ hd1 rfl | exact room _ hu1 rfl | exact room0 hd1)))
  (k_with "call ref" => ((first | ((with_reducible refine shorn_call (by assumption) (by assumption) (by assumption) rfl (by walk_at "room") (by walk_at "room") (by walk_at "len") ?_)) | ((with_reducible refine lnamed_call (by assumption) (by assumption) (by assumption) rfl (by walk_at "room") (by walk_at "room") (by walk_at "len") (by walk_at "len") ?_))); (intro h'9 n'9 tk'9 F' N'); (try dsimp only); (try k_fold)))
  have kX := G.K
  have kT := G.T
  refine enter G (room0 hd1) (by k_is) (by k_is) (BindsTo.of_eq rfl) (locs rfl) (by decide) rfl rfl rfl ?_
  intro L' h' tk' eL' kk F' N'
  (try dsimp only)
  (try k_fold)
  k_steps
  all_goals (
    rename Fr _ _ _ _ => FF
    rename News _ _ _ _ => NN
    have hl := (NN _ (List.Mem.head _)).1
    have hl2 := (NN _ (List.Mem.head _)).2.2
    have z0 : t = toS t.cps.toList := (toS_toList t).symm
    simp only [ends_E, ends_C, toS_cps] at hl
    refine kR _ _ _ _ _ FF.keep hl hl2 ?_
    refine SA.cons _ (congrArg (fun y => Value.str y _) z0) ?_
    repeat (first | exact SA.nil | refine SA.cons _ rfl ?_))
end Mine
end
/- ESC -/
section
open PySem PySem.W PyProof.Rows
set_option maxRecDepth 100000
set_option genSizeOf false
set_option genInjectivity false
namespace Mine
open PySem.Builtin PySem.Builtin.Str

noncomputable def repF (c : Nat) (w : Tx) (l : Tx) : Tx := l.flatMap fun d => if d = c then w else [d]
theorem repF_free {c : Nat} {w l : Tx} (h : c ∉ l) : repF c w l = l := by
  induction l with
  | nil => rfl
  | cons d r ih =>
    simp only [List.mem_cons, not_or] at h
    show (if d = c then w else [d]) ++ repF c w r = d :: r
    rw [if_neg (fun q => h.1 q.symm), ih h.2]; rfl
theorem repF_app (c : Nat) (w a b : Tx) : repF c w (a ++ b) = repF c w a ++ repF c w b := by simp [repF]
theorem app_list (x y : Str) : (x ++ y).cps.toList = x.cps.toList ++ y.cps.toList := by
  show (x.cps ++ y.cps).toList = _
  simp
theorem join_rep (c : Nat) (z : Str) : ∀ parts : List Str, (∀ p ∈ parts, c ∉ p.cps.toList) → (Str.join z parts).cps.toList = repF c z.cps.toList (Str.join ⟨#[c]⟩ parts).cps.toList
  | [], _ => rfl
  | [x], h => by
    show x.cps.toList = repF c _ x.cps.toList
    rw [repF_free (h x (by simp))]
  | x :: y :: r, h => by
    show (x ++ z ++ Str.join z (y :: r)).cps.toList = repF c _ (x ++ ⟨#[c]⟩ ++ Str.join ⟨#[c]⟩ (y :: r)).cps.toList
    rw [app_list, app_list, app_list, app_list, repF_app, repF_app, repF_free (h x (by simp)), join_rep c z (y :: r) fun p hp => h p (by simp [List.mem_cons.mp hp])]
    congr 2
    simp [repF]
theorem replace_rep (x z : Str) (c : Nat) : Txt.replace x ⟨#[c]⟩ z = toS (repF c z.cps.toList x.cps.toList) := by
  rw [StrLaws.replace_one, ← toS_toList (Str.join z _), join_rep c z _ (StrLaws.split_free x c), StrLaws.join_split]

section
variable {prog : Program} {w : World} {A : Around} {E : Value → Shared → Prop} {s : Shared} {x y z : Str} {t u v : Tok}
theorem replaceT {Q : Value → Shared → Prop} (hu : u ≠ 0) (hv : v ≠ 0) (huv : u ≠ v) (hyz : (y == z) = false) (hb : x.length + (x.length + 1) * z.length ≤ 16777216)
    (hq : ∀ t' k, s.toks ≤ k → Q (.str (Txt.replace x y z) t') { s with toks := k }) : wpAny (model prog w) A (call (.builtin "str.replace") [.str x t, .str y u, .str z v]) Q E s := by
  have hl : tooLong (x.length + (occurrences x y 0 x.length (x.length + 1)).length * z.length) = false := by
    have h1 := StrLaws.occ_length_le x y 0 x.length (x.length + 1)
    have h2 : (occurrences x y 0 x.length (x.length + 1)).length * z.length ≤ (x.length + 1) * z.length := Nat.mul_le_mul_right _ h1
    unfold tooLong
    rw [sizeLine_eq]
    exact decide_eq_false (Nat.not_lt.mpr (Nat.le_trans (Nat.add_le_add_left h2 _) hb))
  refine call_gives F.slot_str_replace (typeIs_str _ _ _) F.entry_str_replace (F.args_str_replace_3 _ _ _) (gives_str_replace x y z t u v fun _ => ⟨by simp [hu, hv], by simp [huv], hyz, hl⟩) ?_
  cases hc : ((occurrences x y 0 x.length (x.length + 1)).isEmpty || (y.length == 0 && z.length == 0))
  · have e : Txt.replace x y z = glued z (partsBetween x (occurrences x y 0 x.length (x.length + 1)) y.length) := by unfold Txt.replace; rw [hc, if_neg Bool.false_ne_true]
    rw [e] at hq
    simp only [Bool.false_eq_true, if_false]
    exact ⟨fits_replaced y hb, hq _ _ (Nat.le_succ _)⟩
  · have e : Txt.replace x y z = x := by unfold Txt.replace; rw [hc, if_pos rfl]
    rw [e] at hq
    simp only [if_true]
    exact hq t s.toks (Nat.le_refl _)

theorem in_one {cs : Str} {c : Nat} (hc : cs = ⟨#[c]⟩) {Q : Value → Shared → Prop} (h : Q (.bool (decide (c ∈ x.cps.toList))) s) : wpAny (model prog w) A (compareOp .In (.str cs u) (.str x t)) Q E s := by
  subst hc
  refine P.in_str ?_
  rw [StrLaws.found_one]
  exact h
end

/-- one «if c in text: text = text.replace(c, ..)» -/
theorem esc_step {prog : Program} {w : World} {A : Around} {E : Value → Shared → Prop} {s : Shared} {Q : Flow → Shared → Prop} {h₀ : Heap} {L a : Addr} {m : Str → Option Value} {news : List (Addr × Obj)}
    {name : Str} {scope : Scope} {cd : Value} {cs ws x : Str} {tk : Tok} {pl : Sem Bool} {p1 p2 p3 p4 p5 p6 p7 p8 p9 p10 p11 : Pos} {n1 n2 n3 : Nat} (c : Nat)
    (F : Fr h₀ L s.heap m) (N : News h₀ L s.heap news) (hm : m (Str.ofString "text") = some (.str x tk)) (h0 : 0 < s.toks)
    (hc : cs = ⟨#[c]⟩) (hw : ws.length ≤ 14) (hne : (cs == ws) = false) (hx : x.length ≤ 1000000)
    (hk : scope.kind = .function) (hl : (envOf name scope L a cd).kindOf (Str.ofString "text") = some .local)
    (hs : swapsWith (.Call (.Attribute (.Name (Str.ofString "text") p5) (Str.ofString "replace") p6) [.Constant (.str cs) n2 p7, .Constant (.str ws) n3 p8] [] p9) (some (.Name (Str.ofString "text") p4)) p10.line (envOf name scope L a cd) = pure false)
    (he : eval (.Call (.Attribute (.Name (Str.ofString "text") p5) (Str.ofString "replace") p6) [.Constant (.str cs) n2 p7, .Constant (.str ws) n3 p8] [] p9) (envOf name scope L a cd) = (do
      let ov ← eval (.Name (Str.ofString "text") p5) (envOf name scope L a cd)
      standAt p6.atName
      let (f, first) ← holding [ov] (getMethod ov (Str.ofString "replace") pl)
      callWith p9 f first (backTo p9 (starEach [.Constant (.str cs) n2 p7, .Constant (.str ws) n3 p8] (envOf name scope L a cd))) []))
    (h : ∀ h' n' t', 0 < n' → Fr h₀ L h' (fun y => if y = Str.ofString "text" then some (.str (toS (repF c ws.cps.toList x.cps.toList)) t') else m y) → News h₀ L h' news → Q .next { s with heap := h', toks := n' }) :
    wpAny (model prog w) A (exec (.If (.Compare (.Constant (.str cs) n1 p1) [.In] [.Name (Str.ofString "text") p2] p3)
      [.Assign [.Name (Str.ofString "text") p4] (.Call (.Attribute (.Name (Str.ofString "text") p5) (Str.ofString "replace") p6) [.Constant (.str cs) n2 p7, .Constant (.str ws) n3 p8] [] p9) p10] [] p11) (envOf name scope L a cd)) Q E s := by
  refine wpAny_If (wpAny_isTrue_Compare1 (wpAny_Constant_str (ld (s := { s with toks := s.toks + 1 }) F hm (in_one hc (wpAny_truthy_bool ?_)) hk hl)))
  by_cases hin : c ∈ x.cps.toList
  · rw [if_pos (decide_eq_true hin)]
    refine wpAny_execs_cons (wpAny_Assign_Name (hs := hs) (MethodCall_ (ld (s := { s with toks := s.toks + 1 }) F hm (GM.replace (callWith_method1 (wpAny_items_cons (wpAny_Constant_str (wpAny_items_cons (wpAny_Constant_str (wpAny_items_nil ?_)))))) ) hk hl) he))
    refine replaceT (Nat.succ_ne_zero _) (Nat.succ_ne_zero _) (Nat.ne_of_lt (Nat.lt_succ_self _)) hne ?_ fun t' k hk' => ?_
    · exact Nat.le_trans (Nat.add_le_add hx (Nat.mul_le_mul (Nat.succ_le_succ hx) hw)) (Nat.le_of_ble_eq_true rfl)
    refine stN F N (fun h' F' N' => ?_) hk hl
    subst hc
    rw [replace_rep] at F'
    exact wpAny_execs_nil (h h' _ t' (Nat.succ_pos k) F' N')
  · rw [if_neg (by simpa using hin)]
    refine wpAny_execs_nil (h s.heap _ tk (Nat.succ_pos _) ?_ N)
    have e : (fun y => if y = Str.ofString "text" then some (Value.str (toS (repF c ws.cps.toList x.cps.toList)) tk) else m y) = m := by
      funext y
      by_cases hy : y = Str.ofString "text"
      · rw [if_pos hy, hy, hm, repF_free hin, toS_toList]
      · rw [if_neg hy]
    rw [e]
    exact F
end Mine
end
/- ESC2 -/
section
open PySem PySem.W PyProof.Rows
set_option maxRecDepth 100000
set_option genSizeOf false
set_option genInjectivity false
namespace Mine
open PySem.Builtin PySem.Builtin.Str
noncomputable def chainF (cw : List (Nat × Tx)) (l : Tx) : Tx := cw.foldl (fun l p => repF p.1 p.2 l) l
theorem chain_snoc (cw : List (Nat × Tx)) (c : Nat) (w l : Tx) : repF c w (chainF cw l) = chainF (cw ++ [(c, w)]) l := by
  unfold chainF; rw [List.foldl_append]; rfl
theorem chain_app (cw : List (Nat × Tx)) : ∀ a b : Tx, chainF cw (a ++ b) = chainF cw a ++ chainF cw b := by
  induction cw with
  | nil => intro a b; rfl
  | cons p r ih =>
    intro a b
    show chainF r (repF p.1 p.2 (a ++ b)) = chainF r (repF p.1 p.2 a) ++ chainF r (repF p.1 p.2 b)
    rw [repF_app, ih]
theorem chain_nil (cw : List (Nat × Tx)) : chainF cw [] = [] := by
  induction cw with
  | nil => rfl
  | cons p r ih => exact ih
theorem chain_ex (cw : List (Nat × Tx)) (l : Tx) : chainF cw l = ex (fun d => chainF cw [d]) l := by
  induction l with
  | nil => exact chain_nil cw
  | cons d r ih =>
    rw [show d :: r = [d] ++ r from rfl, chain_app, ih]
    rfl
theorem chain_out (cw : List (Nat × Tx)) (d : Nat) (h : d ∉ cw.map (·.1)) : chainF cw [d] = [d] := by
  induction cw with
  | nil => rfl
  | cons p r ih =>
    simp only [List.map_cons, List.mem_cons, not_or] at h
    show chainF r (repF p.1 p.2 [d]) = [d]
    rw [repF_free (by simpa using fun q => h.1 q.symm), ih h.2]
theorem ex_length (e : Nat → Tx) (k : Nat) (he : ∀ d, (e d).length ≤ k) (l : Tx) : (ex e l).length ≤ k * l.length := by
  induction l with
  | nil => exact Nat.zero_le _
  | cons d r ih =>
    show (e d ++ ex e r).length ≤ k * (r.length + 1)
    rw [List.length_append, Nat.mul_add, Nat.mul_one]
    exact Nat.le_trans (Nat.add_le_add (he d) ih) (Nat.le_of_eq (Nat.add_comm _ _))
theorem chain_length (cw : List (Nat × Tx)) (hcw : (cw.all fun p => decide ((chainF cw [p.1]).length ≤ 20)) = true) (l : Tx) : (chainF cw l).length ≤ 20 * l.length := by
  rw [chain_ex]
  refine ex_length _ 20 (fun d => ?_) l
  by_cases h : d ∈ cw.map (·.1)
  · obtain ⟨p, hp, rfl⟩ := List.mem_map.mp h
    exact of_decide_eq_true (List.all_eq_true.mp hcw p hp)
  · rw [chain_out cw d h]; simp

noncomputable def chainOf : Nat → List (Nat × Tx)
  | 0 => [(38, [38, 97, 109, 112, 59]), (60, [38, 108, 116, 59]), (62, [38, 103, 116, 59])]
  | 1 => [(38, [38, 97, 109, 112, 59]), (60, [38, 108, 116, 59]), (62, [38, 103, 116, 59]), (34, [38, 113, 117, 111, 116, 59]), (13, [38, 35, 49, 51, 59]), (10, [38, 35, 49, 48, 59]), (9, [38, 35, 48, 57, 59])]
  | 2 => [(38, [38, 97, 109, 112, 59]), (62, [38, 103, 116, 59]), (34, [38, 113, 117, 111, 116, 59])]
  | 3 => [(38, [38, 97, 109, 112, 59]), (60, [38, 108, 116, 59]), (62, [38, 103, 116, 59]), (13, [38, 35, 120, 68, 59])]
  | _ => [(38, [38, 97, 109, 112, 59]), (60, [38, 108, 116, 59]), (34, [38, 113, 117, 111, 116, 59]), (9, [38, 35, 120, 57, 59]), (10, [38, 35, 120, 65, 59]), (13, [38, 35, 120, 68, 59])]
theorem chain_in : ∀ h ∈ List.range 5, ∀ c ∈ U7, chainF (chainOf h) [c] = eT (tabOf [h]) c := by decide +kernel
theorem chain_keys : ∀ h ∈ List.range 5, ∀ p ∈ chainOf h, p.1 ∈ U7 := by decide +kernel
theorem chain_is (h : Nat) (hh : h < 5) (l : Tx) : chainF (chainOf h) l = ex (eT (tabOf [h])) l := by
  rw [chain_ex]
  congr 1
  funext c
  by_cases hc : c ∈ U7
  · exact chain_in h (List.mem_range.mpr hh) c hc
  · rw [chain_out, eT_out (.one hh) hc]
    intro hm
    obtain ⟨p, hp, rfl⟩ := List.mem_map.mp hm
    exact hc (chain_keys h (List.mem_range.mpr hh) p hp)

theorem esc_stepC {prog : Program} {w : World} {A : Around} {E : Value → Shared → Prop} {s : Shared} {Q : Flow → Shared → Prop} {h₀ : Heap} {L a : Addr} {m : Str → Option Value} {news : List (Addr × Obj)}
    {name : Str} {scope : Scope} {cd : Value} {cs ws : Str} {tk : Tok} {pl : Sem Bool} {p1 p2 p3 p4 p5 p6 p7 p8 p9 p10 p11 : Pos} {n1 n2 n3 : Nat} (cw : List (Nat × Tx)) (l : Tx) (c : Nat) (wl : Tx)
    (F : Fr h₀ L s.heap m) (N : News h₀ L s.heap news) (hm : m (Str.ofString "text") = some (.str (toS (chainF cw l)) tk)) (h0 : 0 < s.toks)
    (hc : cs = ⟨#[c]⟩) (hwl : ws = toS wl) (hw : wl.length ≤ 14) (hne : (cs == ws) = false) (hcw : (cw.all fun p => decide ((chainF cw [p.1]).length ≤ 20)) = true) (hx : l.length ≤ 50000)
    (hk : scope.kind = .function) (hl : (envOf name scope L a cd).kindOf (Str.ofString "text") = some .local)
    (hs : swapsWith (.Call (.Attribute (.Name (Str.ofString "text") p5) (Str.ofString "replace") p6) [.Constant (.str cs) n2 p7, .Constant (.str ws) n3 p8] [] p9) (some (.Name (Str.ofString "text") p4)) p10.line (envOf name scope L a cd) = pure false)
    (he : eval (.Call (.Attribute (.Name (Str.ofString "text") p5) (Str.ofString "replace") p6) [.Constant (.str cs) n2 p7, .Constant (.str ws) n3 p8] [] p9) (envOf name scope L a cd) = (do
      let ov ← eval (.Name (Str.ofString "text") p5) (envOf name scope L a cd)
      standAt p6.atName
      let (f, first) ← holding [ov] (getMethod ov (Str.ofString "replace") pl)
      callWith p9 f first (backTo p9 (starEach [.Constant (.str cs) n2 p7, .Constant (.str ws) n3 p8] (envOf name scope L a cd))) []))
    (h : ∀ h' n' t', 0 < n' → Fr h₀ L h' (fun y => if y = Str.ofString "text" then some (.str (toS (chainF (cw ++ [(c, wl)]) l)) t') else m y) → News h₀ L h' news → Q .next { s with heap := h', toks := n' }) :
    wpAny (model prog w) A (exec (.If (.Compare (.Constant (.str cs) n1 p1) [.In] [.Name (Str.ofString "text") p2] p3)
      [.Assign [.Name (Str.ofString "text") p4] (.Call (.Attribute (.Name (Str.ofString "text") p5) (Str.ofString "replace") p6) [.Constant (.str cs) n2 p7, .Constant (.str ws) n3 p8] [] p9) p10] [] p11) (envOf name scope L a cd)) Q E s := by
  refine esc_step (pl := pl) c F N hm h0 hc (by rw [hwl, toS_length]; exact hw) hne ?_ hk hl hs he fun h' n' t' hn F' N' => h h' n' t' hn ?_ N'
  · rw [toS_length]; exact Nat.le_trans (chain_length cw hcw l) (Nat.le_trans (Nat.mul_le_mul_left 20 hx) (Nat.le_of_ble_eq_true rfl))
  · rw [hwl, toS_cps, toS_cps, chain_snoc] at F'
    exact F'

theorem zs_a : Str.ofString "&" = ⟨#[38]⟩ := by decide
theorem zs_b : Str.ofString "<" = ⟨#[60]⟩ := by decide
theorem zs_c : Str.ofString ">" = ⟨#[62]⟩ := by decide
theorem zs_d : Str.ofString "\"" = ⟨#[34]⟩ := by decide
theorem zs_e : Str.ofString "\r" = ⟨#[13]⟩ := by decide
theorem zs_f : Str.ofString "\n" = ⟨#[10]⟩ := by decide
theorem zs_g : Str.ofString "\t" = ⟨#[9]⟩ := by decide
theorem zw_a : Str.ofString "&amp;" = toS [38, 97, 109, 112, 59] := by decide
theorem zw_b : Str.ofString "&lt;" = toS [38, 108, 116, 59] := by decide
theorem zw_c : Str.ofString "&gt;" = toS [38, 103, 116, 59] := by decide
theorem zw_d : Str.ofString "&quot;" = toS [38, 113, 117, 111, 116, 59] := by decide
theorem zw_e : Str.ofString "&#13;" = toS [38, 35, 49, 51, 59] := by decide
theorem zw_f : Str.ofString "&#10;" = toS [38, 35, 49, 48, 59] := by decide
theorem zw_g : Str.ofString "&#09;" = toS [38, 35, 48, 57, 59] := by decide
theorem zw_h : Str.ofString "&#xD;" = toS [38, 35, 120, 68, 59] := by decide
theorem zw_i : Str.ofString "&#xA;" = toS [38, 35, 120, 65, 59] := by decide
theorem zw_j : Str.ofString "&#x9;" = toS [38, 35, 120, 57, 59] := by decide
local macro_rules | `(tactic| walk_at $s:str) => `(tactic| k_extra $s)
set_option maxHeartbeats 4000000 in
theorem esc0_walk (w : World) (mean : ExcName → Option Value) (mg mb : Str → Option Value) (l : Tx) (tk : Tok) (ht : l.length ≤ 50000)
   (dp un : Nat) (fr : Option (List Env)) (gd : Option (List Code)) (s : Shared) (R : Result → Shared → Prop) (G : Gd w mean mg mb s.heap) (h0 : 0 < s.toks) (hd1 : dp + 8 < recursionLimit) (hu1 : un + 40 < cLine)
   (kR : ∀ h' n' tk', 0 < n' → (∀ b o, s.heap.get? b = some o → h'.get? b = some o) → R (.ok (.ret (.str (toS (ex (eT (tabOf [0])) l)) tk'))) { s with heap := h', toks := n' }) : codeAny (model pgm w) ⟨none, dp, fr, gd, un⟩ (.call (.ref 49) ⟨[Value.str (toS l) tk], []⟩) R s := by
  have dummy : PySem.Challenge.rw_wa0019_01 = PySem.Challenge.rw_wa0019_01 → Mine.hd.heap_39 = Mine.hd.heap_39 → True := by
    k_fill
    intros; trivial
  clear dummy
  k_with_none
  (k_with "esc sign" => (first | (with_reducible exact zs_a) | (with_reducible exact zs_b) | (with_reducible exact zs_c) | (with_reducible exact zs_d) | (with_reducible exact zs_e) | (with_reducible exact zs_f) | (with_reducible exact zs_g)))
  (k_with "esc word" => (first | (with_reducible exact zw_a) | (with_reducible exact zw_b) | (with_reducible exact zw_c) | (with_reducible exact zw_d) | (with_reducible exact zw_e) | (with_reducible exact zw_f) | (with_reducible exact zw_g) | (with_reducible exact zw_h) | (with_reducible exact zw_i) | (with_reducible exact zw_j)))
  (k_with "exec If" => ((
    (with_reducible show wpAny _ _ (exec (Stmt.If (Expr.Compare (Expr.Constant _ _ _) [CmpOp.In] _ _) _ _ _) _) _ _ _);
    (k_dflt (
    (first
      | (refine' esc_stepC _ _ _ _ ?kF ?kN ?km ?k0 ?kc ?kw ?kwl ?kne ?kcw ?kx ?kk ?kl ?ks ?ke ?_; (case kF => k_asm); (case kN => k_asm); (case km => exact if_pos rfl))
      | (refine' esc_stepC [] _ _ _ ?kF ?kN ?km ?k0 ?kc ?kw ?kwl ?kne ?kcw ?kx ?kk ?kl ?ks ?ke ?_; (case kF => k_asm); (case kN => k_asm); (case km => rfl)));
    (case k0 => assumption); (case kc => walk_at "esc sign"); (case kw => walk_at "esc word"); (case kwl => decide); (case kne => decide); (case kcw => decide); (case kx => assumption); (case kk => rfl); (case kl => rfl); (case ks => rfl); (case ke => rfl)));
    (intro h'9 n'9 t'9 hn9 F' N'); (try dsimp only))))
  have kX := G.K
  have kT := G.T
  have e9 := chain_is 0 (by decide) l
  rw [← e9] at kR
  clear e9
  refine enterT G (room0 hd1) (by k_is) (by k_is) (BindsTo.of_eq rfl) (locs rfl) (by decide) rfl rfl rfl ?_
  intro L' h' tk' eL' hT kk F' N'
  have hn9 : 0 < tk' := Nat.lt_of_lt_of_le h0 hT
  (try dsimp only)
  (try k_fold)
  k_steps
  all_goals exact kR _ _ _ (by assumption) (Fr.keep (by assumption))
set_option maxHeartbeats 4000000 in
theorem esc1_walk (w : World) (mean : ExcName → Option Value) (mg mb : Str → Option Value) (l : Tx) (tk : Tok) (ht : l.length ≤ 50000)
   (dp un : Nat) (fr : Option (List Env)) (gd : Option (List Code)) (s : Shared) (R : Result → Shared → Prop) (G : Gd w mean mg mb s.heap) (h0 : 0 < s.toks) (hd1 : dp + 8 < recursionLimit) (hu1 : un + 40 < cLine)
   (kR : ∀ h' n' tk', 0 < n' → (∀ b o, s.heap.get? b = some o → h'.get? b = some o) → R (.ok (.ret (.str (toS (ex (eT (tabOf [1])) l)) tk'))) { s with heap := h', toks := n' }) : codeAny (model pgm w) ⟨none, dp, fr, gd, un⟩ (.call (.ref 56) ⟨[Value.str (toS l) tk], []⟩) R s := by
  have dummy : PySem.Challenge.rw_wa0019_01 = PySem.Challenge.rw_wa0019_01 → Mine.hd.heap_39 = Mine.hd.heap_39 → True := by
    k_fill
    intros; trivial
  clear dummy
  have kX := G.K
  have kT := G.T
  have e9 := chain_is 1 (by decide) l
  rw [← e9] at kR
  clear e9
  refine enterT G (room0 hd1) (by k_is) (by k_is) (BindsTo.of_eq rfl) (locs rfl) (by decide) rfl rfl rfl ?_
  intro L' h' tk' eL' hT kk F' N'
  have hn9 : 0 < tk' := Nat.lt_of_lt_of_le h0 hT
  (try dsimp only)
  (try k_fold)
  k_steps
  all_goals exact kR _ _ _ (by assumption) (Fr.keep (by assumption))
set_option maxHeartbeats 4000000 in
theorem esc2_walk (w : World) (mean : ExcName → Option Value) (mg mb : Str → Option Value) (l : Tx) (tk : Tok) (ht : l.length ≤ 50000)
   (dp un : Nat) (fr : Option (List Env)) (gd : Option (List Code)) (s : Shared) (R : Result → Shared → Prop) (G : Gd w mean mg mb s.heap) (h0 : 0 < s.toks) (hd1 : dp + 8 < recursionLimit) (hu1 : un + 40 < cLine)
   (kR : ∀ h' n' tk', 0 < n' → (∀ b o, s.heap.get? b = some o → h'.get? b = some o) → R (.ok (.ret (.str (toS (ex (eT (tabOf [2])) l)) tk'))) { s with heap := h', toks := n' }) : codeAny (model pgm w) ⟨none, dp, fr, gd, un⟩ (.call (.ref 63) ⟨[Value.str (toS l) tk], []⟩) R s := by
  have dummy : PySem.Challenge.rw_wa0019_01 = PySem.Challenge.rw_wa0019_01 → Mine.hd.heap_39 = Mine.hd.heap_39 → True := by
    k_fill
    intros; trivial
  clear dummy
  have kX := G.K
  have kT := G.T
  have e9 := chain_is 2 (by decide) l
  rw [← e9] at kR
  clear e9
  refine enterT G (room0 hd1) (by k_is) (by k_is) (BindsTo.of_eq rfl) (locs rfl) (by decide) rfl rfl rfl ?_
  intro L' h' tk' eL' hT kk F' N'
  have hn9 : 0 < tk' := Nat.lt_of_lt_of_le h0 hT
  (try dsimp only)
  (try k_fold)
  k_steps
  all_goals exact kR _ _ _ (by assumption) (Fr.keep (by assumption))
set_option maxHeartbeats 4000000 in
theorem esc3_walk (w : World) (mean : ExcName → Option Value) (mg mb : Str → Option Value) (l : Tx) (tk : Tok) (ht : l.length ≤ 50000)
   (dp un : Nat) (fr : Option (List Env)) (gd : Option (List Code)) (s : Shared) (R : Result → Shared → Prop) (G : Gd w mean mg mb s.heap) (h0 : 0 < s.toks) (hd1 : dp + 8 < recursionLimit) (hu1 : un + 40 < cLine)
   (kR : ∀ h' n' tk', 0 < n' → (∀ b o, s.heap.get? b = some o → h'.get? b = some o) → R (.ok (.ret (.str (toS (ex (eT (tabOf [3])) l)) tk'))) { s with heap := h', toks := n' }) : codeAny (model pgm w) ⟨none, dp, fr, gd, un⟩ (.call (.ref 70) ⟨[Value.str (toS l) tk], []⟩) R s := by
  have dummy : PySem.Challenge.rw_wa0019_01 = PySem.Challenge.rw_wa0019_01 → Mine.hd.heap_39 = Mine.hd.heap_39 → True := by
    k_fill
    intros; trivial
  clear dummy
  have kX := G.K
  have kT := G.T
  have e9 := chain_is 3 (by decide) l
  rw [← e9] at kR
  clear e9
  refine enterT G (room0 hd1) (by k_is) (by k_is) (BindsTo.of_eq rfl) (locs rfl) (by decide) rfl rfl rfl ?_
  intro L' h' tk' eL' hT kk F' N'
  have hn9 : 0 < tk' := Nat.lt_of_lt_of_le h0 hT
  (try dsimp only)
  (try k_fold)
  k_steps
  all_goals exact kR _ _ _ (by assumption) (Fr.keep (by assumption))
set_option maxHeartbeats 4000000 in
theorem esc4_walk (w : World) (mean : ExcName → Option Value) (mg mb : Str → Option Value) (l : Tx) (tk : Tok) (ht : l.length ≤ 50000)
   (dp un : Nat) (fr : Option (List Env)) (gd : Option (List Code)) (s : Shared) (R : Result → Shared → Prop) (G : Gd w mean mg mb s.heap) (h0 : 0 < s.toks) (hd1 : dp + 8 < recursionLimit) (hu1 : un + 40 < cLine)
   (kR : ∀ h' n' tk', 0 < n' → (∀ b o, s.heap.get? b = some o → h'.get? b = some o) → R (.ok (.ret (.str (toS (ex (eT (tabOf [4])) l)) tk'))) { s with heap := h', toks := n' }) : codeAny (model pgm w) ⟨none, dp, fr, gd, un⟩ (.call (.ref 77) ⟨[Value.str (toS l) tk], []⟩) R s := by
  have dummy : PySem.Challenge.rw_wa0019_01 = PySem.Challenge.rw_wa0019_01 → Mine.hd.heap_39 = Mine.hd.heap_39 → True := by
    k_fill
    intros; trivial
  clear dummy
  have kX := G.K
  have kT := G.T
  have e9 := chain_is 4 (by decide) l
  rw [← e9] at kR
  clear e9
  refine enterT G (room0 hd1) (by k_is) (by k_is) (BindsTo.of_eq rfl) (locs rfl) (by decide) rfl rfl rfl ?_
  intro L' h' tk' eL' hT kk F' N'
  have hn9 : 0 < tk' := Nat.lt_of_lt_of_le h0 hT
  (try dsimp only)
  (try k_fold)
  k_steps
  all_goals exact kR _ _ _ (by assumption) (Fr.keep (by assumption))
end Mine
end
/- ENUMT -/
section
open PySem PySem.W PyProof.Rows
open Sem (wp)
open AutoSeq1 (wpAny_loadPart')
set_option maxRecDepth 100000
set_option genSizeOf false
set_option genInjectivity false
namespace Mine

/-- enumerate() made over a tuple -/
theorem meets_enum_tuple (l : Addr) (items : Array Value) (n : Nat) (dct : Option Addr) (sl : Array (Option Value)) :
    Meets (Builtin.«enumerate.__new__» ⟨[.type "enumerate", .ref l], []⟩) (fun _ R s => s.heap.get? l = some { cls := .type "tuple", dict := dct, data := .seq items n, slots := sl } ∧
      R (.ok (.ret (.ref (s.heap.push { cls := .type "tuple_iterator", data := .fields #[.ref l, .int 0 0] }).objs.size)))
        { s with heap := (s.heap.push { cls := .type "tuple_iterator", data := .fields #[.ref l, .int 0 0] }).push { cls := .type "enumerate", data := .fields #[.none, .bool false, .ref s.heap.objs.size, rawInt 0, .none, .none] } }) :=
  .of_wp fun prog w A R s h => by
    obtain ⟨hp, g, d, tk, os⟩ := s; obtain ⟨hl, h⟩ := h
    have hsub := sub_enumerate
    have hL : Heap.IsTuple (Shared.heap ⟨hp, g, d, tk, os⟩) l items := ⟨_, hl, rfl, n, rfl⟩
    wp_walk using wpAny_loadPart' hl
    refine wpAny_stack_any fun st => wpAny_pure ?_
    split
    · rename_i c _ _ _ _ _
      cases (c == Value.type "enumerate")
      · wp_walk using wpAny_loadPart' hl, wpAny_pyIter_tuple hL
        exact ⟨_, rfl, h⟩
      · wp_walk using wpAny_loadPart' hl, wpAny_pyIter_tuple hL
        exact ⟨_, rfl, h⟩
    · wp_walk using wpAny_loadPart' hl, wpAny_pyIter_tuple hL
      exact ⟨_, rfl, h⟩

section
variable {prog : Program} {w : World} {A : Around} {E : Value → Shared → Prop} {s : Shared}

theorem nextOf_tuple_item {it l : Addr} {i : Nat} {items : Array Value} {x : Value} {Q : Value → Shared → Prop} (hit : s.heap.IsTupleIter it l i)
    (hl : s.heap.IsTuple l items) (hx : items[i]? = some x)
    (hQ : ∀ h', h'.IsTupleIter it l (i + 1) → Heap.SameBut it s.heap h' → Q x { s with heap := h' }) :
    wpAny (model prog w) A (Builtin.SmallTypes.nextOf (.ref it)) Q E s := by
  obtain ⟨o, ho, hc, hd⟩ := id hit
  obtain ⟨ol, hol, _, nl, hdl⟩ := hl
  unfold Builtin.SmallTypes.nextOf
  refine wpAny_bind (wpAny_callSpecial?_slot (name := Str.ofString "__next__") hit.typeIs F.slot_tuple_iterator_next
    (wpAny_call_entry F.slot_tuple_iterator_next hit.typeIs F.entry_tuple_iterator_next ?_ (F.args_tuple_iterator_next_1 _)))
  show wpAny _ _ (field (.ref it) 0 >>= _) _ _ s
  refine wpAny_bind (wpAny_field ho hd (x := .ref l) rfl ?_)
  show wpAny _ _ (if (Value.ref l == Value.none) = true then _ else _) _ _ s
  rw [if_neg (show ¬ ((Value.ref l == Value.none) = true) from Bool.false_ne_true)]
  show wpAny _ _ (field (.ref it) 1 >>= _) _ _ s
  refine wpAny_bind (wpAny_field ho hd (x := .int i 0) rfl ?_)
  show wpAny _ _ (seqItems? (.ref l) >>= _) _ _ s
  refine wpAny_bind (wpAny_seqItems hol hdl ?_)
  simp only [Int.toNat_natCast, hx]
  refine wpAny_bind (wpAny_setField ho hd (by simp) (wpAny_pure ⟨x, rfl, wpAny_pure (hQ _ ?_ (Heap.SameBut.update ..))⟩))
  exact ⟨_, Heap.get?_update_self _ ho (Obj.isFreed_of_fields (Obj.data_mapFields hd _)), (Obj.cls_mapFields ..).trans hc, by
    rw [Obj.data_mapFields hd]; simp [rawInt]⟩

theorem nextOf_tuple_end {it l : Addr} {i : Nat} {items : Array Value} {Q : Value → Shared → Prop} (hh : A.handled = none)
    (hit : s.heap.IsTupleIter it l i) (hl : s.heap.IsTuple l items) (hx : items[i]? = none)
    (hE : ∀ h' e, Heap.ExtBut it s.heap h' → (∃ o, h'.get? e = some o ∧ o.cls = .type "StopIteration") → E (.ref e) { s with heap := h' }) :
    wpAny (model prog w) A (Builtin.SmallTypes.nextOf (.ref it)) Q E s := by
  obtain ⟨o, ho, hc, hd⟩ := id hit
  obtain ⟨ol, hol, _, nl, hdl⟩ := hl
  unfold Builtin.SmallTypes.nextOf
  refine wpAny_bind (wpAny_callSpecial?_slot (name := Str.ofString "__next__") hit.typeIs F.slot_tuple_iterator_next
    (wpAny_call_entry F.slot_tuple_iterator_next hit.typeIs F.entry_tuple_iterator_next ?_ (F.args_tuple_iterator_next_1 _)))
  show wpAny _ _ (field (.ref it) 0 >>= _) _ _ s
  refine wpAny_bind (wpAny_field ho hd (x := .ref l) rfl ?_)
  show wpAny _ _ (if (Value.ref l == Value.none) = true then _ else _) _ _ s
  rw [if_neg (show ¬ ((Value.ref l == Value.none) = true) from Bool.false_ne_true)]
  show wpAny _ _ (field (.ref it) 1 >>= _) _ _ s
  refine wpAny_bind (wpAny_field ho hd (x := .int i 0) rfl ?_)
  show wpAny _ _ (seqItems? (.ref l) >>= _) _ _ s
  refine wpAny_bind (wpAny_seqItems hol hdl ?_)
  simp only [Int.toNat_natCast, hx]
  refine wpAny_bind (wpAny_rule (wpAny_bind (wpAny_setField ho hd (by simp) ?_)))
  show wpAny _ _ (newExc (.type "StopIteration") [] >>= _) _ _ _
  refine wpAny_bind ?_
  simp only [newExc, newTuple]
  refine wpAny_bind (wpAny_newObj_type ?_ (by size_fits))
  refine wpAny_bind (m := firstArgMember _ _) (wpAny_of_eq (a := Value.none) (by first | rfl | (simp only [firstArgMember]; rfl)) ?_)
  refine wpAny_newObj_type ?_ (by size_fits)
  simp only [raiseNew]
  refine wpAny_bind (wpAny_handled ?_)
  first | rw [show A.in1.handled = none from hh] | rw [hh]
  refine wpAny_bind (wpAny_pure (wpAny_throw ?_))
  exact hE _ _ (((Heap.SameBut.update ..).extBut.push _).push _) ⟨_, Heap.get?_push_size _ rfl, rfl⟩

theorem call_enum_tuple {l : Addr} {items : Array Value} {Q : Value → Shared → Prop} (hL : s.heap.IsTuple l items)
    (h : ∀ h', IsEnum h' (s.heap.objs.size + 1) s.heap.objs.size 0 .none → h'.IsTupleIter s.heap.objs.size l 0 → h'.objs.size = s.heap.objs.size + 2 →
      (∀ b o, s.heap.get? b = some o → h'.get? b = some o) → Q (.ref (s.heap.objs.size + 1)) { s with heap := h' }) :
    wpAny (model prog w) A (call (.type "enumerate") [.ref l]) Q E s := by
  obtain ⟨⟨c, dct, dt, sl⟩, hl, hc, n, hd⟩ := hL
  replace hc : c = .type "tuple" := hc
  replace hd : dt = .seq items n := hd
  subst hc hd
  refine callType_new F.called_enumerate (by decide) (F.typeCall_enumerate_1 _) (F.newCall_enumerate_1 _) (fun obj => F.args_object_init_2 obj _) F.entry_enumerate_new
    (meets_enum_tuple l items n dct sl) ⟨hl, ?_⟩
  have hz : (s.heap.push { cls := .type "tuple_iterator", data := .fields #[.ref l, .int 0 0] }).objs.size = s.heap.objs.size + 1 := Heap.size_push ..
  show _ ∧ _
  rw [hz]
  have he : IsEnum ((s.heap.push { cls := .type "tuple_iterator", data := .fields #[.ref l, .int 0 0] }).push
      { cls := .type "enumerate", data := .fields #[.none, .bool false, .ref s.heap.objs.size, rawInt 0, .none, .none] }) (s.heap.objs.size + 1) s.heap.objs.size 0 .none := by
    have := Heap.get?_push_size (s.heap.push { cls := .type "tuple_iterator", data := .fields #[.ref l, .int 0 0] })
      (o := { cls := .type "enumerate", data := .fields #[.none, .bool false, .ref s.heap.objs.size, rawInt 0, .none, .none] }) rfl
    rw [hz] at this; exact this
  refine ⟨⟨_, he, rfl⟩, h _ he ⟨_, Heap.get?_push_of_some _ (Heap.get?_push_size _ rfl), rfl, rfl⟩ (by rw [Heap.size_push, hz]) fun b o x => Heap.get?_push_of_some _ (Heap.get?_push_of_some _ x)⟩
end

theorem drawsTuple {prog : Program} {w : World} {A : Around} (hh : A.handled = none) (it l : Addr) (hne : l ≠ it) (items : Array Value) :
    Draws prog w A it [it, l] items.size (fun i v => items[i]? = some v) (fun i h => h.IsTupleIter it l i ∧ h.IsTuple l items) where
  live := fun _ _ st => let ⟨o, ho, _⟩ := st.1; ⟨o, ho⟩
  frame := fun _ _ _ st hk => ⟨st.1.at fun o e => hk it (by simp) o e, st.2.at fun o e => hk l (by simp) o e⟩
  item := fun i s Q E hi st hQ => by
    refine nextOf_tuple_item st.1 st.2 (x := items[i]) (by simp [hi]) fun h' hit' hs' => ?_
    exact hQ _ h' s.toks (by simp [hi]) ⟨hit', st.2.extBut hs'.extBut hne⟩ hs'
  done := fun s Q E st hE => nextOf_tuple_end hh st.1 st.2 (by simp) hE
end Mine
end
/- CELLT -/
section
open PySem PySem.W PyProof.Rows
open Builtin Builtin.List
set_option maxRecDepth 100000
set_option genSizeOf false
set_option genInjectivity false
namespace Mine

noncomputable def intOf : Option Value → Int
  | some (.int n _) => n
  | _ => 0
theorem pick_mem {items : Array Value} {lo hi st : Option Int} {i : Nat} {v : Value} (h : (slicePick items lo hi st)[i]? = some v) : ∃ j : Nat, items[j]? = some v := by
  have hm : v ∈ slicePick items lo hi st := Array.mem_of_getElem? h
  unfold slicePick at hm
  simp only [List.mem_toArray, List.mem_filterMap] at hm
  obtain ⟨j, _, hj⟩ := hm
  first | exact ⟨j, hj⟩ | exact ⟨_, hj⟩
theorem mod_mil (x : Int) : ∃ n : Nat, x.fmod 1000000 = (n : Int) ∧ n < 1000000 := by
  rw [Int.fmod_eq_emod_of_nonneg _ (by decide)]
  have h1 := Int.emod_nonneg x (b := 1000000) (by decide)
  have h2 := Int.emod_lt_of_pos x (b := 1000000) (by decide)
  exact ⟨(x % 1000000).toNat, (Int.toNat_of_nonneg h1).symm, (Int.toNat_lt h1).mpr (Int.lt_of_lt_of_le h2 (by decide))⟩

theorem pow_facts : (10 : Int) ^ (6 : Int).toNat ≠ 0 ∧ ∀ z : Int, ∃ n : Nat, z.fmod ((10 : Int) ^ (6 : Int).toNat) = (n : Int) ∧ n < 1000000 := by
  have e : (10 : Int) ^ (6 : Int).toNat = 1000000 := by decide
  rw [e]
  exact ⟨by decide, mod_mil⟩

section
variable {prog : Program} {w : World} {A : Around} {E : Value → Shared → Prop} {s : Shared} {env : Env} {m : Str → Option Value} {Q : Value → Shared → Prop}
theorem elt_cells {mg mb : Str → Option Value} {c l : Addr} {items : List Value} {i b : Int} {t u : Tok}   (hh : A.handled = none) (hk : env.scope.kind = .function)
    (hsum : env.kindOf (Str.ofString "sum") = some .globalImplicit) (hg : s.heap.Ns env.globals mg) (hmg : mg (Str.ofString "sum") = none) (hb : s.heap.Ns env.builtins mb) (hmb : mb (Str.ofString "sum") = some (.builtin "sum"))
    (hpc : env.kindOf (Str.ofString "script") = some .cell) (hc : env.cells.lookup (Str.ofString "script") = some c) (hcell : s.heap.IsCell c (some (.ref l)))
    (hl : s.heap.IsList l items.toArray) (hsz : items.length ≤ 1000) (hit : ∀ (j : Nat) (v : Value), items[j]? = some v → ∃ (n : Int) (t : Tok), v = .int n t)
    (hx : env.kindOf (Str.ofString "k") = some .local) (hy : env.kindOf (Str.ofString "start") = some .local) (hn : s.heap.Ns env.locals m) (hmk : m (Str.ofString "k") = some (.int i t)) (hms : m (Str.ofString "start") = some (.int b u))
    (h : ∀ h' (n : Nat) t k, (∀ b o, s.heap.get? b = some o → h'.get? b = some o) → n < 1000000 → Q (.int (n : Nat) t) { s with heap := h', toks := k }) :
    wpAny (model prog w) A (eval (.BinOp (.BinOp (.Name (Str.ofString "start") (⟨167, 14, 167, 19⟩ : Pos)) .Add (.Call (.Name (Str.ofString "sum") (⟨167, 22, 167, 25⟩ : Pos)) [.Subscript (.Name (Str.ofString "script") (⟨167, 26, 167, 32⟩ : Pos)) (.Slice (some (.Name (Str.ofString "k") (⟨167, 33, 167, 34⟩ : Pos))) none (some (.Constant (.int 3) 0 (⟨167, 36, 167, 37⟩ : Pos))) (⟨167, 33, 167, 37⟩ : Pos)) (⟨167, 26, 167, 38⟩ : Pos)] [] (⟨167, 22, 167, 39⟩ : Pos)) (⟨167, 14, 167, 39⟩ : Pos)) .Mod
      (.BinOp (.Constant (.int 10) 0 (⟨167, 43, 167, 45⟩ : Pos)) .Pow (.Constant (.int 6) 0 (⟨167, 49, 167, 50⟩ : Pos)) (⟨167, 43, 167, 50⟩ : Pos)) (⟨167, 13, 167, 50⟩ : Pos)) env) Q E s := by
  refine wpAny_BinOp (wpAny_BinOp (ev_local hk hy hn hms ?_))
  refine wpAny_Call_NameR (Calls.Name_function_global hk hsum (Calls.loadGlobal_builtin hg hmg hb hmb ?_))
  refine callWith_builtin1 (wpAny_items_cons ?_)
  refine wpAny_Subscript_Slice_step (T := "list") list_getitem_lookup (wpAny_Name (wpAny_loadName_cell hk hpc hc hcell ?_) (by decide)) (by intro _ _; rfl)
  refine wpAny_Slice (ev_local hk hx hn hmk ?_)
  rw [evalPart_none]
  refine wpAny_pure ?_
  rw [evalPart_some]
  refine wpAny_Constant_int ?_
  refine ⟨(hl.push _).typeIs, wpAny_getItem_list_slice (lo := some i) (hi := none) (st := some 3) (hl.push _) (Heap.IsSliceOf.new ..) (.int _ _) .none (.int _ _) (by simp) ?_ (by rw [sizeLine_eq, List.size_toArray]; exact Nat.le_trans hsz (by decide))⟩
  refine wpAny_items_nil ?_
  dsimp only
  refine call_sum_walkG ?_
  have hls := Heap.get?_push_size ((s.heap.push { cls := .type "slice", data := .fields #[.int i t, .none, .int 3 s.toks] })) (o := { cls := .type "list", data := .seq (slicePick items.toArray (some i) none (some 3)) }) rfl
  generalize hH : (s.heap.push { cls := .type "slice", data := .fields #[.int i t, .none, .int 3 s.toks] }).push { cls := .type "list", data := .seq (slicePick items.toArray (some i) none (some 3)) } = H at hls ⊢
  have hkH : ∀ b o, s.heap.get? b = some o → H.get? b = some o := fun b o e => by rw [← hH]; exact Heap.get?_push_of_some _ (Heap.get?_push_of_some _ e)
  generalize hS : (s.heap.push { cls := .type "slice", data := .fields #[.int i t, .none, .int 3 s.toks] }).objs.size = S at hls ⊢
  generalize hxs : slicePick items.toArray (some i) none (some 3) = xs at hls hH
  have hSl : H.IsList S xs := ⟨_, hls, rfl, _, rfl⟩
  refine wpAny_pyIter_list hSl ?_
  have hSI : S ≠ H.objs.size := Nat.ne_of_lt (Heap.lt_size hls)
  refine ⟨H.objs.size, _, _, _, _, _, fun j => intOf xs[j]?, rfl, Walks.list (A := A.in1) hh H.objs.size S hSI xs, ⟨⟨_, Heap.get?_push_size _ rfl, rfl, rfl⟩, hSl.push _⟩, ?_, ?_, ?_⟩
  · intro q hq
    show q < (H.push _).objs.size
    rw [Heap.size_push]
    rcases List.mem_cons.mp hq with rfl | hq
    · exact Nat.lt_succ_self _
    · rw [List.mem_singleton.mp hq]
      exact Nat.lt_succ_of_lt (Heap.lt_size hls)
  · intro j v hv
    rw [← hxs] at hv
    obtain ⟨j', hj'⟩ := pick_mem hv
    obtain ⟨n, t', rfl⟩ := hit j' v (by simpa using hj')
    refine ⟨t', ?_⟩
    dsimp only
    rw [← hxs, hv]
    rfl
  · intro h' tk t' hk'
    dsimp only
    refine P.add_int ?_
    dsimp only
    generalize b + preSum (fun j => intOf xs[j]?) xs.size = z
    refine wpAny_BinOp ?_
    refine wpAny_Constant_int ?_
    refine wpAny_Constant_int ?_
    refine pow_int_small (a := 10) (n := 6) (by decide) (by decide) (by decide) ?_
    have hp := pow_facts
    generalize (10 : Int) ^ (6 : Int).toNat = c0 at hp ⊢
    obtain ⟨hc0, hc1⟩ := hp
    obtain ⟨n, e, hn6⟩ := hc1 z
    dsimp only
    refine mod_int' hc0 ?_
    dsimp only
    rw [e]
    refine h _ n _ _ (fun b o eo => hk' b o ?_ (Heap.get?_push_of_some _ (hkH b o eo))) hn6
    intro hm
    rw [List.mem_singleton.mp hm] at eo
    exact Nat.lt_irrefl _ (Heap.lt_size (hkH _ _ eo))
end
end Mine
end
/- COMPA -/
section
open PySem PySem.W PyProof.Rows
set_option maxRecDepth 100000
set_option genSizeOf false
set_option genInjectivity false
namespace Mine
section
variable {prog : Program} {w : World} {A : Around} {name : Str} {scope cscope : Scope} {L a : Addr} {cd : Value} {h₀ : Heap} {m : Str → Option Value} {news : List (Addr × Obj)} {E : Value → Shared → Prop} {cl : List (Str × Addr)}

/-- the comprehension that a local name is bound to -/
theorem comp_assign_loc {s : Shared} {elt target iter : Expr} {y : Str} {py : Pos} {pos spos : Pos} {Q : Flow → Shared → Prop}
    (hsw : swapsWith (.ListComp elt [⟨target, iter, [], 0⟩] cscope pos) (some (.Name y py)) spos.line (envOfC name scope L a cd) = pure true)
    (hclos : closureFor cscope (envOfC name scope L a cd) = pure cl) (hcell : ∀ z ∈ cscope.names, z.2 ≠ .cell) (hkind : cscope.kind = .function)
    (hnames : ∀ z ∈ cscope.names, z.2 = .local → cscope.names.lookup z.1 = some .local)
    (hk : scope.kind = .function) (hy : (envOfC name scope L a cd).kindOf y = some .local)
    (h : wpAny (model prog w) A (eval iter (envOfC name scope L a cd)) (fun xv s₁ => wpAny (model prog w) A (pyIter xv) (fun it s₂ => ∃ I fp wr n B St F, it = .ref I ∧ Turns prog w A (envOfC name scope L a cd) cscope cl target I fp wr n B St ∧ n ≤ sizeLine ∧ St 0 s₂.heap ∧ (∀ b ∈ fp, b < s₂.heap.objs.size) ∧
      (∀ i h, St i h → ∀ b ∈ wr, ∃ o, h.get? b = some o) ∧ EltOk prog w A (envOfC name scope L a cd) cscope cl elt wr n B F s₂ ∧ Fr h₀ L s₂.heap m ∧ News h₀ L s₂.heap news ∧ (∀ c ∈ wr, h₀.get? c = none ∧ c ≠ L) ∧ (∀ p ∈ news, p.1 ∉ wr) ∧
      (∀ D h' g' tk k (rs : List (Value × List (Addr × Obj))), Fr h₀ L h' (fun z => if z = y then some (.ref D) else m z) → News h₀ L h' ((D, listOf (rs.map (·.1)).toArray k) :: (rs.flatMap (·.2) ++ news)) → rs.length = n → (∀ (i : Nat) r, rs[i]? = some r → F i r.1 r.2) →
        (AllBare s₂.gens → AllBare g') → s₂.heap.get? D = none → Q .next { s₂ with heap := h', gens := g', toks := tk })) E s₁) E s)
    (hs : ∀ x, foldedSetIterable iter (envOfC name scope L a cd) x = pure x := by intro _; rfl) :
    wpAny (model prog w) A (exec (.Assign [.Name y py] (.ListComp elt [⟨target, iter, [], 0⟩] cscope pos) spos) (envOfC name scope L a cd)) Q E s := by
  refine comp_assign hsw hclos hcell hkind hnames (wpAny_mono h (fun xv s₁ h₁ => wpAny_mono h₁ (fun it s₂ h₂ => ?_) fun _ _ e => e) fun _ _ e => e) hs
  obtain ⟨I, fp, wr, n, B, St, F, rfl, W, hsz, hst, hfp, hlive, hq, Fr₂, N, hwr, hnw, hQ⟩ := h₂
  refine ⟨I, fp, wr, n, B, St, F, rfl, W, hsz, hst, hfp, hlive, hq, fun D h' g' tk rs G => ?_⟩
  have F' := G.fr Fr₂ hwr
  obtain ⟨k, N'⟩ := G.led Fr₂ N hnw
  have hLs : s₂.heap.get? L ≠ none := by
    obtain ⟨_, _, _, hL, _⟩ := Fr₂.ns
    rw [hL]; simp
  refine wpAny_storeName_local hy F'.ns (fun h₂ hn₂ hs₂ => ?_) (by show (scope.kind == .class || (scope.kind == .module && L != mainGlobals)) = false; rw [hk]; rfl)
  refine ⟨fun C hC _ _ _ => hs₂.2 C fun q => hLs (by rw [← hC]; exact congrArg _ q.symm), fun h₆ hk₆ => ?_⟩
  have F2 := F'.set hn₂ hs₂
  have N2 := N'.set hs₂
  have key : ∀ p ∈ ((D, listOf (rs.map (·.1)).toArray k) :: (rs.flatMap (·.2) ++ news)), h₆.get? p.1 = some p.2 := by
    intro p hp
    refine hk₆ _ _ ?_ (N2 p hp).1
    rcases List.mem_cons.mp hp with rfl | hp
    · exact Or.inr (Or.inl rfl)
    rcases List.mem_append.mp hp with hp | hp
    · obtain ⟨r, hr, hp⟩ := List.mem_flatMap.mp hp
      exact Or.inr (Or.inr ⟨r, hr, p, hp, rfl⟩)
    · exact Or.inl (by rw [(N p hp).1]; simp)
  refine hQ D h₆ g' _ k rs ⟨F2.ns.at fun o e => hk₆ _ o (Or.inl hLs) e, fun b o e => hk₆ b o (Or.inl (by rw [Fr₂.keep b o e]; simp)) (F2.keep b o e), Fr₂.above⟩ (fun p hp => ⟨key p hp, (N2 p hp).2⟩) G.len G.each G.bare G.none

end
end Mine
end
/- CELLS -/
section
open PySem PySem.W PyProof.Rows
set_option maxRecDepth 100000
set_option genSizeOf false
set_option genInjectivity false
namespace Mine
section
variable {prog : Program} {w : World} {A : Around} {name : Str} {scope cscope : Scope} {L a : Addr} {cd : Value} {h₀ : Heap} {m : Str → Option Value} {news : List (Addr × Obj)} {E : Value → Shared → Prop} {cl : List (Str × Addr)}

theorem three_cells {vals : Array Value} {t u v : Tok} {i : Nat} {x : Value} (h : (#[Value.int 12 t, Value.int 1064 u, Value.int 237 v] : Array Value)[i]? = some x) : ∃ (b : Int) (t' : Tok), x = .int b t' := by
  rcases i with _ | _ | _ | i
  · exact ⟨12, t, by simpa using h.symm⟩
  · exact ⟨1064, u, by simpa using h.symm⟩
  · exact ⟨237, v, by simpa using h.symm⟩
  · simp at h

set_option maxHeartbeats 800000 in
/-- cells = [(start + sum(script[k::3])) % 10 ** 6 for k, start in enumerate((12, 1064, 237))] -/
theorem cells_stmt {mg mb : Str → Option Value} {s : Shared} {y : Str}   {Q : Flow → Shared → Prop} {c l : Addr} {o : Obj} {items : List Value}
      (hh : A.handled = none) (hk : scope.kind = .function)
    (hsw : swapsWith (.ListComp (.BinOp (.BinOp (.Name (Str.ofString "start") (⟨167, 14, 167, 19⟩ : Pos)) .Add (.Call (.Name (Str.ofString "sum") (⟨167, 22, 167, 25⟩ : Pos)) [.Subscript (.Name (Str.ofString "script") (⟨167, 26, 167, 32⟩ : Pos)) (.Slice (some (.Name (Str.ofString "k") (⟨167, 33, 167, 34⟩ : Pos))) none (some (.Constant (.int 3) 0 (⟨167, 36, 167, 37⟩ : Pos))) (⟨167, 33, 167, 37⟩ : Pos)) (⟨167, 26, 167, 38⟩ : Pos)] [] (⟨167, 22, 167, 39⟩ : Pos)) (⟨167, 14, 167, 39⟩ : Pos)) .Mod
      (.BinOp (.Constant (.int 10) 0 (⟨167, 43, 167, 45⟩ : Pos)) .Pow (.Constant (.int 6) 0 (⟨167, 49, 167, 50⟩ : Pos)) (⟨167, 43, 167, 50⟩ : Pos)) (⟨167, 13, 167, 50⟩ : Pos))
      [⟨.Tuple [.Name (Str.ofString "k") (⟨167, 55, 167, 56⟩ : Pos), .Name (Str.ofString "start") (⟨167, 58, 167, 63⟩ : Pos)] 0 (⟨167, 55, 167, 63⟩ : Pos), .Call (.Name (Str.ofString "enumerate") (⟨167, 67, 167, 76⟩ : Pos)) [.Tuple [.Constant (.int 12) 0 (⟨167, 78, 167, 80⟩ : Pos), .Constant (.int 1064) 0 (⟨167, 82, 167, 86⟩ : Pos), .Constant (.int 237) 0 (⟨167, 88, 167, 91⟩ : Pos)] 0 (⟨167, 77, 167, 92⟩ : Pos)] [] (⟨167, 67, 167, 93⟩ : Pos), [], 0⟩] cscope (⟨167, 12, 167, 94⟩ : Pos)) (some (.Name y (⟨167, 4, 167, 9⟩ : Pos))) (⟨167, 4, 167, 94⟩ : Pos).line (envOfC name scope L a cd) = pure true)
    (hclos : closureFor cscope (envOfC name scope L a cd) = pure cl) (hcell : ∀ z ∈ cscope.names, z.2 ≠ .cell) (hkind : cscope.kind = .function)
    (hnames : ∀ z ∈ cscope.names, z.2 = .local → cscope.names.lookup z.1 = some .local)
    (hy : (envOfC name scope L a cd).kindOf y = some .local) (hen : (envOfC name scope L a cd).kindOf (Str.ofString "enumerate") = some .globalImplicit)
    (hx1 : cscope.names.lookup (Str.ofString "k") = some .local) (hx2 : cscope.names.lookup (Str.ofString "start") = some .local)
    (hsum : (relabel cscope (envOfC name scope L a cd)).names.lookup (Str.ofString "sum") = some .globalImplicit) (hpc : (relabel cscope (envOfC name scope L a cd)).names.lookup (Str.ofString "script") = some .cell) (hc : cl.lookup (Str.ofString "script") = some c)
    (hg : h₀.Ns mainGlobals mg) (hmg1 : mg (Str.ofString "sum") = none) (hmg2 : mg (Str.ofString "enumerate") = none) (hb : h₀.Ns builtinsNs mb) (hmb1 : mb (Str.ofString "sum") = some (.builtin "sum")) (hmb2 : mb (Str.ofString "enumerate") = some (.type "enumerate"))
    (F : Fr h₀ L s.heap m) (N : News h₀ L s.heap news) (hcn : (c, o) ∈ news) (hod : o.data = .cell (some (.ref l))) (hl : h₀.IsList l items.toArray) (hsz : items.length ≤ 1000) (hit : ∀ (j : Nat) (v : Value), items[j]? = some v → ∃ (n : Int) (t : Tok), v = .int n t)
    (h : ∀ D h' g' tk k (vs : List Value), Fr h₀ L h' (fun z => if z = y then some (.ref D) else m z) → News h₀ L h' ((D, listOf vs.toArray k) :: news) → vs.length = 3 → (∀ (i : Nat) v, vs[i]? = some v → ∃ (n : Nat) (t : Tok), v = .int n t ∧ n < 1000000) →
        (AllBare s.gens → AllBare g') → Q .next { s with heap := h', gens := g', toks := tk }) :
    wpAny (model prog w) A (exec (.Assign [.Name y (⟨167, 4, 167, 9⟩ : Pos)] (.ListComp (.BinOp (.BinOp (.Name (Str.ofString "start") (⟨167, 14, 167, 19⟩ : Pos)) .Add (.Call (.Name (Str.ofString "sum") (⟨167, 22, 167, 25⟩ : Pos)) [.Subscript (.Name (Str.ofString "script") (⟨167, 26, 167, 32⟩ : Pos)) (.Slice (some (.Name (Str.ofString "k") (⟨167, 33, 167, 34⟩ : Pos))) none (some (.Constant (.int 3) 0 (⟨167, 36, 167, 37⟩ : Pos))) (⟨167, 33, 167, 37⟩ : Pos)) (⟨167, 26, 167, 38⟩ : Pos)] [] (⟨167, 22, 167, 39⟩ : Pos)) (⟨167, 14, 167, 39⟩ : Pos)) .Mod
      (.BinOp (.Constant (.int 10) 0 (⟨167, 43, 167, 45⟩ : Pos)) .Pow (.Constant (.int 6) 0 (⟨167, 49, 167, 50⟩ : Pos)) (⟨167, 43, 167, 50⟩ : Pos)) (⟨167, 13, 167, 50⟩ : Pos))
      [⟨.Tuple [.Name (Str.ofString "k") (⟨167, 55, 167, 56⟩ : Pos), .Name (Str.ofString "start") (⟨167, 58, 167, 63⟩ : Pos)] 0 (⟨167, 55, 167, 63⟩ : Pos), .Call (.Name (Str.ofString "enumerate") (⟨167, 67, 167, 76⟩ : Pos)) [.Tuple [.Constant (.int 12) 0 (⟨167, 78, 167, 80⟩ : Pos), .Constant (.int 1064) 0 (⟨167, 82, 167, 86⟩ : Pos), .Constant (.int 237) 0 (⟨167, 88, 167, 91⟩ : Pos)] 0 (⟨167, 77, 167, 92⟩ : Pos)] [] (⟨167, 67, 167, 93⟩ : Pos), [], 0⟩] cscope (⟨167, 12, 167, 94⟩ : Pos)) (⟨167, 4, 167, 94⟩ : Pos)) (envOfC name scope L a cd)) Q E s := by
  refine comp_assign_loc (m := m) (news := news) (h₀ := h₀) hsw hclos hcell hkind hnames hk hy ?_ (by intro _; rfl)
  refine wpAny_Call_NameR (Calls.Name_function_global hk hen (Calls.loadGlobal_builtin (hg.keeps F.keep) hmg2 (hb.keeps F.keep) hmb2 ?_))
  refine PyProof.Rows.callWith_type1 (wpAny_items_cons ?_)
  refine wpAny_Tuple (wpAny_items_cons (wpAny_Constant_int (wpAny_items_cons (wpAny_Constant_int (wpAny_items_cons (wpAny_Constant_int (wpAny_items_nil ⟨by rw [sizeLine_eq]; simp, wpAny_items_nil ?_⟩)))))))
  dsimp only
  generalize hV : (#[Value.int 12 s.toks, Value.int 1064 (s.toks + 1), Value.int 237 (s.toks + 1 + 1)] : Array Value) = V
  have hVs : V.size = 3 := by rw [← hV]; rfl
  have hVi : ∀ (i : Nat) (x : Value), V[i]? = some x → ∃ (b : Int) (t' : Tok), x = .int b t' := fun i x hx => three_cells (vals := V) (by rw [hV]; exact hx)
  have hT := Heap.get?_push_size s.heap (o := { cls := .type "tuple", data := .seq [Value.int 12 s.toks, Value.int 1064 (s.toks + 1), Value.int 237 (s.toks + 1 + 1)].toArray }) rfl
  have hVe : [Value.int 12 s.toks, Value.int 1064 (s.toks + 1), Value.int 237 (s.toks + 1 + 1)].toArray = V := hV
  rw [hVe] at hT
  have F1 : Fr h₀ L _ m := F.push { cls := .type "tuple", data := .seq V }
  have N1 : News h₀ L (s.heap.push { cls := .type "tuple", data := .seq V }) news := News.ext N fun _ _ e => Heap.get?_push_of_some _ e
  have kp1 : ∀ b o, s.heap.get? b = some o → (s.heap.push { cls := .type "tuple", data := .seq V }).get? b = some o := fun b o e => Heap.get?_push_of_some _ e
  have hLs : s.heap.objs.size > L := F.ns.lt
  generalize hTe : s.heap.objs.size = T at hT hLs ⊢
  generalize s.heap.push { cls := .type "tuple", data := .seq V } = H at hT F1 N1 kp1 ⊢
  have hTup : H.IsTuple T V := ⟨_, hT, rfl, _, rfl⟩
  refine call_enum_tuple hTup fun h₂ hE hI hsz2 hk2 => ?_
  dsimp only at hE hI hsz2 hk2 ⊢
  refine wpAny_pyIter_enum hE ?_
  have hTI : T < H.objs.size := Heap.lt_size hT
  generalize hIe : H.objs.size = I at hE hI hsz2 hTI ⊢
  have F2 : Fr h₀ L h₂ m := ⟨F1.ns.keeps hk2, fun b o e => hk2 b o (F1.keep b o e), F1.above⟩
  have N2 : News h₀ L h₂ news := News.ext N1 hk2
  have hLI : L < I := by rw [← hIe]; exact F1.ns.lt
  have hnone : ∀ b, I ≤ b → H.get? b = none := fun b hb => by
    cases e : H.get? b with
    | none => rfl
    | some o' => exact absurd (Heap.lt_size e) (by rw [hIe]; exact Nat.not_lt.mpr hb)
  refine ⟨I + 1, _, _, _, _, _, fun i v ll => ll = [] ∧ ∃ (n : Nat) (t : Tok), v = .int n t ∧ n < 1000000, rfl,
    Turns.pair hh (WalksT.enumerateD (drawsTuple (A := A.in1) hh I T (Nat.ne_of_lt hTI) V) (I + 1) (Nat.succ_ne_self _) (fun q => ?_) (List.mem_cons_self ..)) hkind hx1 hx2 (by decide) (fun i vals hP => ?_), ?_, ⟨⟨_, hE⟩, hI, hTup.at fun o e => hk2 _ o e⟩, ?_, ?_, ?_, F2, N2, ?_, ?_, ?_⟩
  · rcases List.mem_cons.mp q with q | q
    · exact Nat.succ_ne_self _ q
    · have this : (I + 1 : Nat) = T := List.mem_singleton.mp q
      exact absurd (Nat.lt_of_le_of_lt (Nat.le_of_eq this) hTI) (Nat.not_lt.mpr (Nat.le_succ I))
  · obtain ⟨t, x, _, e⟩ := hP
    exact ⟨_, _, e⟩
  · rw [hVs, sizeLine_eq]; decide
  · intro b hb
    show b < h₂.objs.size
    rw [hsz2]
    rcases List.mem_cons.mp hb with q | hb
    · rw [q]; exact Nat.lt_succ_self _
    rcases List.mem_cons.mp hb with q | hb
    · rw [q]; exact Nat.lt_succ_of_lt (Nat.lt_succ_self _)
    · rw [List.mem_singleton.mp hb]; exact Nat.lt_succ_of_lt (Nat.lt_succ_of_lt hTI)
  · rintro i h ⟨⟨old, he⟩, hti, _⟩ b hb
    rcases List.mem_cons.mp hb with rfl | hb
    · exact ⟨_, he⟩
    · rw [List.mem_singleton.mp hb]
      obtain ⟨o', ho', _⟩ := hti
      exact ⟨_, ho'⟩
  · rintro C i s₃ m₃ hC hi ⟨v1, v2, ⟨t, x, hx, e⟩, hm1, hm2⟩ hn hk3 _
    have kp3 : ∀ b o, s.heap.get? b = some o → s₃.heap.get? b = some o := fun b o e => by
      have e1 := kp1 b o e
      refine hk3 b o (fun q => ?_) (hk2 b o e1)
      have hlt := Heap.lt_size e1
      rw [hIe] at hlt
      rcases List.mem_cons.mp q with q | q
      · rw [q] at hlt; exact Nat.lt_irrefl _ (Nat.lt_of_succ_lt hlt)
      · rw [List.mem_singleton.mp q] at hlt; exact Nat.lt_irrefl _ hlt
    have e1 : v1 = .int i t := by
      have := congrArg (fun z : Array Value => z[0]?) e
      simpa using this
    have e2 : v2 = x := by
      have := congrArg (fun z : Array Value => z[1]?) e
      simpa using this
    subst e1 e2
    obtain ⟨b, u, rfl⟩ := hVi i _ hx
    have kp0 : ∀ b o, h₀.get? b = some o → s₃.heap.get? b = some o := fun b o e => kp3 b o (F.keep b o e)
    refine elt_cells (env := compEnvC cscope cl C (envOfC name scope L a cd)) hh hkind hsum (hg.keeps kp0) hmg1 (hb.keeps kp0) hmb1 hpc hc ⟨o, kp3 _ _ (N _ hcn).1, hod⟩ (hl.at fun o e => kp0 _ o e) hsz hit
      (lookup_relabel_local hx1) (lookup_relabel_local hx2) hn hm1 hm2 fun h' n t k hk' hn6 => ⟨[], ⟨rfl, n, t, rfl, hn6⟩, (fun _ hp => by cases hp), h', s₃.gens, k, rfl, hk', id⟩
  · intro q hq
    have hIq : I ≤ q := by
      rcases List.mem_cons.mp hq with rfl | hq
      · exact Nat.le_succ _
      · exact Nat.le_of_eq (List.mem_singleton.mp hq).symm
    refine ⟨?_, Nat.ne_of_gt (Nat.lt_of_lt_of_le hLI hIq)⟩
    cases e : h₀.get? q with
    | none => rfl
    | some o' =>
      have e2 := F1.keep q o' e
      rw [hnone q hIq] at e2
      cases e2
  · intro p hp q
    have e := (N1 p hp).1
    have : I ≤ p.1 := by
      rcases List.mem_cons.mp q with q | q
      · rw [q]; exact Nat.le_succ _
      · rw [List.mem_singleton.mp q]; exact Nat.le_refl _
    rw [hnone _ this] at e
    cases e
  · intro D h' g' tk k rs F' N' hlen heach hbare hDn
    have hnil : rs.flatMap (·.2) = [] := by
      rw [List.flatMap_eq_nil_iff]
      intro r hr
      obtain ⟨i, hi⟩ := List.getElem?_of_mem hr
      exact (heach i r hi).1
    rw [hnil, List.nil_append] at N'
    refine h D h' g' tk k (rs.map (·.1)) F' N' (by rw [List.length_map, hlen, hVs]) ?_ hbare
    intro i v hv
    rw [List.getElem?_map] at hv
    cases hr : rs[i]? with
    | none => rw [hr] at hv; cases hv
    | some r =>
      rw [hr] at hv
      cases hv
      exact (heach i r hr).2
end
end Mine
end
/- CALLF -/
section
open PySem PySem.W PyProof.Rows
set_option maxRecDepth 100000
set_option genSizeOf false
set_option genInjectivity false
namespace Mine
theorem Fr.along {h₀ h h' : Heap} {L : Addr} {m : Str → Option Value} (F : Fr h₀ L h m) (hk : ∀ b o, h.get? b = some o → h'.get? b = some o) : Fr h₀ L h' m :=
  ⟨F.ns.keeps hk, fun b o e => hk b o (F.keep b o e), F.above⟩

section
variable {w : World} {mean : ExcName → Option Value} {mg mb : Str → Option Value} {A : Around} {h₀ : Heap} {L a : Addr} {m : Str → Option Value} {news : List (Addr × Obj)} {E : Value → Shared → Prop} {s : Shared} {Q : Value → Shared → Prop} {vs : List Value}
theorem drawn_callF (G : Gd w mean mg mb h₀) (hh : A.handled = none) (hd : A.depth + 16 < recursionLimit) (hu : A.units + 200 < cLine) (F : Fr h₀ L s.heap m) (N : News h₀ L s.heap news)
    (hl : s.heap.IsList a vs.toArray) (hvl : vs.length = 3) (hvs : ∀ (i : Nat) (v : Value), vs[i]? = some v → ∃ (n : Nat) (t : Tok), v = .int n t ∧ n < 1000000)
    (h : ∀ h' g' n' x tk', Fr h₀ L h' m → News h₀ L h' news → (AllBare s.gens → AllBare g') → x.length ≤ 18 → okT x → Q (.str (toS x) tk') { s with heap := h', gens := g', toks := n' }) :
    wpAny (model pgm w) A (call (.ref 82) [.ref a]) Q E s := by
  obtain ⟨ah, dp, fr, gd, un⟩ := A
  cases hh
  exact wpAny_call (drawn_walk w mean mg mb a vs dp un fr gd s (resOf Q E) (G.keeps F.keep) hd hu hl hvl hvs fun h' g' n' x tk' hk hb h1 h2 => h h' g' n' x tk' (Fr.along F hk) (News.ext N hk) hb h1 h2)



theorem left_callT (G : Gd w mean mg mb s.heap) (hh : A.handled = none) (hd : A.depth + 12 < recursionLimit) (hu : A.units + 60 < cLine) {t : Tx} {tk : Tok} (ht : t.length ≤ 4096)
    (h : ∀ h' n' a vs k, (∀ b o, s.heap.get? b = some o → h'.get? b = some o) → h'.get? a = some (listOf vs.toArray k) → s.heap.get? a = none → SA vs ((left t).map toS) → Q (.ref a) { s with heap := h', toks := n' }) :
    wpAny (model pgm w) A (call (.ref 103) [.str (toS t) tk]) Q E s := by
  obtain ⟨ah, dp, fr, gd, un⟩ := A
  cases hh
  refine wpAny_call (left_walk w mean mg mb (toS t) tk (by rw [toS_length]; exact ht) dp un fr gd s (resOf Q E) G hd hu fun h' n' a vs k hk hl hln hs => ?_)
  rw [toS_cps] at hs
  exact h h' n' a vs k hk hl hln hs

/-- the five escapes -/
noncomputable def escRef (n : Nat) : Addr := if n = 0 then 49 else if n = 1 then 56 else if n = 2 then 63 else if n = 3 then 70 else 77
theorem esc_callT (G : Gd w mean mg mb s.heap) (hh : A.handled = none) (hd : A.depth + 8 < recursionLimit) (hu : A.units + 40 < cLine) (h0 : 0 < s.toks) {n : Nat} (hn : n < 5) {t : Tx} {tk : Tok} (ht : t.length ≤ 50000)
    (h : ∀ h' n' tk', 0 < n' → (∀ b o, s.heap.get? b = some o → h'.get? b = some o) → Q (.str (toS (ex (eT (tabOf [n])) t)) tk') { s with heap := h', toks := n' }) :
    wpAny (model pgm w) A (call (.ref (escRef n)) [.str (toS t) tk]) Q E s := by
  obtain ⟨ah, dp, fr, gd, un⟩ := A
  cases hh
  rcases n with _ | _ | _ | _ | _ | n
  · exact wpAny_call (esc0_walk w mean mg mb t tk ht dp un fr gd s (resOf Q E) G h0 hd hu h)
  · exact wpAny_call (esc1_walk w mean mg mb t tk ht dp un fr gd s (resOf Q E) G h0 hd hu h)
  · exact wpAny_call (esc2_walk w mean mg mb t tk ht dp un fr gd s (resOf Q E) G h0 hd hu h)
  · exact wpAny_call (esc3_walk w mean mg mb t tk ht dp un fr gd s (resOf Q E) G h0 hd hu h)
  · exact wpAny_call (esc4_walk w mean mg mb t tk ht dp un fr gd s (resOf Q E) G h0 hd hu h)
  · exact absurd hn (Nat.not_lt.mpr (Nat.le_add_left 5 n))
end
end Mine
end
/- STORE -/
section
open PySem PySem.W PyProof.Rows
set_option maxRecDepth 100000
set_option genSizeOf false
set_option genInjectivity false
namespace Mine
theorem cell_ne {L : Addr} {a b : Nat} (h : a ≠ b) : L + a ≠ L + b := fun q => h (Nat.add_left_cancel q)
theorem News.off {h₀ h : Heap} {L c : Addr} {o : Obj} {v : Option Value} {news : List (Addr × Obj)} (N : News h₀ L h news) (hm : (c, o) ∈ news) (hd : o.data = .cell v) {p : Addr × Obj} (hp : p ∈ news) (hne : ∀ v, p.2.data ≠ .cell v) : p.1 ≠ c := by
  intro q
  have e1 := (N p hp).1
  have e2 := (N _ hm).1
  rw [q] at e1
  rw [show h.get? c = some o from e2] at e1
  cases e1
  exact hne v hd
end Mine
end
/- DUE1 -/
section
open PySem PySem.W PyProof.Rows PyProof.V PySem.Calls
set_option maxRecDepth 100000
set_option genSizeOf false
set_option genInjectivity false
namespace Mine

section
variable {prog : Program} {w : World} {A : Around} {E : Value → Shared → Prop} {s : Shared} {env : Env} {m : Str → Option Value} {Q : Value → Shared → Prop}
/-- table.get(sign, sign) -/
theorem elt_get {ct d : Addr} {tab : Tab} {od : Obj} {c : Nat} {tk : Tok}  (hk : env.scope.kind = .function)
    (hct : env.kindOf (Str.ofString "table") = some .cell) (hc : env.cells.lookup (Str.ofString "table") = some ct) (hcell : s.heap.IsCell ct (some (.ref d)))
    (hd : (d == sysModules) = false) (ho : s.heap.get? d = some od) (hT : TabIs prog w od tab)
    (hx : env.kindOf (Str.ofString "sign") = some .local) (hn : s.heap.Ns env.locals m) (hm : m (Str.ofString "sign") = some (.str (toS [c]) tk)) (hline : ((⟨176, 25, 176, 34⟩ : Pos).endLine == (⟨176, 25, 176, 46⟩ : Pos).line) = true)
    (h : ∀ tk' k, Q (.str (toS (eT tab c)) tk') { s with toks := k }) :
    wpAny (model prog w) A (eval (.Call (.Attribute (.Name (Str.ofString "table") (⟨176, 25, 176, 30⟩ : Pos)) (Str.ofString "get") (⟨176, 25, 176, 34⟩ : Pos)) [.Name (Str.ofString "sign") (⟨176, 35, 176, 39⟩ : Pos), .Name (Str.ofString "sign") (⟨176, 41, 176, 45⟩ : Pos)] [] (⟨176, 25, 176, 46⟩ : Pos)) env) Q E s := by
  have T : StrTab prog w s.heap d (encD tab) := hT.at hd ho
  obtain ⟨kvs, hK, hf⟩ := hT
  have hDict : s.heap.DictOf (PySem.strKind prog w) d kvs := Heap.dictOf_iff.mpr ⟨od, ho, hK⟩
  refine wpAny_Call_method2_late rfl hline rfl (wpAny_Name (wpAny_loadName_cell hk hct hc hcell ?_) (by decide))
  refine ⟨"dict", "dict.get", PySem.F.plainAttrs_dict, PySem.F.slot_dict_get, PySem.F.type_dict_get, hDict.typeIs, hDict.mapOf.noDict, ?_⟩
  refine Calls.callWith_builtin rfl (Calls.evalArgs_plain (Calls.spliced_cons (ev_local hk hx hn hm (Calls.spliced_cons (ev_local hk hx hn hm ?_)))))
  refine Calls.spliced_nil ?_
  show wpAny _ _ (call (.builtin "dict.get") [.ref d, .str (toS [c]) tk, .str (toS [c]) tk]) _ _ _
  refine call_get2_strTab T (Flat.str (toS [c]) tk) fun v hv => ?_
  rw [lookup_encD] at hv
  unfold eT at h
  cases e : tab.lookup c with
  | none =>
    rw [e] at hv h
    obtain ⟨t', rfl⟩ := (show Flat v (.str (toS [c])) from hv).str_inv
    exact h t' _
  | some t =>
    rw [e] at hv h
    obtain ⟨t', rfl⟩ := (show Flat v (.str (toS t)) from hv).str_inv
    exact h t' _

theorem SA.ofGet : ∀ {rs : List (Value × List (Addr × Obj))} {xs : List Tx}, rs.length = xs.length → (∀ (i : Nat) r, rs[i]? = some r → ∃ x tk, xs[i]? = some x ∧ r.1 = .str (toS x) tk) → SA (rs.map (·.1)) (xs.map toS)
  | [], [], _, _ => .nil
  | [], _ :: _, h, _ => by simp at h
  | _ :: _, [], h, _ => by simp at h
  | r :: rs, x :: xs, hl, h => by
    obtain ⟨y, tk, e, e1⟩ := h 0 r rfl
    cases e
    exact .cons tk e1 (SA.ofGet (by simpa using hl) fun i q hq => h (i + 1) q (by simpa using hq))

/-- an item of a list at a natural place, the place a name -/
theorem tail_list {value : Expr} {x : Str} {p : Pos} {l : Addr} {items : List Value} {i : Nat} {tk : Tok} {v : Value} (hl : s.heap.IsList l items.toArray) (hi : i < 1000) (hx : items[i]? = some v) (h : Q v s) :
    wpAny (model prog w) A (subscriptTail value (.Name x p) (.ref l) (.int (i : Nat) tk)) Q E s :=
  tail_any (ops := [.ref l, .int (i : Nat) tk]) hl.typeIs slot_list_getitem.lookup (wpAny_getItem_list hl (Int.natCast_nonneg _) (natSmall hi) (by simpa using hx) h) (by with_unfolding_all rfl)
/-- the signs of a text, one after the other -/
theorem iter_text {x : Str} {t : Tok} (hQ : ∀ (o : Obj) (St : Nat → Heap → Prop), (∀ A' : Around, A'.handled = none → Walks prog w A' s.heap.objs.size [s.heap.objs.size] [s.heap.objs.size] x.cps.size (SignAt x) St) → St 0 (s.heap.push o) → (∀ i h, St i h → ∃ o', h.get? s.heap.objs.size = some o') →
      Q (.ref s.heap.objs.size) { s with heap := s.heap.push o }) : wpAny (model prog w) A (pyIter (.str x t)) Q E s := by
  cases ha : x.cps.all (· < 128)
  · exact wpAny_pyIter_wide ha (hQ _ _ (fun A' hA => Walks.strWide hA _ x t) ⟨_, Heap.get?_push_size _ rfl, rfl, rfl⟩ fun i h st => ⟨_, st.choose_spec.1⟩)
  · exact wpAny_pyIter_ascii ha (hQ _ _ (fun A' hA => Walks.strAscii hA _ x t) ⟨_, Heap.get?_push_size _ rfl, rfl, rfl⟩ fun i h st => ⟨_, st.choose_spec.1⟩)

/-- what the lists of the ways hold, seen from a comprehension's block -/
structure LeftAt (h : Heap) (LL : Addr) (t0 t1 : Tx) : Prop where
  ex : ∃ l0 l1 vs0 vs1, h.IsList LL #[.ref l0, .ref l1] ∧ h.IsList l0 vs0.toArray ∧ h.IsList l1 vs1.toArray ∧ SA vs0 ((left t0).map toS) ∧ SA vs1 ((left t1).map toS)
theorem LeftAt.keeps {h h' : Heap} {LL : Addr} {t0 t1 : Tx} (X : LeftAt h LL t0 t1) (hk : ∀ b o, h.get? b = some o → h'.get? b = some o) : LeftAt h' LL t0 t1 :=
  let ⟨l0, l1, vs0, vs1, a, b, c, d, e⟩ := X.ex
  ⟨l0, l1, vs0, vs1, a.at fun o e => hk _ o e, b.at fun o e => hk _ o e, c.at fun o e => hk _ o e, d, e⟩
noncomputable def side (t0 t1 : Tx) (i : Nat) : Tx := if i = 0 then t0 else t1
theorem LeftAt.get {h : Heap} {LL : Addr} {t0 t1 : Tx} (X : LeftAt h LL t0 t1) {i : Nat} (hi : i < 2) : ∃ (items : List Value) (l : Addr) (vs : List Value), h.IsList LL items.toArray ∧ items[i]? = some (.ref l) ∧ h.IsList l vs.toArray ∧ SA vs ((left (side t0 t1 i)).map toS) := by
  obtain ⟨l0, l1, vs0, vs1, a, b, c, d, e⟩ := X.ex
  rcases Nat.lt_or_ge i 1 with h1 | h1
  · have := oneZero h1
    subst this
    exact ⟨[.ref l0, .ref l1], l0, vs0, a, rfl, b, d⟩
  · have := twoOne hi h1
    subst this
    exact ⟨[.ref l0, .ref l1], l1, vs1, a, rfl, c, e⟩
theorem left_len (t : Tx) : (left t).length = 7 := rfl
theorem at_get (t : Tx) {w : Nat} (hw : w < 7) : (left t)[w]? = some (at' t w) := by
  unfold at'
  rw [List.getD_eq_getElem?_getD, List.getElem?_eq_getElem (by rw [left_len]; exact hw)]
  rfl

set_option maxHeartbeats 1000000 in
/-- ''.join([table.get(sign, sign) for sign in left[side][way]]) -/
theorem join_gets {iscope : Scope} {icl : List (Str × Addr)} {ct cl cw d LL : Addr} {tab : Tab} {od : Obj} {t0 t1 : Tx} {i way : Nat} {tki tkw : Tok}   (hk : env.scope.kind = .function)
    (hlk : env.kindOf (Str.ofString "left") = some .cell) (hlc : env.cells.lookup (Str.ofString "left") = some cl) (hlcell : s.heap.IsCell cl (some (.ref LL))) (hLL : LeftAt s.heap LL t0 t1)
    (hwk : env.kindOf (Str.ofString "way") = some .cell) (hwc : env.cells.lookup (Str.ofString "way") = some cw) (hwcell : s.heap.IsCell cw (some (.int (way : Nat) tkw))) (hw7 : way < 7)
    (hsk : env.kindOf (Str.ofString "side") = some .local) (hn : s.heap.Ns env.locals m) (hm : m (Str.ofString "side") = some (.int (i : Nat) tki)) (hi2 : i < 2)
    (hcell : s.heap.IsCell ct (some (.ref d))) (hd : (d == sysModules) = false) (ho : s.heap.get? d = some od) (hT : TabIs prog w od tab)
    (hh : A.handled = none) (hclos : closureFor iscope env = pure icl) (hicl : icl.lookup (Str.ofString "table") = some ct) (hick : iscope.kind = .function) (hinc : ∀ y ∈ iscope.names, y.2 ≠ .cell)
    (hinn : ∀ y ∈ iscope.names, y.2 = .local → iscope.names.lookup y.1 = some .local) (hisx : iscope.names.lookup (Str.ofString "sign") = some .local)
    (hit : (relabel iscope env).names.lookup (Str.ofString "table") = some .cell)
    (hline : ((⟨176, 16, 176, 23⟩ : Pos).endLine == (⟨176, 16, 176, 76⟩ : Pos).line) = true) (hgline : ((⟨176, 25, 176, 34⟩ : Pos).endLine == (⟨176, 25, 176, 46⟩ : Pos).line) = true)
    (hlen : (at' (side t0 t1 i) way).length ≤ 4096) (hlen2 : (ex (eT tab) (at' (side t0 t1 i) way)).length ≤ 65536)
    (h : ∀ h' g' tk' k, (∀ b o, s.heap.get? b = some o → h'.get? b = some o) → (AllBare s.gens → AllBare g') → Q (.str (toS (ex (eT tab) (at' (side t0 t1 i) way))) tk') { s with heap := h', gens := g', toks := k }) :
    wpAny (model prog w) A (eval (.Call (.Attribute (.Constant (.str (Str.ofString "")) 0 (⟨176, 16, 176, 18⟩ : Pos)) (Str.ofString "join") (⟨176, 16, 176, 23⟩ : Pos))
      [.ListComp (.Call (.Attribute (.Name (Str.ofString "table") (⟨176, 25, 176, 30⟩ : Pos)) (Str.ofString "get") (⟨176, 25, 176, 34⟩ : Pos)) [.Name (Str.ofString "sign") (⟨176, 35, 176, 39⟩ : Pos), .Name (Str.ofString "sign") (⟨176, 41, 176, 45⟩ : Pos)] [] (⟨176, 25, 176, 46⟩ : Pos))
        [⟨.Name (Str.ofString "sign") (⟨176, 51, 176, 55⟩ : Pos), .Subscript (.Subscript (.Name (Str.ofString "left") (⟨176, 59, 176, 63⟩ : Pos)) (.Name (Str.ofString "side") (⟨176, 64, 176, 68⟩ : Pos)) (⟨176, 59, 176, 69⟩ : Pos)) (.Name (Str.ofString "way") (⟨176, 70, 176, 73⟩ : Pos)) (⟨176, 59, 176, 74⟩ : Pos), [], 0⟩] iscope (⟨176, 24, 176, 75⟩ : Pos)] [] (⟨176, 16, 176, 76⟩ : Pos)) env) Q E s := by
  obtain ⟨items, l, vs, hA, hAi, hB, hsa⟩ := hLL.get hi2
  generalize hX : at' (side t0 t1 i) way = X at *
  have hget : ∃ tk, vs[way]? = some (.str (toS X) tk) := by
    have hl7 : way < vs.length := by rw [SA.length hsa, List.length_map]; exact hw7
    obtain ⟨x, tk, e1, e2⟩ := hsa.get way _ (List.getElem?_eq_getElem hl7)
    rw [List.getElem?_map, at_get _ hw7, hX] at e1
    cases e1
    exact ⟨tk, by rw [List.getElem?_eq_getElem hl7, e2]⟩
  obtain ⟨tkX, hget⟩ := hget
  refine wpAny_Call_method1_late rfl hline rfl (Calls.Constant_str ?_)
  refine ⟨"str", "str.join", PySem.F.plainAttrs_str, PySem.F.slot_str_join, PySem.F.type_str_join, typeIs_str _ _ _, (fun _ e => nomatch e), ?_⟩
  refine Calls.callWith_builtin rfl (Calls.evalArgs_plain (Calls.spliced_cons ?_))
  refine comp_eval hclos hinc hick hinn ?_
  refine Subscript_ (Subscript_ (wpAny_Name (wpAny_loadName_cell hk hlk hlc hlcell ?_) (by decide)))
  refine ev_local hk hsk (s := { s with toks := _ }) hn hm ?_
  refine tail_list (s := { s with toks := _ }) hA (ltBig hi2) hAi ?_
  refine wpAny_Name (wpAny_loadName_cell (s := { s with toks := _ }) hk hwk hwc hwcell ?_) (by decide)
  refine tail_list (s := { s with toks := _ }) hB (ltBig hw7) hget ?_
  refine iter_text fun o St W hSt hLive => ?_
  dsimp only at W hSt hLive ⊢
  have hsz : (toS X).cps.size = X.length := by simp [toS]
  have hnone : s.heap.get? s.heap.objs.size = none := Heap.get?_none_of_le (Nat.le_refl _)
  refine ⟨s.heap.objs.size, _, _, _, _, St, fun i y l => l = [] ∧ ∃ c tk, X[i]? = some c ∧ y = .str (toS (eT tab c)) tk, rfl, Turns.name (px := (⟨176, 51, 176, 55⟩ : Pos)) (W A hh) hick hisx, hsz ▸ leSz hlen, hSt, ?_, ?_, ?_, ?_⟩
  · intro b hb
    rw [List.mem_singleton.mp hb]
    show _ < (s.heap.push o).objs.size
    rw [Heap.size_push]
    exact Nat.lt_succ_self _
  · intro i' h' hst b hb
    rw [List.mem_singleton.mp hb]
    exact hLive i' h' hst
  · rintro C i' s₃ m₃ hC hi' ⟨v, ⟨c, u, hv, rfl⟩, hm₃⟩ hn₃ hk₃ _
    have hk3 : ∀ b o', s.heap.get? b = some o' → s₃.heap.get? b = some o' := fun b o' e => hk₃ b o' (fun q => by rw [List.mem_singleton.mp q, hnone] at e; cases e) (Heap.get?_push_of_some _ e)
    refine elt_get (env := compEnvC iscope icl C env) hick hit hicl (hcell.keeps hk3) hd (hk3 _ _ ho) hT (lookup_relabel_local hisx) hn₃ (c := c) (tk := u) hm₃ hgline fun tk' k => ?_
    refine ⟨[], ⟨rfl, c, tk', ?_, rfl⟩, (fun _ hp => by cases hp), s₃.heap, s₃.gens, k, rfl, fun _ _ e => e, id⟩
    simpa [toS] using hv
  · intro D h' g' tk rs G
    refine Calls.spliced_nil ?_
    show wpAny _ _ (call (.builtin "str.join") [.str (Str.ofString "") s.toks, .ref D]) _ _ _
    have hrl := G.len
    rw [hsz] at hrl
    have hS : SA (rs.map (·.1)) ((X.map (eT tab)).map toS) := SA.ofGet (by rw [List.length_map]; exact hrl) fun j r hr => by
      obtain ⟨_, c, tk, e1, e2⟩ := G.each j r hr
      exact ⟨eT tab c, tk, by rw [List.getElem?_map, e1]; rfl, e2⟩
    obtain ⟨kD, hD⟩ := G.list
    have hflat : (X.map (eT tab)).flatten = ex (eT tab) X := by rw [ex, List.flatMap_def]
    refine join_SA (xs := X.map (eT tab)) (s := { s with heap := h', gens := g', toks := tk }) ⟨_, hD, rfl, _, rfl⟩ (by simpa using hS) (by rw [hflat]; exact hlen2) fun t' k => ?_
    rw [hflat]
    refine h h' g' t' k (fun b o' e => G.keep b o' (fun q => by rw [List.mem_singleton.mp q, hnone] at e; cases e) (Heap.get?_push_of_some _ e)) G.bare
end
end Mine
end
/- COMPX -/
section
open PySem PySem.W PyProof.Rows
set_option maxRecDepth 100000
set_option genSizeOf false
set_option genInjectivity false
namespace Mine
section
variable {prog : Program} {w : World} {A : Around} {E : Value → Shared → Prop} {env : Env} {scope : Scope} {cl : List (Str × Addr)}

/-- a comprehension's block with one name that another block reads -/
theorem newEnvX {s : Shared} {x : Str} {globals : Addr} {qual : Str} {code : Value} {outer : Env} {Q : Env → Shared → Prop}
    (hcells : ∀ n, cellsFrom n scope.names cl = (x, n) :: cl) (hpush : ∀ h, pushCells h scope.names = h.push { cls := .type "cell", data := .cell none })
    (hQ : Q { scope := scope, locals := s.heap.objs.size, globals := globals, cells := (x, s.heap.objs.size + 1) :: cl, qual := qual, func := none, code := outer.code, frame := outer.frame, builtins := outer.builtins }
      { s with heap := (s.heap.push { cls := .type "dict", data := .dict #[] }).push { cls := .type "cell", data := .cell none } }) :
    wpAny (model prog w) A (newFunctionEnv scope globals cl [] qual none code (some outer)) Q E s := by
  simp only [newFunctionEnv, Option.isSome_some, if_true]
  refine wpAny_bind (wpAny_alloc ?_)
  refine wpAny_bind (wpAny_layCells _ (fun name kind cells => by cases kind == NameKind.cell <;> simp) _ _ _ _ ?_)
  rw [hpush, show ({ s with heap := s.heap.push { cls := .type "dict", data := .dict #[] } } : Shared).heap.objs.size = s.heap.objs.size + 1 from Heap.size_push .., hcells]
  refine wpAny_bind ?_
  rw [List.forIn_nil]
  exact wpAny_pure (wpAny_pure hQ)

/-- the element of a comprehension whose name another block reads -/
noncomputable def EltOkX (prog : Program) (w : World) (A : Around) (env : Env) (scope : Scope) (cl : List (Str × Addr)) (x : Str) (elt : Expr) (wr : List Addr) (n : Nat) (P : Nat → Value → Prop) (F : Nat → Value → List (Addr × Obj) → Prop) (s₂ : Shared) : Prop :=
  ∀ C K i v s₃, i < n → P i v → s₃.heap.IsCell K (some v) → (∀ b o, b ∉ wr → s₂.heap.get? b = some o → s₃.heap.get? b = some o) →
    wpAny (model prog w) A (eval elt (compEnvC scope ((x, K) :: cl) C env)) (fun y s₄ => ∃ l, F i y l ∧ (∀ p ∈ l, s₄.heap.get? p.1 = some p.2 ∧ s₃.heap.get? p.1 = none) ∧ Kp s₃ s₄) (fun _ _ => False) s₃

set_option maxHeartbeats 1000000 in
theorem comp_blockX {elt iter : Expr} {x : Str} {px : Pos} {pos : Pos} {s₂ : Shared} {I : Addr} {fp wr : List Addr} {n : Nat} {P : Nat → Value → Prop}
    {St : Nat → Heap → Prop} (W : Walks prog w A I fp wr n P St) (hsz : n ≤ sizeLine) (F : Nat → Value → List (Addr × Obj) → Prop) {RR : Value → Addr → Result → Shared → Prop}
    (hcells : ∀ n, cellsFrom n scope.names cl = (x, n) :: cl) (hpush : ∀ h, pushCells h scope.names = h.push { cls := .type "cell", data := .cell none })
    (hkind : scope.kind = .function) (hx : (relabel scope env).names.lookup x = some .cell) (hst : St 0 s₂.heap) (hfp : ∀ b ∈ fp, b < s₂.heap.objs.size) (hlive : ∀ i h, St i h → ∀ b ∈ wr, ∃ o, h.get? b = some o)
    (hq : EltOkX prog w A env scope cl x elt wr n P F s₂)
    (hRR : ∀ D C h' g' tk m' rs, s₂.heap.get? C = none → D ≠ C → h'.Ns C m' → CompGot F n wr s₂ h' g' D rs → (∀ r ∈ rs, ∀ p ∈ r.2, p.1 ≠ C) → RR (.ref D) C (.ok .next) { s₂ with heap := h', gens := g', toks := tk }) :
    wpAny (model prog w) A (newList []) (fun acc s₃ => wpAny (model prog w) A (newFunctionEnv scope env.globals cl [] env.qual none .none (some env)) (fun cenv s₄ =>
      codeAny (model prog w) A (.compStart (.ListComp elt [⟨.Name x px, iter, [], 0⟩] scope pos) 0 (.ref I) acc { cenv with scope := relabel scope env }) (RR acc cenv.locals) s₄) E s₃) E s₂ := by
  refine wpAny_newObj_type (newEnvX hcells hpush ?_)
  dsimp only
  generalize hH2 : s₂.heap.push { cls := .type "list", dict := none, data := .seq ([] : List Value).toArray } = H2
  have hC : H2.objs.size = s₂.heap.objs.size + 1 := by rw [← hH2, Heap.size_push]
  have hns0 : (H2.push { cls := .type "dict", data := .dict #[] }).Ns H2.objs.size (fun _ => none) := Heap.Ns.new H2 (.type "dict")
  have hsz1 : (H2.push { cls := .type "dict", data := .dict #[] }).objs.size = H2.objs.size + 1 := Heap.size_push ..
  generalize hH1 : H2.push { cls := .type "dict", data := .dict #[] } = H1 at hns0 hsz1
  have hK0 : (H1.push { cls := .type "cell", data := .cell none }).get? H1.objs.size = some { cls := .type "cell", data := .cell none } := Heap.get?_push_size _ rfl
  have k1 : ∀ b o, H1.get? b = some o → (H1.push { cls := .type "cell", data := .cell none }).get? b = some o := fun b o e => Heap.get?_push_of_some _ e
  have k12 : ∀ b o, H2.get? b = some o → H1.get? b = some o := fun b o e => by rw [← hH1]; exact Heap.get?_push_of_some _ e
  have k2 : ∀ b o, s₂.heap.get? b = some o → H2.get? b = some o := fun b o e => by rw [← hH2]; exact Heap.get?_push_of_some _ e
  have hD0 : H2.get? s₂.heap.objs.size = some { cls := .type "list", dict := none, data := .seq ([] : List Value).toArray } := by rw [← hH2]; exact Heap.get?_push_size _ rfl
  rw [hsz1] at hK0
  have fresh : ∀ a, s₂.heap.objs.size ≤ a → s₂.heap.get? a = none := fun a ha => Heap.get?_none_of_le ha
  generalize H1.push { cls := .type "cell", data := .cell none } = h₁ at hK0 k1 ⊢
  have hns₁ : h₁.Ns H2.objs.size (fun _ => none) := hns0.keeps k1
  have old : ∀ b o, s₂.heap.get? b = some o → h₁.get? b = some o := fun b o e => k1 _ _ (k12 _ _ (k2 _ _ e))
  have hacc : h₁.PlainList s₂.heap.objs.size #[] := ⟨_, k1 _ _ (k12 _ _ hD0)⟩
  have hst₁ : St 0 h₁ := W.frame _ _ _ hst fun b _ o e => old b o e
  have hKC : H2.objs.size + 1 ≠ H2.objs.size := Nat.succ_ne_self _
  have hDC : s₂.heap.objs.size ≠ H2.objs.size := by rw [hC]; exact Nat.ne_of_lt (Nat.lt_succ_self _)
  have hDK : s₂.heap.objs.size ≠ H2.objs.size + 1 := by rw [hC]; exact Nat.ne_of_lt (Nat.lt_succ_of_lt (Nat.lt_succ_self _))
  have hCle : s₂.heap.objs.size ≤ H2.objs.size := by rw [hC]; exact Nat.le_succ _
  have hDf : s₂.heap.objs.size ∉ fp := fun hm => Nat.lt_irrefl _ (hfp _ hm)
  have hCf : H2.objs.size ∉ fp := fun hm => Nat.lt_irrefl _ (Nat.lt_of_lt_of_le (hfp _ hm) hCle)
  have hKf : H2.objs.size + 1 ∉ fp := fun hm => Nat.lt_irrefl _ (Nat.lt_of_lt_of_le (hfp _ hm) (Nat.le_succ_of_le hCle))
  have hCn := fresh _ hCle
  have hKn : s₂.heap.get? (H2.objs.size + 1) = none := fresh _ (Nat.le_succ_of_le hCle)
  have hDn := fresh _ (Nat.le_refl s₂.heap.objs.size)
  generalize hCe : H2.objs.size = C at *
  generalize hKe : C + 1 = K at *
  generalize hDe : s₂.heap.objs.size = D at *
  have loop : ∀ s₃ : Shared, s₃ = { s₂ with heap := h₁ } →
      codeAny (model prog w) A (.compLoop (.ListComp elt [⟨.Name x px, iter, [], 0⟩] scope pos) 0 (.ref I) (.ref D) (compEnvC scope ((x, K) :: cl) C env)) (RR (.ref D) C) s₃ := by
    rintro s₃ rfl
    have hPD : ¬ (D = C ∨ D ∈ wr ∨ D = K) := fun q => q.elim hDC fun q => q.elim (fun q => hDf (W.sub _ q)) hDK
    refine compLoop_any (CInv F n wr s₂ D (fun b => b = C ∨ b ∈ wr ∨ b = K) St (fun _ h => h.Ns C (fun _ => none) ∧ ∃ v, h.IsCell K v)) ?_ (n + 1)
      ⟨0, h₁, s₂.gens, _, [], rfl, Nat.zero_le _, rfl, hst₁, ⟨hns₁, none, _, hK0, rfl⟩, ⟨hDn, hacc, rfl, (fun _ _ e => nomatch e), (fun _ hr => nomatch hr), (fun _ hr => nomatch hr), fun b o _ e => old b o e, _root_.id⟩, (fun _ hr => nomatch hr)⟩
    rintro k s' ⟨i, h', g', tk, rs, rfl, hi, rfl, hst', ⟨hn', v', hc'⟩, G, hoffC⟩
    have hDw : D ∉ wr := fun q => hDf (W.sub _ q)
    have hCw : C ∉ wr := fun q => hCf (W.sub _ q)
    have hKw : K ∉ wr := fun q => hKf (W.sub _ q)
    by_cases hlt : i < n
    · refine W.item i _ _ _ hlt hst' fun v h₂ tk₂ hP hst₂ hk₂ => ?_
      show wpAny _ A (pure ()) _ _ _
      obtain ⟨oc, hoc, hdc⟩ := id hc'
      refine wpAny_pure (wpAny_assign_Name (wpAny_storeName_cell (env := compEnvC scope ((x, K) :: cl) C env) (c := K) (v₀ := v') hkind hx (by show List.lookup x ((x, K) :: cl) = some K; rw [List.lookup_cons, beq_self_eq_true]) ⟨oc, hk₂ _ _ hKw hoc, hdc⟩ fun h₂' hcv hs₂ => ?_))
      have hk₂' : ∀ b o, b ∉ wr → b ≠ K → h'.get? b = some o → h₂'.get? b = some o := fun b o hb hbK e => hs₂.extBut b o hbK (hk₂ b o hb e)
      have hst₂' : St (i + 1) h₂' := W.frame _ _ _ hst₂ fun b hb o e => hs₂.extBut b o (fun q => hKf (q ▸ hb)) e
      have hn₂ : h₂'.Ns C (fun _ => none) := hn'.at fun o e => hk₂' _ o hCw (Ne.symm hKC) e
      have keep₂ : ∀ b o, b ∉ wr → s₂.heap.get? b = some o → h₂'.get? b = some o := fun b o hb e => hk₂' b o hb (fun q => by rw [q, hKn] at e; cases e) (G.keep b o hb e)
      refine wpAny_mono (hq C K i v { s₂ with heap := h₂', gens := g', toks := tk₂ } hlt hP hcv keep₂) (fun y s₆ h₆ => ?_) fun _ _ e => e.elim
      obtain ⟨l, hF, hl, h₃, g₃, tk₃, rfl, hk₃, hb₃⟩ := h₆
      have hlist₃ : h₃.PlainList D (rs.map (·.1)).toArray := (G.list.at fun o e => hk₂' _ o hDw hDK e).at fun o e => hk₃ _ o e
      have hsz' : (rs.map (·.1)).toArray.size ≤ sizeLine := by rw [List.size_toArray, List.length_map, G.len]; exact Nat.le_trans hi hsz
      refine wpAny_list_append_plain hlist₃ (fun h₄ hl₄ hs₄ => ?_) hsz'
      have hk₄ : ∀ b o, b ≠ D → h₃.get? b = some o → h₄.get? b = some o := fun b o hb e => hs₄.extBut b o hb e
      obtain ⟨_, _, _, hCo, _⟩ := id hn₂
      obtain ⟨oK, hKo, hKd⟩ := id hcv
      obtain ⟨G', off'⟩ := compSnoc (P := fun b => b = C ∨ b ∈ wr ∨ b = K) G hoffC (fun _ q => .inr (.inl q)) hPD (fun b q => q.elim (fun q => q ▸ ⟨_, hCo⟩) fun q => q.elim (hlive _ _ hst₂' b) fun q => q ▸ ⟨_, hKo⟩)
        (fun b o q e => (q.resolve_left fun q => by rw [q, hCn] at e; cases e).resolve_right fun q => by rw [q, hKn] at e; cases e) (fun b o q => hk₂' b o (fun z => q (.inr (.inl z))) fun z => q (.inr (.inr z))) hk₃ hk₄ hl₄ hF hl hb₃
      exact ⟨n + 1 - (i + 1), downTurn hlt, i + 1, h₄, g₃, _, _, rfl, hlt, rfl, W.frame _ _ _ hst₂' fun b hb o e => hk₄ b o (fun q => hDf (q ▸ hb)) (hk₃ b o e), ⟨(hn₂.at fun o e => hk₃ _ o e).at fun o e => hk₄ _ o (Ne.symm hDC) e, _, oK, hk₄ _ _ (Ne.symm hDK) (hk₃ _ _ hKo), hKd⟩, G', off'⟩
    · obtain rfl := eqOf hi hlt
      refine W.done _ _ _ hst' fun h₂ tk₂ hk₂ => ?_
      refine hRR D C h₂ g' tk₂ _ rs hCn hDC (hn'.at fun o e => hk₂ _ o hCw e) ⟨hDn, G.list.at fun o e => hk₂ _ o hDw e, G.len, G.each, fun r hr p hp => ?_, G.off, fun b o hb e => hk₂ b o hb (G.keep b o hb e), G.bare⟩ fun r hr p hp q => hoffC r hr p hp (.inl q)
      exact ⟨hk₂ _ _ (fun q => hoffC r hr p hp (.inr (.inl q))) (G.new r hr p hp).1, (G.new r hr p hp).2⟩
  exact codeAny_compStart_list (loop _ rfl) (W.self 0 _ _ _ hst₁ (loop _ rfl))

/-- the comprehension, its name another block's, that a local name is bound to -/
theorem comp_assignX {s : Shared} {elt iter : Expr} {x y : Str} {px py : Pos} {pos spos : Pos} {Q : Flow → Shared → Prop} {m : Str → Option Value}
    (hsw : swapsWith (.ListComp elt [⟨.Name x px, iter, [], 0⟩] scope pos) (some (.Name y py)) spos.line env = pure true)
    (hclos : closureFor scope env = pure cl) (hcells : ∀ n, cellsFrom n scope.names cl = (x, n) :: cl) (hpush : ∀ h, pushCells h scope.names = h.push { cls := .type "cell", data := .cell none })
    (hkind : scope.kind = .function) (hx : (relabel scope env).names.lookup x = some .cell)
    (hnames : ∀ z ∈ scope.names, z.2 = .local → scope.names.lookup z.1 = some .local)
    (hk : env.scope.kind = .function) (hy : env.kindOf y = some .local)
    (h : wpAny (model prog w) A (eval iter env) (fun xv s₁ => wpAny (model prog w) A (pyIter xv) (fun it s₂ => ∃ I fp wr n P St F, it = .ref I ∧ Walks prog w A I fp wr n P St ∧ n ≤ sizeLine ∧ St 0 s₂.heap ∧ (∀ b ∈ fp, b < s₂.heap.objs.size) ∧
      (∀ i h, St i h → ∀ b ∈ wr, ∃ o, h.get? b = some o) ∧ EltOkX prog w A env scope cl x elt wr n P F s₂ ∧ s₂.heap.Ns env.locals m ∧ env.locals ∉ wr ∧
      (∀ D h' g' tk rs, h'.Ns env.locals (fun z => if z = y then some (.ref D) else m z) → CompGot F n (env.locals :: wr) s₂ h' g' D rs → Q .next { s₂ with heap := h', gens := g', toks := tk })) E s₁) E s)
    (hs : ∀ x, foldedSetIterable iter env x = pure x := by intro _; rfl) :
    wpAny (model prog w) A (exec (.Assign [.Name y py] (.ListComp elt [⟨.Name x px, iter, [], 0⟩] scope pos) spos) env) Q E s := by
  rw [exec_Assign_Name_used _ _ _ _ hsw]
  refine wpAny_bind (wpAny_standAt (wpAny_bind ?_))
  show wpAny _ A (do let _ ← comprehension (.ListComp elt [⟨.Name x px, iter, [], 0⟩] scope pos) scope env _ (newList []) false (eval iter env) (some (assign (.Name y py) env))) _ _ s
  refine wpAny_bind (wpAny_mono (wpAny_comprehension_free (use := some (assign (.Name y py) env)) (Q := fun _ s' => Q .next s') rfl hs hclos hkind hnames
    (wpAny_mono h (fun xv s₁ h₁ => wpAny_mono h₁ (fun it s₂ h₂ => ?_) fun _ _ e => e) fun _ _ e => e)) (fun _ s' hq => wpAny_pure (wpAny_pure hq)) fun _ _ e => e)
  obtain ⟨I, fp, wr, n, P, St, F, rfl, W, hsz, hst, hfp, hlive, hq, hn, hLw, hQ⟩ := h₂
  refine comp_blockX (RR := fun acc C => compPost (model prog w) A E (some (assign (.Name y py) env)) (fun _ s' => Q .next s') acc C) W hsz F hcells hpush hkind hx hst hfp hlive hq ?_
  intro D C h' g' tk m' rs hC hDC hn' G hoff
  show wpAny _ A (assign (.Name y py) env (.ref D)) _ _ _
  obtain ⟨_, _, _, hLo, _⟩ := id hn
  have hLs : s₂.heap.get? env.locals ≠ none := by rw [hLo]; simp
  have hCL : C ≠ env.locals := fun q => hLs (q ▸ hC)
  have hDL : D ≠ env.locals := fun q => hLs (q ▸ G.none)
  refine wpAny_assign_Name (wpAny_storeName_local hy (hn.at fun o e => G.keep _ o hLw e) (fun h₂ hn₂ hs₂ => ?_) (fn_block hk))
  refine ⟨m', hn'.at fun o e => hs₂.extBut _ o hCL e, fun h₆ hs₆ => ?_⟩
  refine hQ D h₆ g' _ rs (hn₂.at fun o e => hs₆.extBut _ o (Ne.symm hCL) e) ⟨G.none, G.list.at fun o e => hs₆.extBut _ o hDC (hs₂.extBut _ o hDL e), G.len, G.each, fun r hr p hp => ?_, G.off, fun b o hb e => ?_, G.bare⟩
  · obtain ⟨e1, e2⟩ := G.new r hr p hp
    have hpL : p.1 ≠ env.locals := fun q => hLs (q ▸ e2)
    exact ⟨hs₆.extBut _ _ (hoff r hr p hp) (hs₂.extBut _ _ hpL e1), e2⟩
  · have hbL : b ≠ env.locals := fun q => hb (List.mem_cons.mpr (.inl q))
    exact hs₆.extBut b o (fun q => by rw [show b = C from q, hC] at e; cases e) (hs₂.extBut b o hbL (G.keep b o (fun q => hb (List.mem_cons_of_mem _ q)) e))
end
end Mine
end
/- DUE2 -/
section
open PySem PySem.W PyProof.Rows PyProof.V
set_option maxRecDepth 100000
set_option genSizeOf false
set_option genInjectivity false
namespace Mine
section
variable {prog : Program} {w : World} {A : Around} {E : Value → Shared → Prop} {s : Shared} {env : Env} {m : Str → Option Value}

/-- for x in range(n) -/
theorem range_src {mg mb : Str → Option Value} {e : Expr} {rp rpos : Pos} {N : Nat} {K : Value → Shared → Prop} (hk : env.scope.kind = .function) (hx : env.kindOf (Str.ofString "range") = some .globalImplicit)
    (hg : s.heap.Ns env.globals mg) (hmiss : mg (Str.ofString "range") = none) (hb : s.heap.Ns env.builtins mb) (hv : mb (Str.ofString "range") = some (.type "range"))
    (hse : backTo rpos (starEach [e] env) = [(false, eval e env)]) (hN : N ≤ 1000)
    (he : ∀ Q' : Value → Shared → Prop, (∀ t k, Q' (.int (N : Nat) t) { s with toks := k }) → wpAny (model prog w) A (eval e env) Q' E s)
    (h : ∀ h' k I, (∀ b o, s.heap.get? b = some o → h'.get? b = some o) → s.heap.get? I = none → I < h'.objs.size → IsRangeIter h' I (0 + ((0 : Nat) : Int) * 1) ((N : Int) - ((0 : Nat) : Int)) 1 → K (.ref I) { s with heap := h', toks := k }) :
    wpAny (model prog w) A (eval (.Call (.Name (Str.ofString "range") rp) [e] [] rpos) env) (fun xv s₁ => wpAny (model prog w) A (pyIter xv) K E s₁) E s := by
  refine wpAny_Call_NameR (Calls.Name_function_global hk hx (Calls.loadGlobal_builtin hg hmiss hb hv ?_))
  rw [hse]
  refine PyProof.Rows.callWith_type rfl (Calls.evalArgs_plain (Calls.spliced_cons (he _ fun t k => Calls.spliced_nil ?_)))
  refine call_range_1 ?_
  refine wpAny_pyIter_range (IsRange.new ..) (small_one (by decide) (by decide) (Int.le_trans (by decide) (Int.natCast_nonneg N)) (Int.lt_of_le_of_lt (Int.ofNat_le.mpr hN) (by decide))) ?_
  have hsz : Builtin.Range.rangeSize 0 (N : Int) 1 = (N : Int) := by
    rw [rangeSize_one]
    split
    · exact Int.sub_zero _
    · rename_i q
      exact Int.le_antisymm (Int.natCast_nonneg N) (Int.not_lt.mp q)
  refine h _ _ _ (fun b o e => Heap.get?_push_of_some _ (Heap.get?_push_of_some _ e)) (Heap.get?_none_of_le (by rw [Heap.size_push]; exact Nat.le_succ _)) (Nat.lt_of_lt_of_eq (Nat.lt_succ_self _) (Heap.size_push _ _).symm) ?_
  have e1 : (0 + ((0 : Nat) : Int) * 1) = 0 := by simp
  have e2 : ((N : Int) - ((0 : Nat) : Int)) = Builtin.Range.rangeSize 0 (N : Int) 1 := by rw [hsz]; simp
  rw [e1, e2]
  exact Heap.get?_push_size _ rfl
theorem range_live {I : Addr} {N : Nat} : ∀ (i : Nat) (h : Heap), IsRangeIter h I (0 + (i : Nat) * 1) ((N : Int) - (i : Nat)) 1 → ∀ b ∈ [I], ∃ o, h.get? b = some o := fun i h st b hb => by
  rw [List.mem_singleton.mp hb]; exact ⟨_, st⟩

/-- the scopes of `[[''.join([table.get(sign, sign) for sign in left[side][way]]) for side in range(2)] ..]`, seen from the outer block -/
structure RowEnv (env : Env) (mscope iscope : Scope) (mcl icl : List (Str × Addr)) (cl ct cw : Addr) : Prop where
  k : env.scope.kind = .function
  rng : env.kindOf (Str.ofString "range") = some .globalImplicit
  gl : env.globals = mainGlobals
  bl : env.builtins = builtinsNs
  clos : closureFor mscope env = pure mcl
  mc : ∀ y ∈ mscope.names, y.2 ≠ .cell
  mkf : mscope.kind = .function
  mn : ∀ y ∈ mscope.names, y.2 = .local → mscope.names.lookup y.1 = some .local
  mside : mscope.names.lookup (Str.ofString "side") = some .local
  mleft : (relabel mscope env).names.lookup (Str.ofString "left") = some .cell
  mway : (relabel mscope env).names.lookup (Str.ofString "way") = some .cell
  cleft : mcl.lookup (Str.ofString "left") = some cl
  cway : mcl.lookup (Str.ofString "way") = some cw
  iclos : ∀ C, closureFor iscope (compEnvC mscope mcl C env) = pure icl
  ctab : icl.lookup (Str.ofString "table") = some ct
  ik : iscope.kind = .function
  ic : ∀ y ∈ iscope.names, y.2 ≠ .cell
  inn : ∀ y ∈ iscope.names, y.2 = .local → iscope.names.lookup y.1 = some .local
  isign : iscope.names.lookup (Str.ofString "sign") = some .local
  itab : ∀ C, (relabel iscope (compEnvC mscope mcl C env)).names.lookup (Str.ofString "table") = some .cell

/-- what a row stands on -/
structure RowAt (prog : Program) (w : World) (h : Heap) (cl ct LL d : Addr) (od : Obj) (tab : Tab) (t0 t1 : Tx) : Prop where
  left : h.IsCell cl (some (.ref LL))
  lists : LeftAt h LL t0 t1
  table : h.IsCell ct (some (.ref d))
  sys : (d == sysModules) = false
  get : h.get? d = some od
  tab : TabIs prog w od tab
theorem RowAt.keeps {h h' : Heap} {cl ct LL d : Addr} {od : Obj} {tab : Tab} {t0 t1 : Tx} (X : RowAt prog w h cl ct LL d od tab t0 t1) (hk : ∀ b o, h.get? b = some o → h'.get? b = some o) : RowAt prog w h' cl ct LL d od tab t0 t1 :=
  ⟨X.left.keeps hk, X.lists.keeps hk, X.table.keeps hk, X.sys, hk _ _ X.get, X.tab⟩

set_option maxHeartbeats 1000000 in
theorem row_two {mg mb : Str → Option Value} {Q : Value → Shared → Prop} {mscope iscope : Scope} {mcl icl : List (Str × Addr)} {cl ct cw d LL : Addr} {tab : Tab} {od : Obj} {t0 t1 : Tx} {way : Nat} {tkw : Tok}  
    (V : RowEnv env mscope iscope mcl icl cl ct cw) (X : RowAt prog w s.heap cl ct LL d od tab t0 t1) (hwcell : s.heap.IsCell cw (some (.int (way : Nat) tkw))) (hw7 : way < 7)
    (hg : s.heap.Ns mainGlobals mg) (hmiss : mg (Str.ofString "range") = none) (hb : s.heap.Ns builtinsNs mb) (hv : mb (Str.ofString "range") = some (.type "range")) (hh : A.handled = none)
    (hline : ((⟨176, 16, 176, 23⟩ : Pos).endLine == (⟨176, 16, 176, 76⟩ : Pos).line) = true) (hgline : ((⟨176, 25, 176, 34⟩ : Pos).endLine == (⟨176, 25, 176, 46⟩ : Pos).line) = true)
    (hlen : ∀ i < 2, (at' (side t0 t1 i) way).length ≤ 4096 ∧ (ex (eT tab) (at' (side t0 t1 i) way)).length ≤ 65536)
    (h : ∀ h' g' k D u v n, (∀ b o, s.heap.get? b = some o → h'.get? b = some o) → (AllBare s.gens → AllBare g') → s.heap.get? D = none → h'.get? D = some (twoObj (ex (eT tab) (at' t0 way), ex (eT tab) (at' t1 way)) u v n) → Q (.ref D) { s with heap := h', gens := g', toks := k }) :
    wpAny (model prog w) A (eval (.ListComp (.Call (.Attribute (.Constant (.str (Str.ofString "")) 0 (⟨176, 16, 176, 18⟩ : Pos)) (Str.ofString "join") (⟨176, 16, 176, 23⟩ : Pos))
      [.ListComp (.Call (.Attribute (.Name (Str.ofString "table") (⟨176, 25, 176, 30⟩ : Pos)) (Str.ofString "get") (⟨176, 25, 176, 34⟩ : Pos)) [.Name (Str.ofString "sign") (⟨176, 35, 176, 39⟩ : Pos), .Name (Str.ofString "sign") (⟨176, 41, 176, 45⟩ : Pos)] [] (⟨176, 25, 176, 46⟩ : Pos))
        [⟨.Name (Str.ofString "sign") (⟨176, 51, 176, 55⟩ : Pos), .Subscript (.Subscript (.Name (Str.ofString "left") (⟨176, 59, 176, 63⟩ : Pos)) (.Name (Str.ofString "side") (⟨176, 64, 176, 68⟩ : Pos)) (⟨176, 59, 176, 69⟩ : Pos)) (.Name (Str.ofString "way") (⟨176, 70, 176, 73⟩ : Pos)) (⟨176, 59, 176, 74⟩ : Pos), [], 0⟩] iscope (⟨176, 24, 176, 75⟩ : Pos)] [] (⟨176, 16, 176, 76⟩ : Pos))
      [⟨.Name (Str.ofString "side") (⟨176, 81, 176, 85⟩ : Pos), .Call (.Name (Str.ofString "range") (⟨176, 89, 176, 94⟩ : Pos)) [.Constant (.int 2) 0 (⟨176, 95, 176, 96⟩ : Pos)] [] (⟨176, 89, 176, 97⟩ : Pos), [], 0⟩] mscope (⟨176, 15, 176, 98⟩ : Pos)) env) Q E s := by
  refine comp_eval V.clos V.mc V.mkf V.mn ?_
  refine range_src (N := 2) V.k V.rng (by rw [V.gl]; exact hg) hmiss (by rw [V.bl]; exact hb) hv rfl (by decide) (fun Q' hq => wpAny_Constant_int (hq _ _)) fun h₂ k₂ I hk₂ hI hIl hst => ?_
  refine ⟨I, [I], [I], 2, _, fun i h => IsRangeIter h I (0 + (i : Nat) * 1) (((2 : Nat) : Int) - (i : Nat)) 1, fun i y l => l = [] ∧ ∃ tk, y = .str (toS (ex (eT tab) (at' (side t0 t1 i) way))) tk, rfl, Turns.name (px := (⟨176, 81, 176, 85⟩ : Pos)) (Walks.range hh I 0 1 2) V.mkf V.mside, by rw [sizeLine_eq]; decide, hst, ?_, range_live, ?_, ?_⟩
  · intro b hb'
    rw [List.mem_singleton.mp hb']; exact hIl
  · rintro C i s₃ m₃ hC hi ⟨v, ⟨t, rfl⟩, hm₃⟩ hn₃ hk₃ _
    have hk3 : ∀ b o', s.heap.get? b = some o' → s₃.heap.get? b = some o' := fun b o' e => hk₃ b o' (fun q => by rw [List.mem_singleton.mp q, hI] at e; cases e) (hk₂ _ _ e)
    have X3 := X.keeps hk3
    have ei : (0 + (i : Int) * 1) = (i : Nat) := idMul i
    rw [ei] at hm₃
    refine join_gets (env := compEnvC mscope mcl C env) (s := s₃) (i := i) (tki := t) (m := m₃) V.mkf V.mleft V.cleft X3.left X3.lists V.mway V.cway (hwcell.keeps hk3) hw7 (lookup_relabel_local V.mside) hn₃ hm₃ hi X3.table X3.sys X3.get X3.tab hh (V.iclos C) V.ctab V.ik V.ic V.inn V.isign (V.itab C) hline hgline (hlen i hi).1 (hlen i hi).2 fun h' g' tk' k hk' hb' => ?_
    exact ⟨[], ⟨rfl, tk', rfl⟩, (fun _ hp => by cases hp), h', g', k, rfl, hk', hb'⟩
  · intro D h' g' tk rs G
    obtain ⟨n, hD⟩ := G.list
    have hl2 : rs.length = 2 := G.len
    obtain ⟨r0, r1', rfl⟩ : ∃ r0 r1, rs = [r0, r1] := by
      rcases rs with _ | ⟨r0, _ | ⟨r1, _ | ⟨r2, rest⟩⟩⟩
      · simp at hl2
      · simp at hl2
      · exact ⟨r0, r1, rfl⟩
      · simp at hl2
    obtain ⟨_, u0, e0⟩ := G.each 0 r0 rfl
    obtain ⟨_, u1, e1⟩ := G.each 1 r1' rfl
    refine h h' g' tk D u0 u1 n (fun b o e => G.keep b o (fun q => by rw [List.mem_singleton.mp q, hI] at e; cases e) (hk₂ _ _ e)) G.bare ?_ ?_
    · cases e : s.heap.get? D with
      | none => rfl
      | some o' => have := hk₂ _ _ e; have q := G.none; dsimp only at q; rw [this] at q; cases q
    · have hD' := hD
      simp only [List.map_cons, List.map_nil, e0, e1] at hD'
      exact hD'
end
end Mine
end
/- DUE3 -/
section
open PySem PySem.W PyProof.Rows PyProof.V
set_option maxRecDepth 100000
set_option genSizeOf false
set_option genInjectivity false
namespace Mine

theorem PA.ofGot {h : Heap} : ∀ {rs : List (Value × List (Addr × Obj))} {ps : List PT}, rs.length = ps.length →
    (∀ (i : Nat) r, rs[i]? = some r → ∃ D u v n p, ps[i]? = some p ∧ r.1 = Value.ref D ∧ h.get? D = some (twoObj p u v n)) → PA h (rs.map (·.1)) ps
  | [], [], _, _ => .nil
  | [], _ :: _, h, _ => by simp at h
  | _ :: _, [], h, _ => by simp at h
  | r :: rs, p :: ps, hl, hx => by
    obtain ⟨D, u, v, n, p', e, e1, e2⟩ := hx 0 r rfl
    cases e
    rw [List.map_cons, e1]
    exact .cons D u v n e2 (PA.ofGot (by simpa using hl) fun i q hq => hx (i + 1) q (by simpa using hq))

section
variable {prog : Program} {w : World} {A : Around} {E : Value → Shared → Prop} {s : Shared} {env : Env} {m : Str → Option Value}
set_option maxHeartbeats 1000000 in
/-- due = [[''.join([table.get(sign, sign) for sign in left[side][way]]) for side in range(2)] for way in range(ways)] -/
theorem due_stmt {mg mb : Str → Option Value} {Q : Flow → Shared → Prop} {oscope mscope iscope : Scope} {ocl icl : List (Str × Addr)} {mcl : Addr → List (Str × Addr)} {cl ct d LL : Addr} {tab : Tab} {od : Obj} {t0 t1 : Tx} {N : Nat} {tkn : Tok} {y : Str}
     
    (V : ∀ C K, RowEnv (compEnvC oscope ((Str.ofString "way", K) :: ocl) C env) mscope iscope (mcl K) icl cl ct K) (X : RowAt prog w s.heap cl ct LL d od tab t0 t1)
    (hN7 : N ≤ 7) (hk : env.scope.kind = .function) (hwk : env.kindOf (Str.ofString "ways") = some .local) (hn : s.heap.Ns env.locals m) (hm : m (Str.ofString "ways") = some (.int (N : Nat) tkn)) (hrk : env.kindOf (Str.ofString "range") = some .globalImplicit)
    (hgl : env.globals = mainGlobals) (hbl : env.builtins = builtinsNs)
    (hsw : swapsWith (.ListComp (.ListComp (.Call (.Attribute (.Constant (.str (Str.ofString "")) 0 (⟨176, 16, 176, 18⟩ : Pos)) (Str.ofString "join") (⟨176, 16, 176, 23⟩ : Pos))
      [.ListComp (.Call (.Attribute (.Name (Str.ofString "table") (⟨176, 25, 176, 30⟩ : Pos)) (Str.ofString "get") (⟨176, 25, 176, 34⟩ : Pos)) [.Name (Str.ofString "sign") (⟨176, 35, 176, 39⟩ : Pos), .Name (Str.ofString "sign") (⟨176, 41, 176, 45⟩ : Pos)] [] (⟨176, 25, 176, 46⟩ : Pos))
        [⟨.Name (Str.ofString "sign") (⟨176, 51, 176, 55⟩ : Pos), .Subscript (.Subscript (.Name (Str.ofString "left") (⟨176, 59, 176, 63⟩ : Pos)) (.Name (Str.ofString "side") (⟨176, 64, 176, 68⟩ : Pos)) (⟨176, 59, 176, 69⟩ : Pos)) (.Name (Str.ofString "way") (⟨176, 70, 176, 73⟩ : Pos)) (⟨176, 59, 176, 74⟩ : Pos), [], 0⟩] iscope (⟨176, 24, 176, 75⟩ : Pos)] [] (⟨176, 16, 176, 76⟩ : Pos))
      [⟨.Name (Str.ofString "side") (⟨176, 81, 176, 85⟩ : Pos), .Call (.Name (Str.ofString "range") (⟨176, 89, 176, 94⟩ : Pos)) [.Constant (.int 2) 0 (⟨176, 95, 176, 96⟩ : Pos)] [] (⟨176, 89, 176, 97⟩ : Pos), [], 0⟩] mscope (⟨176, 15, 176, 98⟩ : Pos))
      [⟨.Name (Str.ofString "way") (⟨176, 103, 176, 106⟩ : Pos), .Call (.Name (Str.ofString "range") (⟨176, 110, 176, 115⟩ : Pos)) [.Name (Str.ofString "ways") (⟨176, 116, 176, 120⟩ : Pos)] [] (⟨176, 110, 176, 121⟩ : Pos), [], 0⟩] oscope (⟨176, 14, 176, 122⟩ : Pos)) (some (.Name y (⟨176, 8, 176, 11⟩ : Pos))) (⟨176, 8, 176, 122⟩ : Pos).line env = pure true)
    (hclos : closureFor oscope env = pure ocl) (hcells : ∀ n, cellsFrom n oscope.names ocl = (Str.ofString "way", n) :: ocl) (hpush : ∀ h, pushCells h oscope.names = h.push { cls := .type "cell", data := .cell none })
    (hok : oscope.kind = .function) (hox : (relabel oscope env).names.lookup (Str.ofString "way") = some .cell) (hon : ∀ z ∈ oscope.names, z.2 = .local → oscope.names.lookup z.1 = some .local) (hy : env.kindOf y = some .local)
    (hg : s.heap.Ns mainGlobals mg) (hmiss : mg (Str.ofString "range") = none) (hb : s.heap.Ns builtinsNs mb) (hv : mb (Str.ofString "range") = some (.type "range")) (hh : A.handled = none)
    (hline : ((⟨176, 16, 176, 23⟩ : Pos).endLine == (⟨176, 16, 176, 76⟩ : Pos).line) = true) (hgline : ((⟨176, 25, 176, 34⟩ : Pos).endLine == (⟨176, 25, 176, 46⟩ : Pos).line) = true)
    (hlen : ∀ way < N, ∀ i < 2, (at' (side t0 t1 i) way).length ≤ 4096 ∧ (ex (eT tab) (at' (side t0 t1 i) way)).length ≤ 65536)
    (h : ∀ h' g' k D us n, h'.Ns env.locals (fun z => if z = y then some (.ref D) else m z) → (∀ b o, b ≠ env.locals → s.heap.get? b = some o → h'.get? b = some o) → (AllBare s.gens → AllBare g') → s.heap.get? D = none → h'.get? D = some (listOf us.toArray n) →
      us.length = N → PA h' us ((List.range N).map fun way => (ex (eT tab) (at' t0 way), ex (eT tab) (at' t1 way))) → Q .next { s with heap := h', gens := g', toks := k }) :
    wpAny (model prog w) A (exec (.Assign [.Name y (⟨176, 8, 176, 11⟩ : Pos)] (.ListComp (.ListComp (.Call (.Attribute (.Constant (.str (Str.ofString "")) 0 (⟨176, 16, 176, 18⟩ : Pos)) (Str.ofString "join") (⟨176, 16, 176, 23⟩ : Pos))
      [.ListComp (.Call (.Attribute (.Name (Str.ofString "table") (⟨176, 25, 176, 30⟩ : Pos)) (Str.ofString "get") (⟨176, 25, 176, 34⟩ : Pos)) [.Name (Str.ofString "sign") (⟨176, 35, 176, 39⟩ : Pos), .Name (Str.ofString "sign") (⟨176, 41, 176, 45⟩ : Pos)] [] (⟨176, 25, 176, 46⟩ : Pos))
        [⟨.Name (Str.ofString "sign") (⟨176, 51, 176, 55⟩ : Pos), .Subscript (.Subscript (.Name (Str.ofString "left") (⟨176, 59, 176, 63⟩ : Pos)) (.Name (Str.ofString "side") (⟨176, 64, 176, 68⟩ : Pos)) (⟨176, 59, 176, 69⟩ : Pos)) (.Name (Str.ofString "way") (⟨176, 70, 176, 73⟩ : Pos)) (⟨176, 59, 176, 74⟩ : Pos), [], 0⟩] iscope (⟨176, 24, 176, 75⟩ : Pos)] [] (⟨176, 16, 176, 76⟩ : Pos))
      [⟨.Name (Str.ofString "side") (⟨176, 81, 176, 85⟩ : Pos), .Call (.Name (Str.ofString "range") (⟨176, 89, 176, 94⟩ : Pos)) [.Constant (.int 2) 0 (⟨176, 95, 176, 96⟩ : Pos)] [] (⟨176, 89, 176, 97⟩ : Pos), [], 0⟩] mscope (⟨176, 15, 176, 98⟩ : Pos))
      [⟨.Name (Str.ofString "way") (⟨176, 103, 176, 106⟩ : Pos), .Call (.Name (Str.ofString "range") (⟨176, 110, 176, 115⟩ : Pos)) [.Name (Str.ofString "ways") (⟨176, 116, 176, 120⟩ : Pos)] [] (⟨176, 110, 176, 121⟩ : Pos), [], 0⟩] oscope (⟨176, 14, 176, 122⟩ : Pos)) (⟨176, 8, 176, 122⟩ : Pos)) env) Q E s := by
  refine comp_assignX (m := m) hsw hclos hcells hpush hok hox hon hk hy ?_ (by intro _; rfl)
  refine range_src (N := N) hk hrk (by rw [hgl]; exact hg) hmiss (by rw [hbl]; exact hb) hv rfl (leBig hN7) (fun Q' hq => ev_local hk hwk hn hm (hq _ _)) fun h₂ k₂ I hk₂ hI hIl hst => ?_
  have hLI : env.locals ≠ I := fun q => by
    obtain ⟨_, _, _, hLo, _⟩ := id hn
    rw [q, hI] at hLo; cases hLo
  refine ⟨I, [I], [I], N, _, fun i h => IsRangeIter h I (0 + (i : Nat) * 1) (((N : Nat) : Int) - (i : Nat)) 1, fun i y l => ∃ D u v n, y = .ref D ∧ l = [(D, twoObj (ex (eT tab) (at' t0 i), ex (eT tab) (at' t1 i)) u v n)], rfl, Walks.range hh I 0 1 N, leSz hN7, hst, ?_, range_live, ?_, hn.keeps hk₂, by simpa using hLI, ?_⟩
  · intro b hb'
    rw [List.mem_singleton.mp hb']; exact hIl
  · rintro C K i v s₃ hi ⟨t, rfl⟩ hcv hk₃
    have hk3 : ∀ b o', s.heap.get? b = some o' → s₃.heap.get? b = some o' := fun b o' e => hk₃ b o' (fun q => by rw [List.mem_singleton.mp q, hI] at e; cases e) (hk₂ _ _ e)
    have ei : (0 + (i : Int) * 1) = (i : Nat) := idMul i
    rw [ei] at hcv
    refine row_two (env := compEnvC oscope ((Str.ofString "way", K) :: ocl) C env) (s := s₃) (way := i) (tkw := t) (V C K) (X.keeps hk3) hcv (Nat.lt_of_lt_of_le hi hN7) (hg.keeps hk3) hmiss (hb.keeps hk3) hv hh hline hgline (hlen i hi) fun h' g' k D u v n hk' hb' hDn hD => ?_
    exact ⟨_, ⟨D, u, v, n, rfl, rfl⟩, (fun p hp => by rw [List.mem_singleton.mp hp]; exact ⟨hD, hDn⟩), h', g', k, rfl, hk', hb'⟩
  · intro D h' g' tk rs hns G
    obtain ⟨n, hD⟩ := G.list
    have hl2 : rs.length = N := G.len
    refine h h' g' tk D (rs.map (·.1)) n hns (fun b o hbL e => G.keep b o (fun q => ?_) (hk₂ _ _ e)) G.bare ?_ hD (by rw [List.length_map]; exact hl2) (PA.ofGot (by simp [hl2]) fun i r hr => ?_)
    · rcases List.mem_cons.mp q with q | q
      · exact hbL q
      · rw [List.mem_singleton.mp q, hI] at e; cases e
    · cases e : s.heap.get? D with
      | none => rfl
      | some o' => have := hk₂ _ _ e; have q := G.none; dsimp only at q; rw [this] at q; cases q
    · obtain ⟨D', u, v, n', e1, e2⟩ := G.each i r hr
      have hi : i < N := by rw [← hl2]; exact (List.getElem?_eq_some_iff.mp hr).1
      refine ⟨D', u, v, n', _, by rw [List.getElem?_map, List.getElem?_range hi]; rfl, e1, (G.new r (List.mem_of_getElem? hr) _ (by rw [e2]; exact List.mem_singleton.mpr rfl)).1⟩
end
end Mine
end
/- HANDW -/
section
open PySem PySem.W PyProof.Rows PyProof.V
set_option maxRecDepth 100000
set_option genSizeOf false
set_option genInjectivity false
namespace Mine

noncomputable def escRefs : List Value := [.ref 49, .ref 56, .ref 63, .ref 70, .ref 77]
theorem escRefs_get : ∀ b < 5, escRefs[b]? = some (.ref (escRef b)) := by
  intro b hb
  have := fiveCases hb
  rcases this with rfl | rfl | rfl | rfl | rfl <;> rfl

/-- what the hands stand on -/
structure HandAt (h : Heap) (cw ch ck W H : Addr) (hv : List Value) (k b : Nat) : Prop where
  writers : h.IsCell cw (some (.ref W))
  tup : IsTup h W escRefs.toArray
  hands : h.IsCell ch (some (.ref H))
  list : h.IsList H hv.toArray
  at_k : ∃ t, hv[k]? = some (.int (b : Nat) t)
  k : ∃ t, h.IsCell ck (some (.int (k : Nat) t))
theorem HandAt.keeps {h h' : Heap} {cw ch ck W H : Addr} {hv : List Value} {k b : Nat} (X : HandAt h cw ch ck W H hv k b) (hk : ∀ b o, h.get? b = some o → h'.get? b = some o) : HandAt h' cw ch ck W H hv k b :=
  ⟨X.writers.keeps hk, let ⟨o, ho, r⟩ := X.tup; ⟨o, hk _ _ ho, r⟩, X.hands.keeps hk, X.list.at fun o e => hk _ o e, X.at_k, X.k.imp fun _ x => x.keeps hk⟩
/-- the three names, in a block -/
structure HandEnv (scope : Scope) (cells : List (Str × Addr)) (cw ch ck : Addr) : Prop where
  kw : scope.names.lookup (Str.ofString "writers") = some .cell
  kh : scope.names.lookup (Str.ofString "hands") = some .cell
  kk : scope.names.lookup (Str.ofString "k") = some .cell
  cw : cells.lookup (Str.ofString "writers") = some cw
  ch : cells.lookup (Str.ofString "hands") = some ch
  ck : cells.lookup (Str.ofString "k") = some ck

section
variable {w : World} {A : Around} {E : Value → Shared → Prop} {s : Shared} {env : Env} {m : Str → Option Value} {mean : ExcName → Option Value} {mg mb : Str → Option Value}
/-- writers[hands[k]](text) -/
theorem elt_writer {Q : Value → Shared → Prop} {cw ch ck W H : Addr} {hv : List Value} {k b : Nat} {x : Tx} {tk : Tok}  (G : Gd w mean mg mb s.heap) (hh : A.handled = none) (hd : A.depth + 8 < recursionLimit) (hu : A.units + 40 < cLine) (h0 : 0 < s.toks)
    (hfn : ∀ b < 5, ∃ o fd, s.heap.get? (escRef b) = some o ∧ o.data = .func fd) (V : HandEnv env.scope env.cells cw ch ck) (hk : env.scope.kind = .function) (X : HandAt s.heap cw ch ck W H hv k b) (hb5 : b < 5) (hk2 : k < 2)
    (hx : env.kindOf (Str.ofString "text") = some .local) (hn : s.heap.Ns env.locals m) (hm : m (Str.ofString "text") = some (.str (toS x) tk)) (hlen : x.length ≤ 50000)
    (h : ∀ h' n' tk', (∀ b o, s.heap.get? b = some o → h'.get? b = some o) → Q (.str (toS (ex (eT (tabOf [b])) x)) tk') { s with heap := h', toks := n' }) :
    wpAny (model pgm w) A (eval (.Call (.Subscript (.Name (Str.ofString "writers") (⟨180, 35, 180, 42⟩ : Pos)) (.Subscript (.Name (Str.ofString "hands") (⟨180, 43, 180, 48⟩ : Pos)) (.Name (Str.ofString "k") (⟨180, 49, 180, 50⟩ : Pos)) (⟨180, 43, 180, 51⟩ : Pos)) (⟨180, 35, 180, 52⟩ : Pos)) [.Name (Str.ofString "text") (⟨180, 53, 180, 57⟩ : Pos)] [] (⟨180, 35, 180, 58⟩ : Pos)) env) Q E s := by
  obtain ⟨tb, hb⟩ := X.at_k
  obtain ⟨tkk, hkc⟩ := X.k
  refine Call_ (Subscript_ (wpAny_Name (wpAny_loadName_cell hk V.kw V.cw X.writers ?_) (by decide)))
  refine Subscript_ (wpAny_Name (wpAny_loadName_cell hk V.kh V.ch X.hands ?_) (by decide))
  refine wpAny_Name (wpAny_loadName_cell hk V.kk V.ck hkc ?_) (by decide)
  refine tail_list X.list (ltBig hk2) hb ?_
  refine item_tupleT (j := b) X.tup (by omega) (by omega) (by simp [seqIndex?, escRefs]; omega) (escRefs_get b hb5) ?_
  obtain ⟨o, fd, ho, hfd⟩ := hfn b hb5
  refine callWith_def hfd (args_cons (ev_local hk hx hn hm (args_nil ⟨ho, ?_⟩)))
  exact esc_callT G hh hd hu h0 hb5 hlen fun h' n' tk' _ hk' => h h' n' tk' hk'

set_option maxHeartbeats 1000000 in
/-- [writers[hands[k]](text) for text in pair] -/
theorem pair_writer {Q : Value → Shared → Prop} {iscope : Scope} {icl : List (Str × Addr)} {cw ch ck W H a : Addr} {hv : List Value} {k b : Nat} {p : PT} {t u : Tok} {n : Nat}  (G : Gd w mean mg mb s.heap) (hh : A.handled = none) (hd : A.depth + 8 < recursionLimit) (hu : A.units + 40 < cLine) (h0 : 0 < s.toks)
    (hfn : ∀ b < 5, ∃ o fd, s.heap.get? (escRef b) = some o ∧ o.data = .func fd) (hk : env.scope.kind = .function) (X : HandAt s.heap cw ch ck W H hv k b) (hb5 : b < 5) (hk2 : k < 2)
    (hclos : closureFor iscope env = pure icl) (V : HandEnv (relabel iscope env) icl cw ch ck) (hic : ∀ y ∈ iscope.names, y.2 ≠ .cell) (hik : iscope.kind = .function) (hin : ∀ y ∈ iscope.names, y.2 = .local → iscope.names.lookup y.1 = some .local) (hix : iscope.names.lookup (Str.ofString "text") = some .local)
    (hx : env.kindOf (Str.ofString "pair") = some .local) (hn : s.heap.Ns env.locals m) (hm : m (Str.ofString "pair") = some (.ref a)) (ha : s.heap.get? a = some (twoObj p t u n)) (hlen : p.1.length ≤ 50000 ∧ p.2.length ≤ 50000)
    (h : ∀ h' g' k D u v n, (∀ b o, s.heap.get? b = some o → h'.get? b = some o) → (AllBare s.gens → AllBare g') → s.heap.get? D = none → h'.get? D = some (twoObj (EP b p) u v n) → Q (.ref D) { s with heap := h', gens := g', toks := k }) :
    wpAny (model pgm w) A (eval (.ListComp (.Call (.Subscript (.Name (Str.ofString "writers") (⟨180, 35, 180, 42⟩ : Pos)) (.Subscript (.Name (Str.ofString "hands") (⟨180, 43, 180, 48⟩ : Pos)) (.Name (Str.ofString "k") (⟨180, 49, 180, 50⟩ : Pos)) (⟨180, 43, 180, 51⟩ : Pos)) (⟨180, 35, 180, 52⟩ : Pos)) [.Name (Str.ofString "text") (⟨180, 53, 180, 57⟩ : Pos)] [] (⟨180, 35, 180, 58⟩ : Pos))
      [⟨.Name (Str.ofString "text") (⟨180, 63, 180, 67⟩ : Pos), .Name (Str.ofString "pair") (⟨180, 71, 180, 75⟩ : Pos), [], 0⟩] iscope (⟨180, 34, 180, 76⟩ : Pos)) env) Q E s := by
  refine comp_eval hclos hic hik hin (ev_local hk hx hn hm ?_)
  have hls : s.heap.IsList a #[.str (toS p.1) t, .str (toS p.2) u] := ⟨_, ha, rfl, _, rfl⟩
  refine wpAny_pyIter_list hls ?_
  have haI : a ≠ s.heap.objs.size := Nat.ne_of_lt (Heap.lt_size ha)
  have hI0 : s.heap.get? s.heap.objs.size = none := Heap.get?_none_of_le (Nat.le_refl _)
  have hIb : ∀ b o, s.heap.get? b = some o → b ∉ [s.heap.objs.size] := fun b o e q => by rw [List.mem_singleton.mp q, hI0] at e; cases e
  refine ⟨s.heap.objs.size, _, _, _, _, _, fun i y l => l = [] ∧ ∃ tk, y = .str (toS (ex (eT (tabOf [b])) (if i = 0 then p.1 else p.2))) tk, rfl,
    Turns.name (px := (⟨180, 63, 180, 67⟩ : Pos)) (Walks.list hh s.heap.objs.size a haI #[.str (toS p.1) t, .str (toS p.2) u]) hik hix, by rw [sizeLine_eq]; exact (by decide : 2 ≤ 16777216), ⟨⟨_, Heap.get?_push_size _ rfl, rfl, rfl⟩, hls.at fun o e => Heap.get?_push_of_some _ e⟩, ?_, fun i h hst => listIter_live i h hst, ?_, ?_⟩
  · intro c hc
    show c < (s.heap.push _).objs.size
    rw [Heap.size_push]
    rcases List.mem_cons.mp hc with rfl | hc
    · exact Nat.lt_succ_self _
    · rw [List.mem_singleton.mp hc]; exact Nat.lt_succ_of_lt (Heap.lt_size ha)
  · rintro C i s₃ m₃ hC hi ⟨v, hv, hm₃⟩ hn₃ hk₃ htk
    have hk3 : ∀ c o, s.heap.get? c = some o → s₃.heap.get? c = some o := fun c o e => hk₃ c o (hIb c o e) (Heap.get?_push_of_some _ e)
    have hval : ∃ tk, v = .str (toS (if i = 0 then p.1 else p.2)) tk := by
      have hi2 : i < 2 := hi
      rcases Nat.lt_or_ge i 1 with h1 | h1
      · have := oneZero h1
        subst this
        exact ⟨t, (Option.some.inj hv).symm⟩
      · have := twoOne hi2 h1
        subst this
        exact ⟨u, (Option.some.inj hv).symm⟩
    obtain ⟨tk, rfl⟩ := hval
    have hle : (if i = 0 then p.1 else p.2).length ≤ 50000 := by
      split
      · exact hlen.1
      · exact hlen.2
    refine elt_writer (env := compEnvC iscope icl C env) (G.keeps hk3) hh hd hu (Nat.lt_of_lt_of_le h0 htk) (fun b hb => let ⟨o, fd, ho, hf⟩ := hfn b hb; ⟨o, fd, hk3 _ _ ho, hf⟩) V hik (X.keeps hk3) hb5 hk2 (lookup_relabel_local hix) hn₃ hm₃ hle fun h' n' tk' hk' => ⟨[], ⟨rfl, tk', rfl⟩, (fun _ hp => by cases hp), h', s₃.gens, n', rfl, hk', id⟩
  · intro D h' g' tk' rs CG
    obtain ⟨nD, hD⟩ := CG.list
    have hlen2 : rs.length = 2 := CG.len
    obtain ⟨r0, r1, rfl⟩ : ∃ r0 r1, rs = [r0, r1] := by
      rcases rs with _ | ⟨r0, _ | ⟨r1, _ | ⟨r2, rest⟩⟩⟩
      · simp at hlen2
      · simp at hlen2
      · exact ⟨r0, r1, rfl⟩
      · simp at hlen2
    obtain ⟨_, u0, e0⟩ := CG.each 0 r0 rfl
    obtain ⟨_, u1, e1⟩ := CG.each 1 r1 rfl
    refine h h' g' tk' D u0 u1 nD (fun c o e => CG.keep c o (hIb c o e) (Heap.get?_push_of_some _ e)) CG.bare ?_ ?_
    · cases e : s.heap.get? D with
      | none => rfl
      | some o' => have := Heap.get?_push_of_some { cls := .type "list_iterator", data := .fields #[.ref a, .int 0 0] } e; have q := CG.none; dsimp only at q; rw [this] at q; cases q
    · have hD' := hD
      simp only [List.map_cons, List.map_nil, e0, e1] at hD'
      exact hD'

theorem PA.at {h : Heap} {vs : List Value} {ps : List PT} (x : PA h vs ps) : ∀ (i : Nat) (v : Value), vs[i]? = some v → ∃ a p t u n, ps[i]? = some p ∧ v = .ref a ∧ h.get? a = some (twoObj p t u n) := by
  induction x with
  | nil => intro i v e; simp at e
  | cons a t u n e _ ih =>
    intro i v hv
    cases i with
    | zero => simp at hv; exact ⟨a, _, t, u, n, rfl, hv.symm, e⟩
    | succ j => exact ih j v (by simpa using hv)

set_option maxHeartbeats 1000000 in
/-- [[writers[hands[k]](text) for text in pair] for pair in found] -/
theorem found_writer {Q : Value → Shared → Prop} {h₀ : Heap} {oscope iscope : Scope} {ocl icl : List (Str × Addr)} {cw ch ck W H l : Addr} {hv : List Value} {k b : Nat} {us : List Value} {ps : List PT}  (G : Gd w mean mg mb h₀) (hh : A.handled = none) (hd : A.depth + 8 < recursionLimit) (hu : A.units + 40 < cLine) (h0 : 0 < s.toks)
    (hfn : ∀ b < 5, ∃ o fd, h₀.get? (escRef b) = some o ∧ o.data = .func fd) (hk : env.scope.kind = .function) (X : HandAt s.heap cw ch ck W H hv k b) (hb5 : b < 5) (hk2 : k < 2)
    (hclos : closureFor oscope env = pure ocl) (hoc : ∀ y ∈ oscope.names, y.2 ≠ .cell) (hok : oscope.kind = .function) (hon : ∀ y ∈ oscope.names, y.2 = .local → oscope.names.lookup y.1 = some .local) (hox : oscope.names.lookup (Str.ofString "pair") = some .local)
    (hiclos : ∀ C, closureFor iscope (compEnvC oscope ocl C env) = pure icl) (V : ∀ C, HandEnv (relabel iscope (compEnvC oscope ocl C env)) icl cw ch ck) (hic : ∀ y ∈ iscope.names, y.2 ≠ .cell) (hik : iscope.kind = .function) (hin : ∀ y ∈ iscope.names, y.2 = .local → iscope.names.lookup y.1 = some .local) (hix : iscope.names.lookup (Str.ofString "text") = some .local)
    (hx : env.kindOf (Str.ofString "found") = some .local) (F : Fr h₀ env.locals s.heap m) (hm : m (Str.ofString "found") = some (.ref l)) (hl : s.heap.IsList l us.toArray) (hP : PA s.heap us ps) (hus : us.length ≤ 1000) (hlen : ∀ p ∈ ps, p.1.length ≤ 50000 ∧ p.2.length ≤ 50000)
    (h : ∀ h' g' k D us' n, (∀ b o, s.heap.get? b = some o → h'.get? b = some o) → (AllBare s.gens → AllBare g') → s.heap.get? D = none → h'.get? D = some (listOf us'.toArray n) → us'.length = us.length → PA h' us' (ps.map (EP b)) → Q (.ref D) { s with heap := h', gens := g', toks := k }) :
    wpAny (model pgm w) A (eval (.ListComp (.ListComp (.Call (.Subscript (.Name (Str.ofString "writers") (⟨180, 35, 180, 42⟩ : Pos)) (.Subscript (.Name (Str.ofString "hands") (⟨180, 43, 180, 48⟩ : Pos)) (.Name (Str.ofString "k") (⟨180, 49, 180, 50⟩ : Pos)) (⟨180, 43, 180, 51⟩ : Pos)) (⟨180, 35, 180, 52⟩ : Pos)) [.Name (Str.ofString "text") (⟨180, 53, 180, 57⟩ : Pos)] [] (⟨180, 35, 180, 58⟩ : Pos))
      [⟨.Name (Str.ofString "text") (⟨180, 63, 180, 67⟩ : Pos), .Name (Str.ofString "pair") (⟨180, 71, 180, 75⟩ : Pos), [], 0⟩] iscope (⟨180, 34, 180, 76⟩ : Pos)) [⟨.Name (Str.ofString "pair") (⟨180, 81, 180, 85⟩ : Pos), .Name (Str.ofString "found") (⟨180, 89, 180, 94⟩ : Pos), [], 0⟩] oscope (⟨180, 33, 180, 95⟩ : Pos)) env) Q E s := by
  refine comp_evalL (L := env.locals) (h₀ := h₀) (l := l) (items := us) (news := []) (fun i y lst => ∃ D u v n p, ps[i]? = some p ∧ y = .ref D ∧ lst = [(D, twoObj (EP b p) u v n)]) hclos hoc hon (fun Q' hq => ev_local hk hx F.ns hm hq) hh hok hox hus hl F News.nil ?_ ?_ (by intro _; rfl)
  · intro C i v s₃ m₃ hv hn₃ hm₃ hk3 htk
    obtain ⟨a, p, t, u, n, hp, rfl, ha⟩ := hP.at i v hv
    have hk0 : ∀ b o, h₀.get? b = some o → s₃.heap.get? b = some o := fun b o e => hk3 b o (F.keep b o e)
    refine pair_writer (env := compEnvC oscope ocl C env) (G.keeps hk0) hh hd hu (Nat.lt_of_lt_of_le h0 htk) (fun b hb => let ⟨o, fd, ho, hf⟩ := hfn b hb; ⟨o, fd, hk0 _ _ ho, hf⟩) hok (X.keeps hk3) hb5 hk2 (hiclos C) (V C) hic hik hin hix (lookup_relabel_local hox) hn₃ hm₃ (hk3 _ _ ha) (hlen p (List.mem_of_getElem? hp)) fun h' g' k D u v n hk' hb' hDn hD => ?_
    exact ⟨_, ⟨D, u, v, n, p, hp, rfl, rfl⟩, (fun q hq => by rw [List.mem_singleton.mp hq]; exact ⟨hD, hDn⟩), h', g', k, rfl, hk', hb'⟩
  · intro h' g' tk' D n rs LG
    have hl1 := LG.len
    have hps := hP.length
    refine h h' g' tk' D (rs.map (·.1)) n LG.keep LG.bare LG.none (LG.N _ List.mem_cons_self).1 (by rw [List.length_map]; exact hl1) (PA.ofGot (by rw [List.length_map]; exact hl1.trans hps) fun i r hr => ?_)
    obtain ⟨D', u, v, n', p, hp, e1, e2⟩ := LG.each i r hr
    refine ⟨D', u, v, n', EP b p, by rw [List.getElem?_map, hp]; rfl, e1, (LG.N (D', _) (List.mem_cons_of_mem _ (List.mem_append_left _ (List.mem_flatMap.mpr ⟨r, List.mem_of_getElem? hr, by rw [e2]; exact List.mem_singleton.mpr rfl⟩)))).1⟩
end
end Mine
end
/- PURE3 -/
section
open PySem PySem.W PyProof.Rows
set_option maxRecDepth 100000
set_option genSizeOf false
set_option genInjectivity false
namespace Mine

theorem mem_nmF {p : Nat → Bool} {c : Nat} (t : Tx) : ∀ a, c ∈ nmF p a t → c ∈ a ∨ c ∈ t := by
  induction t with
  | nil => intro a m; exact .inl m
  | cons d r ih =>
    intro a m
    simp only [nmF] at m
    split at m
    · rcases ih _ m with m | m
      · split at m
        · cases m
        · rcases List.mem_append.mp m with m | m
          · exact .inl m
          · simp at m; simp [m]
      · simp [m]
    · exact .inl m
theorem mem_named {p : Nat → Bool} {c : Nat} {t : Tx} (m : c ∈ named p t) : c ∈ t := by
  rcases mem_nmF t [] m with m | m
  · cases m
  · exact m
theorem at_cases (t : Tx) (w : Nat) : at' t w = t ∨ at' t w = shorn t ∨ at' t w = named pE t ∨ at' t w = shorn (named pE t) ∨ at' t w = named pE (shorn t) ∨ at' t w = named pC t ∨ at' t w = named pC (shorn t) ∨ at' t w = [] := by
  match w with
  | 0 => exact .inl rfl
  | 1 => exact .inr (.inl rfl)
  | 2 => exact .inr (.inr (.inl rfl))
  | 3 => exact .inr (.inr (.inr (.inl rfl)))
  | 4 => exact .inr (.inr (.inr (.inr (.inl rfl))))
  | 5 => exact .inr (.inr (.inr (.inr (.inr (.inl rfl)))))
  | 6 => exact .inr (.inr (.inr (.inr (.inr (.inr (.inl rfl))))))
  | w + 7 => exact .inr (.inr (.inr (.inr (.inr (.inr (.inr rfl))))))
theorem at_len (t : Tx) (w : Nat) : (at' t w).length ≤ t.length := by
  have h1 := shorn_len t
  have h2 := named_len pE t
  have h3 := shorn_len (named pE t)
  have h4 := named_len pE (shorn t)
  have h5 := named_len pC t
  have h6 := named_len pC (shorn t)
  rcases at_cases t w with e | e | e | e | e | e | e | e <;> rw [e]
  · exact Nat.le_refl _
  · exact h1
  · exact h2
  · exact Nat.le_trans h3 h2
  · exact Nat.le_trans h4 h1
  · exact h5
  · exact Nat.le_trans h6 h1
  · exact Nat.zero_le _
theorem at_mem {t : Tx} {w c : Nat} (m : c ∈ at' t w) : c ∈ t := by
  rcases at_cases t w with e | e | e | e | e | e | e | e <;> rw [e] at m
  · exact m
  · exact mem_shorn m
  · exact mem_named m
  · exact mem_named (mem_shorn m)
  · exact mem_shorn (mem_named m)
  · exact mem_named m
  · exact mem_shorn (mem_named m)
  · cases m

noncomputable def smallTab (tab : Tab) : Bool := tab.all fun kv => decide (kv.2.length ≤ 20) && kv.2.all fun d => decide (d < 0x110000)
theorem rows_small : ∀ hands ∈ rows, smallTab (tabOf hands) = true := by decide +kernel
theorem eT_small {tab : Tab} (h : smallTab tab = true) (c : Nat) : (eT tab c).length ≤ 20 ∧ (c < 0x110000 → ∀ d ∈ eT tab c, d < 0x110000) := by
  unfold eT
  cases e : tab.lookup c with
  | none =>
    refine ⟨by simp, fun hc d hd => ?_⟩
    simp at hd; subst hd; exact hc
  | some v =>
    have := List.all_eq_true.mp h _ (lookup_mem e)
    simp only [Bool.and_eq_true, decide_eq_true_eq, List.all_eq_true] at this
    exact ⟨this.1, fun _ d hd => this.2 d hd⟩
theorem ex_len {e : Nat → Tx} {n : Nat} (he : ∀ c, (e c).length ≤ n) (t : Tx) : (ex e t).length ≤ t.length * n := by
  induction t with
  | nil => simp [ex]
  | cons c r ih =>
    have ec : ex e (c :: r) = e c ++ ex e r := rfl
    rw [ec, List.length_append, List.length_cons, Nat.succ_mul]
    exact Nat.le_trans (Nat.add_le_add (he c) ih) (Nat.le_of_eq (Nat.add_comm n _))
theorem row_text {hands : List Nat} (h : Row hands) {t : Tx} (ht : t.length ≤ 18) (ho : okT t) (w : Nat) : (at' t w).length ≤ 4096 ∧ (ex (eT (tabOf hands)) (at' t w)).length ≤ 4096 ∧ okT (ex (eT (tabOf hands)) (at' t w)) := by
  have hs := rows_small _ h.mem
  have h1 := at_len t w
  have h2 := ex_len (fun c => (eT_small hs c).1) (at' t w)
  have h3 := Nat.le_trans h1 ht
  refine ⟨leBig h3, leBig (Nat.le_trans h2 (Nat.mul_le_mul_right 20 h3)), fun d hd => ?_⟩
  obtain ⟨c, hc, hd⟩ := List.mem_flatMap.mp hd
  exact (eT_small hs c).2 (ho c (at_mem hc)) d hd
theorem txt0_ok : txt0.length ≤ 18 ∧ okT txt0 := ⟨by decide, by unfold okT; decide⟩
theorem stage_ok {hands : List Nat} (h : Row hands) {u : Tx} (hu : u.length ≤ 18) (ho : okT u) : ∀ p ∈ stage hands txt0 u, okP p ∧ p.1.length ≤ 4096 ∧ p.2.length ≤ 4096 := by
  intro p hp
  simp only [stage, List.mem_map, List.mem_range] at hp
  obtain ⟨w, _, rfl⟩ := hp
  have a := row_text h txt0_ok.1 txt0_ok.2 w
  have b := row_text h hu ho w
  exact ⟨⟨a.2.2, b.2.2⟩, a.2.1, b.2.1⟩

/-- the law's hands, up to the k-th -/
theorem row_take {ha hb : Nat} (h1 : ha < 5) (h2 : hb < 5) : ∀ k ≤ 2, Row ([ha, hb].take k)
  | 0, _ => .none
  | 1, _ => .one h1
  | 2, _ => .two h1 h2
  | k + 3, h => absurd h (Nat.not_le.mpr (Nat.le_add_left 3 k))
theorem more_take {ha hb : Nat} (h1 : ha < 5) (h2 : hb < 5) : ∀ k < 2, ∃ b, [ha, hb][k]? = some b ∧ More ([ha, hb].take k) b ∧ [ha, hb].take (k + 1) = [ha, hb].take k ++ [b]
  | 0, _ => ⟨ha, rfl, .none h1, rfl⟩
  | 1, _ => ⟨hb, rfl, .one h1 h2, rfl⟩
  | k + 2, h => absurd h (Nat.not_lt.mpr (Nat.le_add_left 2 k))
theorem fine_take {ha hb : Nat} (h1 : ha < 5) : ∀ k ≤ 2, ∀ i < ([ha, hb].take k).length, tabFine (tabOf (([ha, hb].take k).take i)) = true
  | 0, _, i, hi => by simp at hi
  | 1, _, i, hi => by
    have := oneZero (i := i) hi
    subst this; exact fine_tabs.1
  | 2, _, i, hi => by
    have := twoCases (i := i) hi
    rcases this with rfl | rfl
    · exact fine_tabs.1
    · exact fine_tabs.2 ha h1
  | k + 3, h, _, _ => absurd h (Nat.not_le.mpr (Nat.le_add_left 3 k))
end Mine
end
/- BODY1 -/
section
open PySem PySem.W PyProof.Rows PyProof.V
set_option maxRecDepth 100000
set_option genSizeOf false
set_option genInjectivity false
namespace Mine

/-- the addresses of the law's own block: the locals, six cells, the tuple of escapes, the hands, the lists of the ways -/
structure LA where
  L : Addr
  ck : Addr
  ct : Addr
  cw : Addr
  ch : Addr
  cl : Addr
  W : Addr
  H : Addr
  LL : Addr
structure LA.Ok (a : LA) : Prop where
  kL : a.ck ≠ a.L
  tL : a.ct ≠ a.L
  wL : a.cw ≠ a.L
  hL : a.ch ≠ a.L
  lL : a.cl ≠ a.L
  kt : a.ck ≠ a.ct
  kw : a.ck ≠ a.cw
  kh : a.ck ≠ a.ch
  kl : a.ck ≠ a.cl
  tw : a.ct ≠ a.cw
  th : a.ct ≠ a.ch
  tl : a.ct ≠ a.cl

/-- all that is a list or a tuple is kept -/
noncomputable def SK (h h' : Heap) : Prop := ∀ b o xs n, h.get? b = some o → o.data = .seq xs n → h'.get? b = some o
theorem SK.of {h h' : Heap} (hk : ∀ b o, h.get? b = some o → h'.get? b = some o) : SK h h' := fun b o _ _ e _ => hk b o e
theorem SK.butNs {h h' : Heap} {L : Addr} {m : Str → Option Value} (hn : h.Ns L m) (hk : ∀ b o, b ≠ L → h.get? b = some o → h'.get? b = some o) : SK h h' := fun b o xs n e hd => hk b o (fun q => by
  obtain ⟨oL, es, ep, hL, hdL, _⟩ := hn
  rw [q, hL] at e
  cases e
  rw [hdL] at hd; cases hd) e
theorem SK.butCell {h h' : Heap} {c : Addr} {v : Option Value} (hc : h.IsCell c v) (hk : ∀ b o, b ≠ c → h.get? b = some o → h'.get? b = some o) : SK h h' := fun b o xs n e hd => hk b o (fun q => by
  obtain ⟨oc, ho, hdc⟩ := hc
  rw [q, ho] at e
  cases e
  rw [hdc] at hd; cases hd) e
theorem SK.list {h h' : Heap} (k : SK h h') {l : Addr} {xs : Array Value} (x : h.IsList l xs) : h'.IsList l xs := let ⟨o, ho, hc, n, hd⟩ := x; ⟨o, k _ _ _ _ ho hd, hc, n, hd⟩
theorem SK.tup {h h' : Heap} (k : SK h h') {l : Addr} {xs : Array Value} (x : IsTup h l xs) : IsTup h' l xs := let ⟨o, ho, hc, n, hd⟩ := x; ⟨o, k _ _ _ _ ho hd, hc, n, hd⟩
theorem SK.pa {h h' : Heap} (k : SK h h') {vs : List Value} {ps : List PT} (x : PA h vs ps) : PA h' vs ps := by
  induction x with
  | nil => exact .nil
  | cons a t u n e _ ih => exact .cons a t u n (k _ _ _ _ e rfl) ih
theorem SK.left {h h' : Heap} (k : SK h h') {LL : Addr} {t0 t1 : Tx} (x : LeftAt h LL t0 t1) : LeftAt h' LL t0 t1 :=
  let ⟨l0, l1, vs0, vs1, a, b, c, d, e⟩ := x.ex; ⟨l0, l1, vs0, vs1, k.list a, k.list b, k.list c, d, e⟩

structure LS (h₀ h : Heap) (a : LA) (hv : List Value) (t0 t1 : Tx) (m : Str → Option Value) (kv tv : Option Value) : Prop where
  F : Fr h₀ a.L h m
  kc : h.IsCell a.ck kv
  tc : h.IsCell a.ct tv
  kn : h₀.get? a.ck = none
  tn : h₀.get? a.ct = none
  wc : h.IsCell a.cw (some (.ref a.W))
  wt : IsTup h a.W escRefs.toArray
  hc : h.IsCell a.ch (some (.ref a.H))
  hl : h.IsList a.H hv.toArray
  lc : h.IsCell a.cl (some (.ref a.LL))
  ll : LeftAt h a.LL t0 t1
theorem cell_at {h h' : Heap} {c : Addr} {v : Option Value} (x : h.IsCell c v) (hk : ∀ o, h.get? c = some o → h'.get? c = some o) : h'.IsCell c v := let ⟨o, ho, hd⟩ := x; ⟨o, hk o ho, hd⟩
section
variable {h₀ h h' : Heap} {a : LA} {hv : List Value} {t0 t1 : Tx} {m m' : Str → Option Value} {kv tv kv' tv' : Option Value}
theorem LS.keeps (S : LS h₀ h a hv t0 t1 m kv tv) (hk : ∀ b o, h.get? b = some o → h'.get? b = some o) : LS h₀ h' a hv t0 t1 m kv tv :=
  ⟨Fr.along S.F hk, S.kc.keeps hk, S.tc.keeps hk, S.kn, S.tn, S.wc.keeps hk, (SK.of hk).tup S.wt, S.hc.keeps hk, (SK.of hk).list S.hl, S.lc.keeps hk, S.ll.keeps hk⟩
theorem LS.butL (S : LS h₀ h a hv t0 t1 m kv tv) (ok : a.Ok) (hn : h'.Ns a.L m') (hk : ∀ b o, b ≠ a.L → h.get? b = some o → h'.get? b = some o) : LS h₀ h' a hv t0 t1 m' kv tv := by
  have sk := SK.butNs S.F.ns hk
  exact ⟨⟨hn, fun b o e => hk b o (Nat.ne_of_lt (Nat.lt_of_lt_of_le (Heap.lt_size e) S.F.above)) (S.F.keep b o e), S.F.above⟩, cell_at S.kc fun o => hk _ o ok.kL, cell_at S.tc fun o => hk _ o ok.tL, S.kn, S.tn, cell_at S.wc fun o => hk _ o ok.wL, sk.tup S.wt, cell_at S.hc fun o => hk _ o ok.hL, sk.list S.hl, cell_at S.lc fun o => hk _ o ok.lL, sk.left S.ll⟩
theorem LS.butK (S : LS h₀ h a hv t0 t1 m kv tv) (ok : a.Ok) (hc : h'.IsCell a.ck kv') (hk : ∀ b o, b ≠ a.ck → h.get? b = some o → h'.get? b = some o) : LS h₀ h' a hv t0 t1 m kv' tv := by
  have sk := SK.butCell S.kc hk
  exact ⟨⟨S.F.ns.at fun o => hk _ o (Ne.symm ok.kL), fun b o e => hk b o (fun q => by rw [q, S.kn] at e; cases e) (S.F.keep b o e), S.F.above⟩, hc, cell_at S.tc fun o => hk _ o (Ne.symm ok.kt), S.kn, S.tn, cell_at S.wc fun o => hk _ o (Ne.symm ok.kw), sk.tup S.wt, cell_at S.hc fun o => hk _ o (Ne.symm ok.kh), sk.list S.hl, cell_at S.lc fun o => hk _ o (Ne.symm ok.kl), sk.left S.ll⟩
theorem LS.butT (S : LS h₀ h a hv t0 t1 m kv tv) (ok : a.Ok) (hc : h'.IsCell a.ct tv') (hk : ∀ b o, b ≠ a.ct → h.get? b = some o → h'.get? b = some o) : LS h₀ h' a hv t0 t1 m kv tv' := by
  have sk := SK.butCell S.tc hk
  exact ⟨⟨S.F.ns.at fun o => hk _ o (Ne.symm ok.tL), fun b o e => hk b o (fun q => by rw [q, S.tn] at e; cases e) (S.F.keep b o e), S.F.above⟩, cell_at S.kc fun o => hk _ o ok.kt, hc, S.kn, S.tn, cell_at S.wc fun o => hk _ o (Ne.symm ok.tw), sk.tup S.wt, cell_at S.hc fun o => hk _ o (Ne.symm ok.th), sk.list S.hl, cell_at S.lc fun o => hk _ o (Ne.symm ok.tl), sk.left S.ll⟩
end

/-- the law's names -/
structure LawEnv (env : Env) (a : LA) : Prop where
  fn : env.scope.kind = .function
  loc : env.locals = a.L
  gl : env.globals = mainGlobals
  bl : env.builtins = builtinsNs
  kk : env.kindOf (Str.ofString "k") = some .cell
  ck : env.cells.lookup (Str.ofString "k") = some a.ck
  kt : env.kindOf (Str.ofString "table") = some .cell
  ct : env.cells.lookup (Str.ofString "table") = some a.ct
  kh : env.kindOf (Str.ofString "hands") = some .cell
  ch : env.cells.lookup (Str.ofString "hands") = some a.ch
  found : env.kindOf (Str.ofString "found") = some .local
  ways : env.kindOf (Str.ofString "ways") = some .local
  due : env.kindOf (Str.ofString "due") = some .local
  gt : env.kindOf (Str.ofString "_law_table") = some .globalImplicit
  gr : env.kindOf (Str.ofString "_law_reached") = some .globalImplicit
  gs : env.kindOf (Str.ofString "sorted") = some .globalImplicit
  rng : env.kindOf (Str.ofString "range") = some .globalImplicit

/-- what the law's own calls lean on in the heap that it was called in -/
structure LawAt (w : World) (mean : ExcName → Option Value) (mg mb : Str → Option Value) (h₀ : Heap) : Prop where
  G : Gd w mean mg mb h₀
  gt : mg (Str.ofString "_law_table") = some (.ref 110)
  ft : ∃ o fd, h₀.get? 110 = some o ∧ o.data = .func fd
  gr : mg (Str.ofString "_law_reached") = some (.ref 115)
  fr : ∃ o fd, h₀.get? 115 = some o ∧ o.data = .func fd
  ns : mg (Str.ofString "sorted") = none
  bs : mb (Str.ofString "sorted") = some (.builtin "sorted")
  nr : mg (Str.ofString "range") = none
  br : mb (Str.ofString "range") = some (.type "range")
  fe : ∀ b < 5, ∃ o fd, h₀.get? (escRef b) = some o ∧ o.data = .func fd

section
variable {w : World} {mean : ExcName → Option Value} {mg mb : Str → Option Value} {A : Around} {a : Addr} {E : Value → Shared → Prop} {s : Shared} {Q : Value → Shared → Prop} {vs : List Value}
theorem table_callK (G : Gd w mean mg mb s.heap) (hh : A.handled = none) (hd : A.depth + 16 < recursionLimit) (hu : A.units + 200 < cLine) {hs : List Nat}
    (hl : s.heap.IsList a vs.toArray) (hvl : vs.length = hs.length) (hvs : ∀ (i : Nat) (v : Value), vs[i]? = some v → ∃ h t, hs[i]? = some h ∧ v = .int (h : Nat) t) (hh5 : ∀ h ∈ hs, h < 5) (hfine : ∀ i ≤ hs.length, i < hs.length → tabFine (tabOf (hs.take i)) = true) (hlen : hs.length ≤ 2)
    (h : ∀ h' n' D o, (∀ b o, s.heap.get? b = some o → h'.get? b = some o) → h'.get? D = some o → s.heap.get? D = none → (D == sysModules) = false → TabIs pgm w o (tabOf hs) → Q (.ref D) { s with heap := h', toks := n' }) :
    wpAny (model pgm w) A (call (.ref 110) [.ref a]) Q E s := by
  obtain ⟨ah, dp, fr, gd, un⟩ := A
  cases hh
  exact wpAny_call (table_walk w mean mg mb a vs hs dp un fr gd s (resOf Q E) G hd hu hl hvl hvs hh5 hfine hlen fun h' n' D o hk hD hn hsm ht => h h' n' D o hk hD hn hsm ht)
theorem reach_callK (G : Gd w mean mg mb s.heap) (hh : A.handled = none) (hd : A.depth + 16 < recursionLimit) (hu : A.units + 200 < cLine) {ps P : List PT}
    (hP : P.length ≤ 7) (hps : ∀ p ∈ ps, p ∈ P) (hvs : vs.length ≤ 100) (hc : ClosedP P) (hok : ∀ p ∈ P, okP p ∧ p.1.length ≤ 4096 ∧ p.2.length ≤ 4096) (hl : s.heap.IsList a vs.toArray) (hp : PA s.heap vs ps)
    (h : ∀ (h' : Heap) (g' : Array GenState) (n' : Nat) (D : Addr) (us : List Value) (qs : List PT), (∀ b o, s.heap.get? b = some o → h'.get? b = some o) → (AllBare s.gens → AllBare g') → h'.IsList D us.toArray → s.heap.get? D = none → PA h' us qs → qs.Nodup → SortedP qs →
     (∀ p ∈ ps, p ∈ qs) → (∀ p ∈ qs, p ∈ P) → ClosedP qs → Q (.ref D) { s with heap := h', gens := g', toks := n' }) :
    wpAny (model pgm w) A (call (.ref 115) [.ref a]) Q E s := by
  obtain ⟨ah, dp, fr, gd, un⟩ := A
  cases hh
  refine wpAny_call (reach_walk w mean mg mb a vs ps P hP hps hvs hc hok dp un fr gd s (resOf Q E) G hd hu hl hp fun h' g' n' D us qs hk hb hD hn hpa hnd hso h1 h2 h3 => ?_)
  obtain ⟨k, hD⟩ := hD
  exact h h' g' n' D us qs hk hb ⟨_, hD, rfl, _, rfl⟩ hn hpa hnd hso h1 h2 h3
end

section
variable {w : World} {A : Around} {E : Value → Shared → Prop} {s : Shared} {env : Env} {m : Str → Option Value} {mean : ExcName → Option Value} {mg mb : Str → Option Value} {h₀ : Heap} {a : LA} {t0 t1 : Tx} {ha hb : Nat} {ta tb : Tok} {k : Nat} {tkk : Tok} {tv : Option Value}
/-- hands[:k] -/
theorem hands_upto {Q : Value → Shared → Prop} {p3 p4 p5 p6 : Pos} (V : LawEnv env a) (S : LS h₀ s.heap a [.int (ha : Nat) ta, .int (hb : Nat) tb] t0 t1 m (some (.int (k : Nat) tkk)) tv) (_hk2 : k ≤ 2)
    (h : ∀ h' D, (∀ b o, s.heap.get? b = some o → h'.get? b = some o) → h'.IsList D (([Value.int (ha : Nat) ta, .int (hb : Nat) tb].take k).toArray) → Q (.ref D) { s with heap := h' }) :
    wpAny (model pgm w) A (eval (.Subscript (.Name (Str.ofString "hands") p3) (.Slice none (some (.Name (Str.ofString "k") p4)) none p5) p6) env) Q E s := by
  refine wpAny_Subscript_list_slice (wpAny_Name (wpAny_loadName_cell V.fn V.kh V.ch S.hc ?_) (by decide)) (by intro _ _; rfl)
  rw [evalPart_none]
  refine wpAny_pure ?_
  rw [evalPart_some]
  refine wpAny_Name (wpAny_loadName_cell V.fn V.kk V.ck S.kc ?_) (by decide)
  refine ⟨a.H, _, none, some (k : Nat), rfl, S.hl, by rw [sizeLine_eq]; exact (by decide : 2 ≤ 16777216), .none, .int _ _, ?_⟩
  refine h _ _ (fun b o e => Heap.get?_push_of_some _ (Heap.get?_push_of_some _ e)) ?_
  rw [slicePick_upto']
  have := Heap.get?_push_size (s.heap.push { cls := .type "slice", data := .fields #[.none, .int (k : Nat) tkk, .none] }) (o := { cls := .type "list", data := .seq (([Value.int (ha : Nat) ta, .int (hb : Nat) tb].take k).toArray) }) rfl
  rw [Heap.size_push] at this
  exact ⟨_, this, rfl, _, rfl⟩
theorem hands_items (hk2 : k ≤ 2) : ∀ (i : Nat) (v : Value), ([Value.int (ha : Nat) ta, .int (hb : Nat) tb].take k)[i]? = some v → ∃ h t, ([ha, hb].take k)[i]? = some h ∧ v = .int (h : Nat) t := by
  intro i v hv
  have hik : i < k := by
    have z := (List.getElem?_eq_some_iff.mp hv).1
    rw [List.length_take] at z
    exact minLt z
  rw [List.getElem?_take, if_pos hik] at hv ⊢
  have := twoCases (Nat.lt_of_lt_of_le hik hk2)
  rcases this with rfl | rfl
  · cases hv; exact ⟨ha, ta, rfl, rfl⟩
  · cases hv; exact ⟨hb, tb, rfl, rfl⟩
theorem take_len {α : Type} {x y : α} (hk2 : k ≤ 2) : ([x, y].take k).length = k := by rw [List.length_take]; exact Nat.min_eq_left hk2

/-- table = _law_table(hands[:k]) -/
theorem table_stmt {Q : Flow → Shared → Prop}  (X : LawAt w mean mg mb h₀) (V : LawEnv env a) (ok : a.Ok) (S : LS h₀ s.heap a [.int (ha : Nat) ta, .int (hb : Nat) tb] t0 t1 m (some (.int (k : Nat) tkk)) tv) (hk2 : k ≤ 2) (h1 : ha < 5) (h2 : hb < 5)
    (hh : A.handled = none) (hd : A.depth + 16 < recursionLimit) (hu : A.units + 200 < cLine)
    (h : ∀ h' n D od, (∀ b o, b ≠ a.ct → s.heap.get? b = some o → h'.get? b = some o) → LS h₀ h' a [.int (ha : Nat) ta, .int (hb : Nat) tb] t0 t1 m (some (.int (k : Nat) tkk)) (some (.ref D)) → s.heap.get? D = none → h'.get? D = some od → (D == sysModules) = false → TabIs pgm w od (tabOf ([ha, hb].take k)) →
      Q .next { s with heap := h', toks := n }) :
    wpAny (model pgm w) A (exec (.Assign [.Name (Str.ofString "table") (⟨174, 8, 174, 13⟩ : Pos)] (.Call (.Name (Str.ofString "_law_table") (⟨174, 16, 174, 26⟩ : Pos)) [.Subscript (.Name (Str.ofString "hands") (⟨174, 27, 174, 32⟩ : Pos)) (.Slice none (some (.Name (Str.ofString "k") (⟨174, 34, 174, 35⟩ : Pos))) none (⟨174, 33, 174, 35⟩ : Pos)) (⟨174, 27, 174, 36⟩ : Pos)] [] (⟨174, 16, 174, 37⟩ : Pos)) (⟨174, 8, 174, 37⟩ : Pos)) env) Q E s := by
  obtain ⟨fo, fd, hfo, hfd⟩ := X.ft
  refine wpAny_Assign_Name (wpAny_Call_NameR (Calls.Name_function_global V.fn V.gt (Calls.loadGlobal_global (by rw [V.gl]; exact X.G.T.g.keeps S.F.keep) X.gt ?_))) rfl
  refine callWith_def hfd (args_cons (hands_upto V S hk2 fun h₂ l hk₂ hl => args_nil ⟨hk₂ _ _ (S.F.keep _ _ hfo), ?_⟩))
  have S2 := S.keeps hk₂
  have hit := hands_items (ha := ha) (hb := hb) (ta := ta) (tb := tb) hk2
  refine table_callK (s := { s with heap := h₂ }) (hs := [ha, hb].take k) (X.G.keeps S2.F.keep) hh hd hu hl (by rw [take_len hk2, take_len hk2]) hit ?_ (fun i _ hi => fine_take h1 k hk2 i hi) (by rw [take_len hk2]; exact hk2) fun h₃ n D od hk₃ hD hDn hsm hT => ?_
  · intro x hx
    rcases List.mem_cons.mp (List.mem_of_mem_take hx) with rfl | hx
    · exact h1
    · rw [List.mem_singleton.mp hx]; exact h2
  have S3 := S2.keeps hk₃
  refine wpAny_storeName_cell V.fn V.kt V.ct S3.tc fun h₄ hc hs => ?_
  have hk₄ : ∀ b o, b ≠ a.ct → h₃.get? b = some o → h₄.get? b = some o := fun b o hb e => hs.extBut b o hb e
  have hDt : D ≠ a.ct := fun q => by
    obtain ⟨o, ho, _⟩ := S2.tc
    rw [q] at hDn
    have : h₂.get? a.ct = none := hDn
    rw [this] at ho; cases ho
  refine h h₄ _ D od (fun b o hb e => hk₄ b o hb (hk₃ _ _ (hk₂ _ _ e))) (S3.butT ok hc hk₄) ?_ (hk₄ _ _ hDt hD) hsm hT
  cases e : s.heap.get? D with
  | none => rfl
  | some o => have := hk₂ _ _ e; have q : h₂.get? D = none := hDn; rw [q] at this; cases this

theorem hands_ints : ∀ k ≤ 2, IntsAre ([Value.int (ha : Nat) ta, .int (hb : Nat) tb].take k) (([ha, hb].take k).map fun n => ((n : Nat) : Int))
  | 0, _ => .nil
  | 1, _ => .cons _ _ .nil
  | 2, _ => .cons _ _ (.cons _ _ .nil)
  | k + 3, h => absurd h (Nat.not_le.mpr (Nat.le_add_left 3 k))
theorem any_nat (c : Nat) : ∀ l : List Nat, (l.map fun n => ((n : Nat) : Int)).any (· == (c : Int)) = decide (c ∈ l)
  | [] => rfl
  | n :: r => by
    rw [List.map_cons, List.any_cons, any_nat c r]
    by_cases e : n = c
    · subst e; simp
    · have e1 : (((n : Nat) : Int) == (c : Int)) = false := beq_eq_false_iff_ne.mpr (fun q => e (Int.ofNat.inj q))
      have e2 : ¬ c = n := fun q => e q.symm
      rw [e1]
      simp [e2]
/-- c in hands[:k] -/
theorem in_hands {Q : Bool → Shared → Prop} {c : Nat} {whole : Sem Value} {p1 p3 p4 p5 p6 p7 : Pos} {c1 : Nat} (V : LawEnv env a) (S : LS h₀ s.heap a [.int (ha : Nat) ta, .int (hb : Nat) tb] t0 t1 m (some (.int (k : Nat) tkk)) tv) (hk2 : k ≤ 2)
    (h : ∀ h' n, (∀ b o, s.heap.get? b = some o → h'.get? b = some o) → Q (decide (c ∈ [ha, hb].take k)) { s with heap := h', toks := n }) :
    wpAny (model pgm w) A (isTrue (.Compare (.Constant (.int (c : Nat)) c1 p1) [.In] [.Subscript (.Name (Str.ofString "hands") p3) (.Slice none (some (.Name (Str.ofString "k") p4)) none p5) p6] p7) env whole) Q E s := by
  refine wpAny_isTrue_Compare1 (wpAny_Constant_int (hands_upto (s := { s with toks := _ }) V S hk2 fun h₂ l hk₂ hl => ?_)) (by with_unfolding_all rfl)
  refine in_list_ints hl (hands_ints k hk2) ?_
  rw [any_nat]
  exact wpAny_truthy_bool (h h₂ _ hk₂)
/-- ways = 7 if 1 in hands[:k] or 4 in hands[:k] else 5 -/
theorem ways_stmt {Q : Flow → Shared → Prop}   (V : LawEnv env a) (ok : a.Ok) (S : LS h₀ s.heap a [.int (ha : Nat) ta, .int (hb : Nat) tb] t0 t1 m (some (.int (k : Nat) tkk)) tv) (hk2 : k ≤ 2)
    (h : ∀ h' n t, (∀ b o, b ≠ a.L → s.heap.get? b = some o → h'.get? b = some o) → LS h₀ h' a [.int (ha : Nat) ta, .int (hb : Nat) tb] t0 t1 (fun z => if z = Str.ofString "ways" then some (.int (waysN ([ha, hb].take k) : Nat) t) else m z) (some (.int (k : Nat) tkk)) tv → Q .next { s with heap := h', toks := n }) :
    wpAny (model pgm w) A (exec (.Assign [.Name (Str.ofString "ways") (⟨175, 8, 175, 12⟩ : Pos)] (.IfExp (.BoolOp .Or [.Compare (.Constant (.int 1) 0 (⟨175, 20, 175, 21⟩ : Pos)) [.In] [.Subscript (.Name (Str.ofString "hands") (⟨175, 25, 175, 30⟩ : Pos)) (.Slice none (some (.Name (Str.ofString "k") (⟨175, 32, 175, 33⟩ : Pos))) none (⟨175, 31, 175, 33⟩ : Pos)) (⟨175, 25, 175, 34⟩ : Pos)] (⟨175, 20, 175, 34⟩ : Pos),
      .Compare (.Constant (.int 4) 0 (⟨175, 38, 175, 39⟩ : Pos)) [.In] [.Subscript (.Name (Str.ofString "hands") (⟨175, 43, 175, 48⟩ : Pos)) (.Slice none (some (.Name (Str.ofString "k") (⟨175, 50, 175, 51⟩ : Pos))) none (⟨175, 49, 175, 51⟩ : Pos)) (⟨175, 43, 175, 52⟩ : Pos)] (⟨175, 38, 175, 52⟩ : Pos)] (⟨175, 20, 175, 52⟩ : Pos)) (.Constant (.int 7) 0 (⟨175, 15, 175, 16⟩ : Pos)) (.Constant (.int 5) 0 (⟨175, 58, 175, 59⟩ : Pos)) (⟨175, 15, 175, 59⟩ : Pos)) (⟨175, 8, 175, 59⟩ : Pos)) env) Q E s := by
  refine wpAny_Assign_Name (wpAny_IfExp (isTrue_or (in_hands (c := 1) V S hk2 fun h₂ n₂ hk₂ => ?_))) rfl
  have fin : ∀ (h₃ : Heap) (n₃ : Nat) (N : Nat) (t : Tok), (∀ b o, s.heap.get? b = some o → h₃.get? b = some o) → N = waysN ([ha, hb].take k) → wpAny (model pgm w) A (storeName env (Str.ofString "ways") (.int (N : Nat) t)) (fun _ => Q .next) E { s with heap := h₃, toks := n₃ } := fun h₃ n₃ N t hk₃ hN => by
    subst hN
    have S3 := S.keeps hk₃
    refine wpAny_storeName_local V.ways (by rw [V.loc]; exact S3.F.ns) (fun h₄ hn₄ hs₄ => ?_) (fn_block V.fn)
    rw [V.loc] at hn₄ hs₄
    have hk₄ : ∀ b o, b ≠ a.L → h₃.get? b = some o → h₄.get? b = some o := fun b o hb e => hs₄.extBut b o hb e
    exact h h₄ _ t (fun b o hb e => hk₄ b o hb (hk₃ _ _ e)) (S3.butL ok hn₄ hk₄)
  by_cases i1 : 1 ∈ [ha, hb].take k
  · rw [decide_eq_true i1, if_pos rfl, if_pos rfl]
    exact wpAny_Constant_int (fin h₂ _ 7 _ hk₂ (by unfold waysN; rw [if_pos (.inl i1)]))
  · rw [decide_eq_false i1, if_neg Bool.false_ne_true]
    refine isTrue_or (in_hands (c := 4) (s := { s with heap := h₂, toks := n₂ }) V (S.keeps hk₂) hk2 fun h₃ n₃ hk₃ => ?_)
    by_cases i4 : 4 ∈ [ha, hb].take k
    · rw [decide_eq_true i4, if_pos rfl, if_pos rfl]
      exact wpAny_Constant_int (fin h₃ _ 7 _ (fun b o e => hk₃ _ _ (hk₂ _ _ e)) (by unfold waysN; rw [if_pos (.inr i4)]))
    · rw [decide_eq_false i4, if_neg Bool.false_ne_true]
      refine isTrue_or_nil ?_
      rw [if_neg Bool.false_ne_true]
      exact wpAny_Constant_int (fin h₃ _ 5 _ (fun b o e => hk₃ _ _ (hk₂ _ _ e)) (by unfold waysN; rw [if_neg (fun q => q.elim i1 i4)]))

/-- if found != sorted(due): return False -/
theorem check_stmt {Q : Flow → Shared → Prop}   {f D : Addr} {us ds : List Value} {qs : List PT} {hands : List Nat} {u : Tx} (X : LawAt w mean mg mb h₀) (V : LawEnv env a) (F : Fr h₀ a.L s.heap m) (hu : A.units + 100 < cLine)
    (hmf : m (Str.ofString "found") = some (.ref f)) (hmd : m (Str.ofString "due") = some (.ref D)) (hl : s.heap.IsList f us.toArray) (hp : PA s.heap us qs) (hD : s.heap.IsList D ds.toArray) (hpd : PA s.heap ds (stage hands txt0 u))
    (hr : Row hands) (hu18 : u.length ≤ 18) (ho : okT u) (hn : qs.Nodup) (hs1 : SortedP qs) (hsub : ∀ p ∈ qs, p ∈ stage hands txt0 u) (hfull : ∀ p ∈ stage hands txt0 u, p ∈ qs)
    (h : ∀ h' n, (∀ b o, s.heap.get? b = some o → h'.get? b = some o) → Q .next { s with heap := h', toks := n }) :
    wpAny (model pgm w) A (exec (.If (.Compare (.Name (Str.ofString "found") (⟨177, 11, 177, 16⟩ : Pos)) [.NotEq] [.Call (.Name (Str.ofString "sorted") (⟨177, 20, 177, 26⟩ : Pos)) [.Name (Str.ofString "due") (⟨177, 27, 177, 30⟩ : Pos)] [] (⟨177, 20, 177, 31⟩ : Pos)] (⟨177, 11, 177, 31⟩ : Pos)) [.Return (some (.Constant (.bool false) 0 (⟨178, 19, 178, 24⟩ : Pos))) (⟨178, 12, 178, 24⟩ : Pos)] [] (⟨177, 8, 178, 24⟩ : Pos)) env) Q E s := by
  have nsL : s.heap.Ns env.locals m := by rw [V.loc]; exact F.ns
  refine wpAny_If (wpAny_isTrue_Compare1 (ev_local V.fn V.found nsL hmf ?_) (by with_unfolding_all rfl))
  refine wpAny_Call_NameR (Calls.Name_function_global V.fn V.gs (Calls.loadGlobal_builtin (by rw [V.gl]; exact X.G.T.g.keeps F.keep) X.ns (by rw [V.bl]; exact X.G.T.b.keeps F.keep) X.bs ?_))
  refine PyProof.Rows.callWith_builtin1 (args_cons (ev_local V.fn V.due nsL hmd (args_nil ?_)))
  have hdl := hpd.length
  have hs7 := stage_length hands txt0 u
  have hok := stage_ok hr hu18 ho
  refine sorted_pairs hD hpd (stage_nodup hr u) (Nat.lt_of_le_of_lt (Nat.le_trans (Nat.le_of_eq hdl) hs7) (Nat.le_of_ble_eq_true rfl)) (room 20 hu) fun h₂ D₂ us₂ hDn hl₂ hPA hperm hsort hk₂ _ => ?_
  obtain ⟨n₂, hl₂'⟩ := hl₂
  have he := reached_due hr hn hs1 hsub hfull hperm hsort
  refine ne_pairs (SK.list (SK.of hk₂) hl) ((SK.of hk₂).pa hp) ⟨_, hl₂', rfl, _, rfl⟩ hPA (fun p hp' => (hok p (hsub p hp')).1) (fun p hp' => (hok p (hperm.mem_iff.mp hp')).1) (room 64 hu) ?_
  rw [decide_eq_true he]
  refine wpAny_truthy_bool ?_
  show wpAny _ _ (execs [] env) Q E _
  exact wpAny_execs_nil (h h₂ _ hk₂)
end
end Mine
end
/- BODY2 -/
section
open PySem PySem.W PyProof.Rows PyProof.V
set_option maxRecDepth 100000
set_option genSizeOf false
set_option genInjectivity false
namespace Mine

/-- what `found` holds before the k-th turn -/
structure FoundAt (h : Heap) (m : Str → Option Value) (hands : List Nat) (u : Tx) (f : Addr) (us : List Value) (qs : List PT) : Prop where
  name : m (Str.ofString "found") = some (.ref f)
  list : h.IsList f us.toArray
  pa : PA h us qs
  nd : qs.Nodup
  so : SortedP qs
  sub : ∀ p ∈ qs, p ∈ stage hands txt0 u
  full : ∀ p ∈ stage hands txt0 u, p ∈ qs
theorem FoundAt.sk {h h' : Heap} {m m' : Str → Option Value} {hands : List Nat} {u : Tx} {f : Addr} {us : List Value} {qs : List PT} (X : FoundAt h m hands u f us qs) (k : SK h h') (hm : m' (Str.ofString "found") = m (Str.ofString "found")) : FoundAt h' m' hands u f us qs :=
  ⟨hm.trans X.name, k.list X.list, k.pa X.pa, X.nd, X.so, X.sub, X.full⟩

section
variable {w : World} {A : Around} {E : Value → Shared → Prop} {s : Shared} {env : Env} {m : Str → Option Value} {mean : ExcName → Option Value} {mg mb : Str → Option Value} {h₀ : Heap} {a : LA} {t1 : Tx} {ha hb : Nat} {ta tb : Tok} {k : Nat} {tkk : Tok} {tv : Option Value}

set_option maxHeartbeats 1000000 in
/-- if k < 2: found = _law_reached([[writers[hands[k]](text) for text in pair] for pair in found]) -/
theorem next_stmt {Q : Flow → Shared → Prop} {oscope iscope : Scope} {ocl icl : List (Str × Addr)} {f : Addr} {us : List Value} {qs : List PT}  
    (X : LawAt w mean mg mb h₀) (V : LawEnv env a) (ok : a.Ok) (S : LS h₀ s.heap a [.int (ha : Nat) ta, .int (hb : Nat) tb] txt0 t1 m (some (.int (k : Nat) tkk)) tv) (h1 : ha < 5) (h2 : hb < 5) (Y : FoundAt s.heap m ([ha, hb].take k) t1 f us qs) (hu18 : t1.length ≤ 18) (ho : okT t1)
    (hh : A.handled = none) (hd : A.depth + 16 < recursionLimit) (hu : A.units + 200 < cLine)
    (hclos : closureFor oscope env = pure ocl) (hoc : ∀ y ∈ oscope.names, y.2 ≠ .cell) (hok : oscope.kind = .function) (hon : ∀ y ∈ oscope.names, y.2 = .local → oscope.names.lookup y.1 = some .local) (hox : oscope.names.lookup (Str.ofString "pair") = some .local)
    (hiclos : ∀ C, closureFor iscope (compEnvC oscope ocl C env) = pure icl) (HV : ∀ C, HandEnv (relabel iscope (compEnvC oscope ocl C env)) icl a.cw a.ch a.ck) (hic : ∀ y ∈ iscope.names, y.2 ≠ .cell) (hik : iscope.kind = .function) (hin : ∀ y ∈ iscope.names, y.2 = .local → iscope.names.lookup y.1 = some .local) (hix : iscope.names.lookup (Str.ofString "text") = some .local)
    (hge : 2 ≤ k → Q .next { s with toks := s.toks + 1 })
    (h : ∀ h' g' n m' f' us' qs', k < 2 → (∀ b o, b ≠ a.L → s.heap.get? b = some o → h'.get? b = some o) → (AllBare s.gens → AllBare g') → LS h₀ h' a [.int (ha : Nat) ta, .int (hb : Nat) tb] txt0 t1 m' (some (.int (k : Nat) tkk)) tv → FoundAt h' m' ([ha, hb].take (k + 1)) t1 f' us' qs' → Q .next { s with heap := h', gens := g', toks := n }) :
    wpAny (model pgm w) A (exec (.If (.Compare (.Name (Str.ofString "k") (⟨179, 11, 179, 12⟩ : Pos)) [.Lt] [.Constant (.int 2) 0 (⟨179, 15, 179, 16⟩ : Pos)] (⟨179, 11, 179, 16⟩ : Pos)) [.Assign [.Name (Str.ofString "found") (⟨180, 12, 180, 17⟩ : Pos)] (.Call (.Name (Str.ofString "_law_reached") (⟨180, 20, 180, 32⟩ : Pos))
      [.ListComp (.ListComp (.Call (.Subscript (.Name (Str.ofString "writers") (⟨180, 35, 180, 42⟩ : Pos)) (.Subscript (.Name (Str.ofString "hands") (⟨180, 43, 180, 48⟩ : Pos)) (.Name (Str.ofString "k") (⟨180, 49, 180, 50⟩ : Pos)) (⟨180, 43, 180, 51⟩ : Pos)) (⟨180, 35, 180, 52⟩ : Pos)) [.Name (Str.ofString "text") (⟨180, 53, 180, 57⟩ : Pos)] [] (⟨180, 35, 180, 58⟩ : Pos))
        [⟨.Name (Str.ofString "text") (⟨180, 63, 180, 67⟩ : Pos), .Name (Str.ofString "pair") (⟨180, 71, 180, 75⟩ : Pos), [], 0⟩] iscope (⟨180, 34, 180, 76⟩ : Pos)) [⟨.Name (Str.ofString "pair") (⟨180, 81, 180, 85⟩ : Pos), .Name (Str.ofString "found") (⟨180, 89, 180, 94⟩ : Pos), [], 0⟩] oscope (⟨180, 33, 180, 95⟩ : Pos)] [] (⟨180, 20, 180, 96⟩ : Pos)) (⟨180, 12, 180, 96⟩ : Pos)] [] (⟨179, 8, 180, 96⟩ : Pos)) env) Q E s := by
  refine wpAny_If (wpAny_isTrue_Compare1 (wpAny_Name (wpAny_loadName_cell V.fn V.kk V.ck S.kc ?_) (by decide)) (by with_unfolding_all rfl))
  refine wpAny_Constant_int (wpAny_lt_int (wpAny_truthy_bool ?_))
  by_cases hk2 : k < 2
  · rw [decide_eq_true (show (k : Int) < 2 from natLt hk2), if_pos rfl]
    obtain ⟨b, eb, hm, et⟩ := more_take h1 h2 k hk2
    have hb5 := hm.lt
    refine wpAny_execs_cons (wpAny_Assign_Name (wpAny_Call_NameR (Calls.Name_function_global V.fn V.gr (Calls.loadGlobal_global (by rw [V.gl]; exact X.G.T.g.keeps S.F.keep) X.gr ?_))) rfl)
    obtain ⟨fo, fd, hfo, hfd⟩ := X.fr
    have hql : qs.length ≤ 7 := Nat.le_trans (nodup_len Y.nd Y.sub) (stage_length _ _ _)
    have hul := Y.pa.length
    have hokp := stage_ok hm.row hu18 ho
    have F' : Fr h₀ env.locals s.heap m := by rw [V.loc]; exact S.F
    have hbv : ∃ t, ([Value.int (ha : Nat) ta, .int (hb : Nat) tb])[k]? = some (.int (b : Nat) t) := by
      have := twoCases hk2
      rcases this with rfl | rfl
      · cases eb; exact ⟨_, rfl⟩
      · cases eb; exact ⟨_, rfl⟩
    refine callWith_def hfd (args_cons (found_writer (s := { s with toks := _ }) (h₀ := h₀) (k := k) (b := b) X.G hh (room 8 hd) (room 40 hu) (Nat.succ_pos _) X.fe V.fn ⟨S.wc, S.wt, S.hc, S.hl, hbv, ⟨tkk, S.kc⟩⟩ hb5 hk2 hclos hoc hok hon hox hiclos HV hic hik hin hix V.found F' Y.name Y.list Y.pa (Nat.le_trans (Nat.le_of_eq hul) (leBig hql)) (fun p hp => ?_) fun h₂ g₂ k₂ D us₂ n₂ hk₂ hb₂ hDn hD hul2 hPA => args_nil ⟨hk₂ _ _ (S.F.keep _ _ hfo), ?_⟩))
    · exact ⟨leBig (hokp p (Y.sub p hp)).2.1, leBig (hokp p (Y.sub p hp)).2.2⟩
    have S2 := S.keeps hk₂
    have hrow : Row ([ha, hb].take k ++ [b]) := hm.next
    refine reach_callK (s := { s with heap := h₂, gens := g₂, toks := k₂ }) (vs := us₂) (ps := qs.map (EP b)) (P := stage ([ha, hb].take k ++ [b]) txt0 t1) (X.G.keeps S2.F.keep) hh hd hu (stage_length _ _ _) (fun p hp => ?_) (Nat.le_trans (Nat.le_of_eq (hul2.trans hul)) (leBig hql)) (stage_closed hrow.chk txt0 t1) (stage_ok hrow hu18 ho) ⟨_, hD, rfl, _, rfl⟩ hPA fun h₃ g₃ n₃ f' us' qs' hk₃ hb₃ hl₃ hn₃ hpa₃ hnd₃ hso₃ hin₃ hsub₃ hcl₃ => ?_
    · obtain ⟨q, hq, rfl⟩ := List.mem_map.mp hp
      exact stage_more hm txt0 t1 q (Y.sub q hq)
    have S3 := S2.keeps hk₃
    refine wpAny_storeName_local V.found (by rw [V.loc]; exact S3.F.ns) (fun h₄ hn₄ hs₄ => ?_) (fn_block V.fn)
    rw [V.loc] at hn₄ hs₄
    have hk₄ : ∀ b o, b ≠ a.L → h₃.get? b = some o → h₄.get? b = some o := fun b o hb e => hs₄.extBut b o hb e
    have sk := SK.butNs S3.F.ns hk₄
    refine wpAny_execs_nil (h h₄ g₃ _ _ f' us' qs' hk2 (fun b o hb e => hk₄ b o hb (hk₃ _ _ (hk₂ _ _ e))) (fun hb => hb₃ (hb₂ hb)) (S3.butL ok hn₄ hk₄) ⟨if_pos rfl, sk.list hl₃, sk.pa hpa₃, hnd₃, hso₃, ?_, ?_⟩)
    · rw [et]; exact hsub₃
    · rw [et]
      exact stage_full hm txt0 t1 hcl₃ fun p hp => hin₃ _ (List.mem_map.mpr ⟨p, Y.full p hp, rfl⟩)
  · rw [decide_eq_false (show ¬ (k : Int) < 2 from fun q => hk2 (Int.ofNat_lt.mp q)), if_neg Bool.false_ne_true]
    exact wpAny_execs_nil (hge (Nat.le_of_not_lt hk2))
end
end Mine
end
/- BODY3 -/
section
open PySem PySem.W PyProof.Rows PyProof.V
set_option maxRecDepth 100000
set_option genSizeOf false
set_option genInjectivity false
namespace Mine

/-- behind the k-th turn of the law's loop -/
inductive TurnPost (h₀ : Heap) (a : LA) (hv : List Value) (hands : List Nat) (t1 : Tx) (k : Nat) (s : Shared) (fl : Flow) (s' : Shared) : Prop
  | mk (flow : fl = .next) (h' : Heap) (g' : Array GenState) (n : Nat) (m' : Str → Option Value) (kv tv : Option Value) (eq : s' = { s with heap := h', gens := g', toks := n }) (keep : ∀ b o, b ≠ a.L → b ≠ a.ct → s.heap.get? b = some o → h'.get? b = some o)
    (bare : AllBare s.gens → AllBare g') (S : LS h₀ h' a hv txt0 t1 m' kv tv) (found : k < 2 → ∃ f us qs, FoundAt h' m' (hands.take (k + 1)) t1 f us qs)
inductive LInv (h₀ : Heap) (a : LA) (hv : List Value) (hands : List Nat) (t1 : Tx) (I : Addr) (s : Shared) (j : Nat) (s' : Shared) : Prop
  | mk (h' : Heap) (g' : Array GenState) (n : Nat) (m' : Str → Option Value) (kv tv : Option Value) (i : Nat) (eq : s' = { s with heap := h', gens := g', toks := n }) (hi : i ≤ 3) (hj : j = 3 + 1 - i)
    (it : IsRangeIter h' I (0 + (i : Nat) * 1) (((3 : Nat) : Int) - (i : Nat)) 1) (bare : AllBare s.gens → AllBare g') (S : LS h₀ h' a hv txt0 t1 m' kv tv) (found : i < 3 → ∃ f us qs, FoundAt h' m' (hands.take i) t1 f us qs)

section
variable {w : World} {A : Around} {s : Shared} {env : Env} {m : Str → Option Value} {h₀ : Heap} {a : LA} {t1 : Tx} {hands : List Nat} {hv : List Value} {kv tv : Option Value}
theorem law_loop  {body : List Stmt} {R : Result → Shared → Prop} {I : Addr} (hh : A.handled = none) (V : LawEnv env a) (ok : a.Ok) (S : LS h₀ s.heap a hv txt0 t1 m kv tv) (hI : IsRangeIter s.heap I (0 + ((0 : Nat) : Int) * 1) (((3 : Nat) : Int) - ((0 : Nat) : Int)) 1) (hI0 : h₀.get? I = none)
    (h0 : ∃ f us qs, FoundAt s.heap m (hands.take 0) t1 f us qs)
    (hbody : ∀ k h g n m tv tkk, k < 3 → LS h₀ h a hv txt0 t1 m (some (.int (k : Nat) tkk)) tv → (∃ f us qs, FoundAt h m (hands.take k) t1 f us qs) →
      wpAny (model pgm w) A (execs body env) (TurnPost h₀ a hv hands t1 k { s with heap := h, gens := g, toks := n }) (fun _ _ => False) { s with heap := h, gens := g, toks := n })
    (done : ∀ h' g' n m' kv tv, (AllBare s.gens → AllBare g') → LS h₀ h' a hv txt0 t1 m' kv tv → R (.ok .next) { s with heap := h', gens := g', toks := n }) :
    codeAny (model pgm w) A (.forLoop (.Name (Str.ofString "k") (⟨173, 8, 173, 9⟩ : Pos)) (.ref I) body [] env) R s := by
  refine codeAny_forLoop_any (LInv h₀ a hv hands t1 I s) ?_ 4
    ⟨s.heap, s.gens, s.toks, m, kv, tv, 0, rfl, Nat.zero_le _, rfl, hI, id, S, fun _ => h0⟩
  rintro j s' ⟨h', g', n, m', kv', tv', i, rfl, hi, rfl, hI', hb', S', hF'⟩
  have W := Walks.range (prog := pgm) (w := w) (A := A) hh I 0 1 3
  have hIL : I ≠ a.L := fun q => by
    obtain ⟨o, es, ep, ho, hd, _⟩ := S'.F.ns
    have e : h'.get? I = _ := hI'
    rw [q, ho] at e
    cases e
    cases hd
  have notCell : ∀ {c : Addr} {v : Option Value}, h'.IsCell c v → I ≠ c := fun hc q => by
    obtain ⟨o, ho, hd⟩ := hc
    have e : h'.get? I = _ := hI'
    rw [q, ho] at e
    cases e
    cases hd
  by_cases hlt : i < 3
  · refine W.item i _ _ _ hlt hI' fun v h₁ tk₁ hP hst₁ hk₁ => ?_
    obtain ⟨t, rfl⟩ := hP
    have ei : (0 + (i : Int) * 1) = (i : Nat) := idMul i
    rw [ei]
    show wpAny _ A (pure ()) _ _ _
    have hk₁' : ∀ b o, b ≠ I → h'.get? b = some o → h₁.get? b = some o := fun b o hb e => hk₁ b o (fun q => hb (List.mem_singleton.mp q)) e
    have S1 : LS h₀ h₁ a hv txt0 t1 m' kv' tv' := by
      have sk : SK h' h₁ := fun b o xs nn e hd => hk₁' b o (fun q => by
        have e2 : h'.get? I = _ := hI'
        rw [q, e2] at e
        cases e
        cases hd) e
      exact ⟨⟨S'.F.ns.at fun o => hk₁' _ o (Ne.symm hIL), fun b o e => hk₁' b o (fun q => by rw [q, hI0] at e; cases e) (S'.F.keep b o e), S'.F.above⟩, cell_at S'.kc fun o => hk₁' _ o (Ne.symm (notCell S'.kc)), cell_at S'.tc fun o => hk₁' _ o (Ne.symm (notCell S'.tc)), S'.kn, S'.tn,
        cell_at S'.wc fun o => hk₁' _ o (Ne.symm (notCell S'.wc)), sk.tup S'.wt, cell_at S'.hc fun o => hk₁' _ o (Ne.symm (notCell S'.hc)), sk.list S'.hl, cell_at S'.lc fun o => hk₁' _ o (Ne.symm (notCell S'.lc)), sk.left S'.ll⟩
    have sk1 : SK h' h₁ := fun b o xs nn e hd => hk₁' b o (fun q => by
        have e2 : h'.get? I = _ := hI'
        rw [q, e2] at e
        cases e
        cases hd) e
    refine wpAny_pure (wpAny_assign_Name (wpAny_storeName_cell V.fn V.kk V.ck S1.kc fun h₂ hc₂ hs₂ => ?_))
    have hk₂ : ∀ b o, b ≠ a.ck → h₁.get? b = some o → h₂.get? b = some o := fun b o hb e => hs₂.extBut b o hb e
    have S2 := S1.butK ok hc₂ hk₂
    have sk2 := SK.butCell S1.kc hk₂
    have hF2 : ∃ f us qs, FoundAt h₂ m' (hands.take i) t1 f us qs := by
      obtain ⟨f, us, qs, Y⟩ := hF' hlt
      exact ⟨f, us, qs, (Y.sk sk1 rfl).sk sk2 rfl⟩
    have hIk : I ≠ a.ck := notCell S'.kc
    have hIt : I ≠ a.ct := notCell S'.tc
    refine wpAny_mono (hbody i h₂ g' _ m' tv' t hlt S2 hF2) (fun fl s₃ h₃ => ?_) fun _ _ e => e.elim
    obtain ⟨rfl, h₃, g₃, n₃, m₃, kv₃, tv₃, rfl, hk₃, hb₃, S3, hF3⟩ := h₃
    exact ⟨3 + 1 - (i + 1), downTurn hlt, h₃, g₃, n₃, m₃, kv₃, tv₃, i + 1, rfl, hlt, rfl, hk₃ _ _ hIL hIt (hk₂ _ _ hIk hst₁), fun hb => hb₃ (hb' hb), S3, fun hi3 => hF3 (Nat.lt_of_succ_lt_succ hi3)⟩
  · have hin : i = 3 := eqOf hi hlt
    subst hin
    refine W.done _ _ _ hI' fun h₁ tk₁ hk₁ => wpAny_execs_nil ?_
    have hk₁' : ∀ b o, b ≠ I → h'.get? b = some o → h₁.get? b = some o := fun b o hb e => hk₁ b o (fun q => hb (List.mem_singleton.mp q)) e
    have sk : SK h' h₁ := fun b o xs nn e hd => hk₁' b o (fun q => by
        have e2 : h'.get? I = _ := hI'
        rw [q, e2] at e
        cases e
        cases hd) e
    exact done h₁ g' tk₁ m' kv' tv' hb' ⟨⟨S'.F.ns.at fun o => hk₁' _ o (Ne.symm hIL), fun b o e => hk₁' b o (fun q => by rw [q, hI0] at e; cases e) (S'.F.keep b o e), S'.F.above⟩, cell_at S'.kc fun o => hk₁' _ o (Ne.symm (notCell S'.kc)), cell_at S'.tc fun o => hk₁' _ o (Ne.symm (notCell S'.tc)), S'.kn, S'.tn,
        cell_at S'.wc fun o => hk₁' _ o (Ne.symm (notCell S'.wc)), sk.tup S'.wt, cell_at S'.hc fun o => hk₁' _ o (Ne.symm (notCell S'.hc)), sk.list S'.hl, cell_at S'.lc fun o => hk₁' _ o (Ne.symm (notCell S'.lc)), sk.left S'.ll⟩
end
end Mine
end
/- BODY4 -/
section
open PySem PySem.W PyProof.Rows PyProof.V
set_option maxRecDepth 100000
set_option genSizeOf false
set_option genInjectivity false
namespace Mine
section
variable {w : World} {A : Around} {E : Value → Shared → Prop} {s : Shared} {env : Env} {m : Str → Option Value} {mean : ExcName → Option Value} {mg mb : Str → Option Value} {h₀ : Heap} {u : Tx}

set_option maxHeartbeats 1000000 in
/-- left = [_law_left(text) for text in texts] -/
theorem left_stmt {Q : Flow → Shared → Prop} {cscope : Scope} {cl T : Addr} {v₀ : Option Value} {tt tu : Tok} {n : Nat}  (G : Gd w mean mg mb h₀) (hml : mg (Str.ofString "_law_left") = some (.ref 103)) (hfl : ∃ o fd, h₀.get? 103 = some o ∧ o.data = .func fd)
    (hk : env.scope.kind = .function) (hgl : env.globals = mainGlobals) (htx : env.kindOf (Str.ofString "texts") = some .local) (hlk : env.kindOf (Str.ofString "left") = some .cell) (hlc : env.cells.lookup (Str.ofString "left") = some cl) (hc0 : s.heap.IsCell cl v₀)
    (hsw : swapsWith (.ListComp (.Call (.Name (Str.ofString "_law_left") (⟨171, 12, 171, 21⟩ : Pos)) [.Name (Str.ofString "text") (⟨171, 22, 171, 26⟩ : Pos)] [] (⟨171, 12, 171, 27⟩ : Pos)) [⟨.Name (Str.ofString "text") (⟨171, 32, 171, 36⟩ : Pos), .Name (Str.ofString "texts") (⟨171, 40, 171, 45⟩ : Pos), [], 0⟩] cscope (⟨171, 11, 171, 46⟩ : Pos)) (some (.Name (Str.ofString "left") (⟨171, 4, 171, 8⟩ : Pos))) (⟨171, 4, 171, 46⟩ : Pos).line env = pure false)
    (F : Fr h₀ env.locals s.heap m) (hm : m (Str.ofString "texts") = some (.ref T)) (hT : s.heap.get? T = some (twoObj (txt0, u) tt tu n)) (hu18 : u.length ≤ 18)
    (hcf : ∀ x ∈ cscope.names, x.2 ≠ .free) (hcc : ∀ x ∈ cscope.names, x.2 ≠ .cell) (hck : cscope.kind = .function) (hcn : ∀ y ∈ cscope.names, y.2 = .local → cscope.names.lookup y.1 = some .local) (hcx : cscope.names.lookup (Str.ofString "text") = some .local) (hcg : cscope.names.lookup (Str.ofString "_law_left") = some .globalImplicit)
    (hh : A.handled = none) (hd : A.depth + 12 < recursionLimit) (hu : A.units + 60 < cLine)
    (h : ∀ h' g' k LL, (∀ b o, b ≠ cl → s.heap.get? b = some o → h'.get? b = some o) → (AllBare s.gens → AllBare g') → h'.IsCell cl (some (.ref LL)) → LeftAt h' LL txt0 u → Q .next { s with heap := h', gens := g', toks := k }) :
    wpAny (model pgm w) A (exec (.Assign [.Name (Str.ofString "left") (⟨171, 4, 171, 8⟩ : Pos)] (.ListComp (.Call (.Name (Str.ofString "_law_left") (⟨171, 12, 171, 21⟩ : Pos)) [.Name (Str.ofString "text") (⟨171, 22, 171, 26⟩ : Pos)] [] (⟨171, 12, 171, 27⟩ : Pos)) [⟨.Name (Str.ofString "text") (⟨171, 32, 171, 36⟩ : Pos), .Name (Str.ofString "texts") (⟨171, 40, 171, 45⟩ : Pos), [], 0⟩] cscope (⟨171, 11, 171, 46⟩ : Pos)) (⟨171, 4, 171, 46⟩ : Pos)) env) Q E s := by
  obtain ⟨fo, fd, hfo, hfd⟩ := hfl
  refine wpAny_Assign_Name ?_ hsw
  have hl0 : s.heap.IsList T [Value.str (toS txt0) tt, .str (toS u) tu].toArray := ⟨_, hT, rfl, _, rfl⟩
  refine comp_evalL (cl := []) (L := env.locals) (h₀ := h₀) (l := T) (items := [Value.str (toS txt0) tt, .str (toS u) tu]) (news := []) (fun i y lst => ∃ D vs k, y = .ref D ∧ lst = [(D, listOf vs.toArray k)] ∧ SA vs ((left (side txt0 u i)).map toS)) (closureFor_none hcf) hcc hcn (fun Q' hq => ev_local hk htx F.ns hm hq) hh hck hcx (by simp) hl0 F News.nil ?_ ?_ (by intro _; rfl)
  · intro C i v s₃ m₃ hv hn₃ hm₃ hk3 _
    have hk0 : ∀ b o, h₀.get? b = some o → s₃.heap.get? b = some o := fun b o e => hk3 b o (F.keep b o e)
    have hval : ∃ tk, v = .str (toS (side txt0 u i)) tk ∧ (side txt0 u i).length ≤ 4096 := by
      rcases i with _ | _ | i
      · exact ⟨tt, (Option.some.inj hv).symm, Nat.le_trans txt0_ok.1 (by decide)⟩
      · exact ⟨tu, (Option.some.inj hv).symm, leBig hu18⟩
      · cases hv
    obtain ⟨tk, rfl, hle⟩ := hval
    have hkf : (compEnvC cscope [] C env).kindOf (Str.ofString "_law_left") = some .globalImplicit := lookup_relabel (scope := cscope) (by decide) _ hcg
    refine call_global (env := compEnvC cscope [] C env) hck hkf (lookup_relabel_local hcx) (by show s₃.heap.Ns env.globals mg; rw [hgl]; exact G.T.g.keeps hk0) hml (hk0 _ _ hfo) hfd hn₃ hm₃ ?_ (by decide)
    refine left_callT (G.keeps hk0) hh hd hu hle fun h' n' a vs k hk' hl' hln hsa => ?_
    exact ⟨_, ⟨a, vs, k, rfl, rfl, hsa⟩, (fun p hp => by rw [List.mem_singleton.mp hp]; exact ⟨hl', hln⟩), h', s₃.gens, n', rfl, hk', id⟩
  · intro h' g' tk' D k rs LG
    have hl2 : rs.length = 2 := LG.len
    obtain ⟨r0, r1, rfl⟩ : ∃ r0 r1, rs = [r0, r1] := by
      rcases rs with _ | ⟨r0, _ | ⟨r1, _ | ⟨r2, rest⟩⟩⟩
      · simp at hl2
      · simp at hl2
      · exact ⟨r0, r1, rfl⟩
      · simp at hl2
    obtain ⟨D0, vs0, k0, e0, f0, g0⟩ := LG.each 0 r0 rfl
    obtain ⟨D1, vs1, k1, e1, f1, g1⟩ := LG.each 1 r1 rfl
    have hD := (LG.N _ List.mem_cons_self).1
    have hD0 := (LG.N (D0, listOf vs0.toArray k0) (List.mem_cons_of_mem _ (List.mem_append_left _ (List.mem_flatMap.mpr ⟨r0, by simp, by rw [f0]; exact List.mem_singleton.mpr rfl⟩)))).1
    have hD1 := (LG.N (D1, listOf vs1.toArray k1) (List.mem_cons_of_mem _ (List.mem_append_left _ (List.mem_flatMap.mpr ⟨r1, by simp, by rw [f1]; exact List.mem_singleton.mpr rfl⟩)))).1
    simp only [List.map_cons, List.map_nil, e0, e1] at hD
    refine wpAny_storeName_cell hk hlk hlc (hc0.keeps LG.keep) fun h₄ hc₄ hs₄ => ?_
    have hk₄ : ∀ b o, b ≠ cl → h'.get? b = some o → h₄.get? b = some o := fun b o hb e => hs₄.extBut b o hb e
    have sk := SK.butCell (hc0.keeps LG.keep) hk₄
    exact h h₄ g' _ D (fun b o hb e => hk₄ b o hb (LG.keep b o e)) LG.bare hc₄ ⟨D0, D1, vs0, vs1, sk.list ⟨_, hD, rfl, _, rfl⟩, sk.list ⟨_, hD0, rfl, _, rfl⟩, sk.list ⟨_, hD1, rfl, _, rfl⟩, g0, g1⟩

/-- found = _law_reached([texts]) -/
theorem found_stmt {Q : Flow → Shared → Prop} {a : LA} {T : Addr} {tt tu : Tok} {n : Nat}  {hv : List Value} {kv tv : Option Value} (X : LawAt w mean mg mb h₀) (V : LawEnv env a) (ok : a.Ok) (S : LS h₀ s.heap a hv txt0 u m kv tv) (htx : env.kindOf (Str.ofString "texts") = some .local)
    (hm : m (Str.ofString "texts") = some (.ref T)) (hT : s.heap.get? T = some (twoObj (txt0, u) tt tu n)) (hu18 : u.length ≤ 18) (ho : okT u)
    (hh : A.handled = none) (hd : A.depth + 16 < recursionLimit) (hu : A.units + 200 < cLine)
    (h : ∀ h' g' k m' f us qs, (AllBare s.gens → AllBare g') → LS h₀ h' a hv txt0 u m' kv tv → FoundAt h' m' [] u f us qs → Q .next { s with heap := h', gens := g', toks := k }) :
    wpAny (model pgm w) A (exec (.Assign [.Name (Str.ofString "found") (⟨172, 4, 172, 9⟩ : Pos)] (.Call (.Name (Str.ofString "_law_reached") (⟨172, 12, 172, 24⟩ : Pos)) [.List [.Name (Str.ofString "texts") (⟨172, 26, 172, 31⟩ : Pos)] (⟨172, 25, 172, 32⟩ : Pos)] [] (⟨172, 12, 172, 33⟩ : Pos)) (⟨172, 4, 172, 33⟩ : Pos)) env) Q E s := by
  obtain ⟨fo, fd, hfo, hfd⟩ := X.fr
  have hn : s.heap.Ns env.locals m := by rw [V.loc]; exact S.F.ns
  refine wpAny_Assign_Name (wpAny_Call_NameR (Calls.Name_function_global V.fn V.gr (Calls.loadGlobal_global (by rw [V.gl]; exact X.G.T.g.keeps S.F.keep) X.gr ?_))) rfl
  refine callWith_def hfd (args_cons (wpAny_List (args_cons (ev_local V.fn htx hn hm (args_nil ⟨by rw [sizeLine_eq]; exact (by decide : 1 ≤ 16777216), ?_⟩)))))
  have hk₂ : ∀ b o, s.heap.get? b = some o → (s.heap.push { cls := .type "list", data := .seq [Value.ref T].toArray }).get? b = some o := fun b o e => Heap.get?_push_of_some _ e
  have hl₂ : (s.heap.push { cls := .type "list", data := .seq [Value.ref T].toArray }).get? s.heap.objs.size = some _ := Heap.get?_push_size _ rfl
  refine args_nil ⟨hk₂ _ _ (S.F.keep _ _ hfo), ?_⟩
  have S2 := S.keeps hk₂
  refine reach_callK (vs := [.ref T]) (ps := [(txt0, u)]) (P := stage [] txt0 u) (X.G.keeps S2.F.keep) hh hd hu (stage_length _ _ _) (fun p hp => ?_) (by simp) (stage_closed Row.none.chk txt0 u) (stage_ok .none hu18 ho) ⟨_, hl₂, rfl, _, rfl⟩ (.cons T tt tu n (hk₂ _ _ hT) .nil) fun h₃ g₃ n₃ f us qs hk₃ hb₃ hl₃ hn₃ hpa₃ hnd₃ hso₃ hin₃ hsub₃ hcl₃ => ?_
  · rw [List.mem_singleton.mp hp]; exact stage_start txt0 u
  have S3 := S2.keeps hk₃
  refine wpAny_storeName_local V.found (by rw [V.loc]; exact S3.F.ns) (fun h₄ hn₄ hs₄ => ?_) (fn_block V.fn)
  rw [V.loc] at hn₄ hs₄
  have hk₄ : ∀ b o, b ≠ a.L → h₃.get? b = some o → h₄.get? b = some o := fun b o hb e => hs₄.extBut b o hb e
  have sk := SK.butNs S3.F.ns hk₄
  exact h h₄ g₃ _ _ f us qs hb₃ (S3.butL ok hn₄ hk₄) ⟨if_pos rfl, sk.list hl₃, sk.pa hpa₃, hnd₃, hso₃, hsub₃, stage_first txt0 u hcl₃ (hin₃ _ (List.mem_singleton.mpr rfl))⟩
end
end Mine
end
/- BODY5 -/
section
open PySem PySem.W PyProof.Rows PyProof.V
set_option maxRecDepth 100000
set_option genSizeOf false
set_option genInjectivity false
namespace Mine
theorem ints_at {vs : List Value} {ns : List Int} (h : IntsAre vs ns) : ∀ (j : Nat) (v : Value), vs[j]? = some v → ∃ (n : Int) (t : Tok), v = .int n t := by
  induction h with
  | nil => intro j v e; simp at e
  | cons n t _ ih =>
    intro j v e
    cases j with
    | zero => simp at e; exact ⟨n, t, e.symm⟩
    | succ j => exact ih j v (by simpa using e)

noncomputable def laOf (L : Nat) (W H LL : Addr) : LA := ⟨L, L + 1 + 1, L + 1 + 1 + 1 + 1 + 1 + 1, L + 1 + 1 + 1, L + 1 + 1 + 1 + 1, L + 1 + 1 + 1 + 1 + 1, W, H, LL⟩
theorem apart {L a b : Nat} (h : a ≠ b) : (L + a : Nat) ≠ L + b := fun q => h (Nat.add_left_cancel q)
theorem apart0 {L a : Nat} (h : a ≠ 0) : (L + a : Nat) ≠ L := fun q => h (Nat.add_left_cancel (k := 0) q)
theorem laOf_ok (L : Nat) (W H LL : Addr) : (laOf L W H LL).Ok :=
  ⟨apart0 (a := 2) (by decide), apart0 (a := 6) (by decide), apart0 (a := 3) (by decide), apart0 (a := 4) (by decide), apart0 (a := 5) (by decide), apart (a := 2) (b := 6) (by decide), apart (a := 2) (b := 3) (by decide), apart (a := 2) (b := 4) (by decide), apart (a := 2) (b := 5) (by decide), apart (a := 6) (b := 3) (by decide), apart (a := 6) (b := 4) (by decide), apart (a := 6) (b := 5) (by decide)⟩

theorem lawAt_of {w : World} {mean : ExcName → Option Value} {mg mb : Str → Option Value} {h : Heap} (G : Gd w mean mg mb h) : LawAt w mean mg mb h ∧ mg (Str.ofString "_law_left") = some (.ref 103) ∧ ∃ o fd, h.get? 103 = some o ∧ o.data = .func fd := by
  have dummy : PySem.Challenge.rw_wa0019_01 = PySem.Challenge.rw_wa0019_01 → Mine.hd.heap_39 = Mine.hd.heap_39 → True := by
    k_fill
    intros; trivial
  clear dummy
  have kX := G.K
  have kT := G.T
  refine ⟨⟨G, mg_of kX kT.g (by k_is), ⟨_, _, G.K 110 _ (by k_is), rfl⟩, mg_of kX kT.g (by k_is), ⟨_, _, G.K 115 _ (by k_is), rfl⟩, mg_none_of kX kT.g (by k_is), (kT.builtins _ (by decide)).trans boot_sorted, mg_none_of kX kT.g (by k_is), (kT.builtins _ (by decide)).trans boot_range, ?_⟩, mg_of kX kT.g (by k_is), ⟨_, _, G.K 103 _ (by k_is), rfl⟩⟩
  intro b hb
  have := fiveCases hb
  rcases this with rfl | rfl | rfl | rfl | rfl
  · exact ⟨_, _, G.K 49 _ (by k_is), rfl⟩
  · exact ⟨_, _, G.K 56 _ (by k_is), rfl⟩
  · exact ⟨_, _, G.K 63 _ (by k_is), rfl⟩
  · exact ⟨_, _, G.K 70 _ (by k_is), rfl⟩
  · exact ⟨_, _, G.K 77 _ (by k_is), rfl⟩
end Mine
end
/- LAW -/
section
open PySem PySem.W PyProof.Rows
set_option maxRecDepth 100000
set_option genSizeOf false
set_option genInjectivity false
namespace Mine
theorem CellsAre.pop {cm : Str → Option Value} {n : Str} {c : Addr} {cs : List (Str × Addr)} {cells : List (Addr × Obj)} (x : CellsAre cm ((n, c) :: cs) cells) : ∃ o r, cells = (c, o) :: r ∧ o.data = .cell (cm n) ∧ CellsAre cm cs r := by
  cases x with | cons h r => exact ⟨_, _, rfl, h, r⟩
theorem CellsAre.end {cm : Str → Option Value} {cells : List (Addr × Obj)} (x : CellsAre cm [] cells) : cells = [] := by
  cases x; rfl
theorem CellsAre.six {cm : Str → Option Value} {n1 n2 n3 n4 n5 n6 : Str} {c1 c2 c3 c4 c5 c6 : Addr} {cells : List (Addr × Obj)} (x : CellsAre cm [(n1, c1), (n2, c2), (n3, c3), (n4, c4), (n5, c5), (n6, c6)] cells) :
    ∃ o1 o2 o3 o4 o5 o6, cells = [(c1, o1), (c2, o2), (c3, o3), (c4, o4), (c5, o5), (c6, o6)] ∧ o1.data = .cell (cm n1) ∧ o2.data = .cell (cm n2) ∧ o3.data = .cell (cm n3) ∧ o4.data = .cell (cm n4) ∧ o5.data = .cell (cm n5) ∧ o6.data = .cell (cm n6) :=
  let ⟨o1, _, e1, h1, x1⟩ := CellsAre.pop x; let ⟨o2, _, e2, h2, x2⟩ := CellsAre.pop x1; let ⟨o3, _, e3, h3, x3⟩ := CellsAre.pop x2; let ⟨o4, _, e4, h4, x4⟩ := CellsAre.pop x3; let ⟨o5, _, e5, h5, x5⟩ := CellsAre.pop x4; let ⟨o6, _, e6, h6, x6⟩ := CellsAre.pop x5
  ⟨o1, o2, o3, o4, o5, o6, by rw [e1, e2, e3, e4, e5, e6, CellsAre.end x6], h1, h2, h3, h4, h5, h6⟩
theorem News.nth {h₀ h : Heap} {L : Addr} {news : List (Addr × Obj)} (N : News h₀ L h news) (i : Nat) {p : Addr × Obj} (e : news[i]? = some p) : h.get? p.1 = some p.2 ∧ p.1 ≠ L ∧ h₀.get? p.1 = none := N p (List.mem_of_getElem? e)
theorem News.offN {h₀ h : Heap} {L c : Addr} {o : Obj} {v : Option Value} {news : List (Addr × Obj)} (N : News h₀ L h news) (i j : Nat) {p : Addr × Obj} (ei : news[i]? = some p) (ej : news[j]? = some (c, o)) (hd : o.data = .cell v) {xs : Array Value} {n : Nat} (hs : p.2.data = .seq xs n) : p.1 ≠ c :=
  News.off N (List.mem_of_getElem? ej) hd (List.mem_of_getElem? ei) fun v q => by rw [hs] at q; cases q
theorem all2 {α : Type} {P : α → Prop} {a b : α} (h1 : P a) (h2 : P b) : ∀ p ∈ [a, b], P p := List.forall_mem_cons.mpr ⟨h1, List.forall_mem_cons.mpr ⟨h2, fun _ h => nomatch h⟩⟩
theorem all3 {α : Type} {P : α → Prop} {a b c : α} (h1 : P a) (h2 : P b) (h3 : P c) : ∀ p ∈ [a, b, c], P p := List.forall_mem_cons.mpr ⟨h1, all2 h2 h3⟩
theorem all6 {α : Type} {P : α → Prop} {a b c d e f : α} (h1 : P a) (h2 : P b) (h3 : P c) (h4 : P d) (h5 : P e) (h6 : P f) : ∀ p ∈ [a, b, c, d, e, f], P p :=
  List.forall_mem_cons.mpr ⟨h1, List.forall_mem_cons.mpr ⟨h2, List.forall_mem_cons.mpr ⟨h3, all3 h4 h5 h6⟩⟩⟩

theorem hand_eq (n : Nat) : (((n : Int).fdiv 256).fmod 5) = ((n / 256 % 5 : Nat) : Int) := by
  rw [Int.fdiv_eq_ediv_of_nonneg _ (by decide), Int.fmod_eq_emod_of_nonneg _ (by decide)]
  rfl
theorem three_of {cv : List Value} (h3 : cv.length = 3) (h : ∀ (i : Nat) v, cv[i]? = some v → ∃ (n : Nat) (t : Tok), v = .int n t ∧ n < 1000000) :
    ∃ (a b c : Nat) (t u v : Tok), cv = [.int a t, .int b u, .int c v] ∧ a < 1000000 ∧ b < 1000000 := by
  rcases cv with _ | ⟨x, _ | ⟨y, _ | ⟨z, _ | ⟨q, r⟩⟩⟩⟩
  · cases h3
  · cases h3
  · cases h3
  · obtain ⟨a, t, rfl, ha⟩ := h 0 x rfl
    obtain ⟨b, u, rfl, hb⟩ := h 1 y rfl
    obtain ⟨c, v, rfl, _⟩ := h 2 z rfl
    exact ⟨a, b, c, t, u, v, rfl, ha, hb⟩
  · cases h3

theorem with_law {M : Model} {A : Around} {st : Stmt} {rest : List Stmt} {env : Env} {Q : Flow → Shared → Prop} {E : Value → Shared → Prop} {s : Shared} (a : LA) (V : LawEnv env a) (h : LawEnv env a → wpAny M A (execs (st :: rest) env) Q E s) : wpAny M A (execs (st :: rest) env) Q E s := h V
local macro_rules | `(tactic| walk_at $s:str) => `(tactic| k_extra $s)
set_option maxHeartbeats 400000 in
theorem law_walk (w : World) (mean : ExcName → Option Value) (mg mb : Str → Option Value) (a : Addr) (vs : List Value) (ns : List Int)
   (dp un : Nat) (fr : Option (List Env)) (gd : Option (List Code)) (s : Shared) (R : Result → Shared → Prop) (G : Gd w mean mg mb s.heap) (hd1 : dp + 40 < recursionLimit) (hu1 : un + 400 < cLine)
   (hl : s.heap.IsList a vs.toArray) (hi : IntsAre vs ns) (hvl : vs.length ≤ 1000)
   (kR : ∀ h' g' n', (∀ b o, s.heap.get? b = some o → h'.get? b = some o) → (AllBare s.gens → AllBare g') → R (.ok (.ret (.bool true))) { s with heap := h', gens := g', toks := n' })
   : codeAny (model pgm w) ⟨none, dp, fr, gd, un⟩ (.call (.ref 120) ⟨[Value.ref a], []⟩) R s := by
  have dummy : PySem.Challenge.rw_wa0019_01 = PySem.Challenge.rw_wa0019_01 → Mine.hd.heap_39 = Mine.hd.heap_39 → True := by
    k_fill
    intros; trivial
  clear dummy
  k_with_none
  (k_with "eval ListComp" => ((refine stop_here ?_)))
  (k_with "call ref" => ((refine stop_here ?_)))
  (k_with "storeName" => (((with_reducible show wpAny _ _ (storeName _ (PySem.Str.ofString "writers") _) _ _ _); (refine stop_here ?_))))
  (k_with "storeName" => (((with_reducible show wpAny _ _ (storeName _ (PySem.Str.ofString "hands") _) _ _ _); (refine stop_here ?_))))
  (k_with "storeName" => (((with_reducible show wpAny _ _ (storeName _ (PySem.Str.ofString "table") _) _ _ _); (refine stop_here ?_))))
  (k_with "execs cons" => (((with_reducible show wpAny _ _ (execs (Stmt.Assign _ (Expr.ListComp _ _ _ _) _ :: _) _) _ _ _); (refine stop_here ?_))))
  have kX := G.K
  have kT := G.T
  refine enterC G (room0 hd1) (by k_is) (by k_is) (BindsTo.of_eq rfl) (by intro n x hx; have hx' : x ∈ [(Str.ofString "script", Value.ref a)] := hx; rw [List.mem_singleton.mp hx']; exact Or.inr ⟨rfl, rfl⟩) (by decide) rfl rfl rfl ?_
  intro L' h' tk' cells eL' kk F' N' C'
  (try dsimp only)
  (try k_fold)
  have C2 : CellsAre _ [(Str.ofString "table", L' + 1 + 1 + 1 + 1 + 1 + 1), (Str.ofString "left", L' + 1 + 1 + 1 + 1 + 1), (Str.ofString "hands", L' + 1 + 1 + 1 + 1), (Str.ofString "writers", L' + 1 + 1 + 1), (Str.ofString "k", L' + 1 + 1), (Str.ofString "script", L' + 1)] cells := C'
  obtain ⟨o6, o5, o4, o3, o2, o1, rfl, c6, c5, c4, c3, c2, c1⟩ := CellsAre.six C2
  replace c1 : o1.data = .cell (some (.ref a)) := c1
  replace c2 : o2.data = .cell none := c2
  replace c3 : o3.data = .cell none := c3
  replace c4 : o4.data = .cell none := c4
  replace c5 : o5.data = .cell none := c5
  replace c6 : o6.data = .cell none := c6
  clear C2 C'
  k_steps
  delta Stop
  rename Fr _ _ _ _ => F1
  rename News _ _ _ _ => N1
  have hlen63 : vs.length ≤ 1000 := hvl
  refine wpAny_execs_cons ?_
  refine cells_stmt (cl := [(Str.ofString "script", L' + 1)]) (mg := mg) (mb := mb) (c := L' + 1) (l := a) (o := o1) (items := vs) (h₀ := s.heap) rfl rfl (by rfl) (by rfl) (by decide) rfl (by decide) rfl rfl (by rfl) (by rfl) (by rfl) (by rfl) (by rfl) kT.g (mg_none_of kX kT.g (by k_is)) (mg_none_of kX kT.g (by k_is)) kT.b ((kT.builtins _ (by decide)).trans boot_sum) ((kT.builtins _ (by decide)).trans boot_enumerate) F1 N1 (List.mem_of_getElem? (i := 5) rfl) c1 hl hlen63 (ints_at hi) ?_
  intro D1 h1 g1 tk1 k1 cv F2 N2 hcv3 hcv hb1
  obtain ⟨n0, n1, n2', t0, t1, t2', hcve, h06, h16⟩ := three_of hcv3 hcv
  subst hcve
  clear F1 N1
  k_steps
  delta Stop
  refine drawn_callF (vs := _) G rfl (by dsimp only [Around.deeper]; first | exact roomT _ _ hd1 | exact roomT _ _ hu1) (by dsimp only [Around.deeper]; first | exact roomT _ _ hd1 | exact roomT _ _ hu1) F2 N2 ⟨_, (N2 _ List.mem_cons_self).1, rfl, _, rfl⟩ hcv3 hcv ?_
  intro h2 g2 n2 x2 t2 F3 N3 hb2 hx18 hx2
  clear F2 N2
  k_steps
  delta Stop
  rename Fr _ _ _ _ => F4
  rename News _ _ _ _ => N4
  refine stCN (own := [_, _, _, _, _, _]) (c := L' + 1 + 1 + 1) (o := o3) F4 N4 (by rfl) c3 (all6 (News.offN N4 0 6 rfl rfl c3 rfl) (News.offN N4 1 6 rfl rfl c3 rfl) (News.offN N4 2 6 rfl rfl c3 rfl) (cell_ne (L := L') (a := 6) (b := 3) (by decide)) (cell_ne (L := L') (a := 5) (b := 3) (by decide)) (cell_ne (L := L') (a := 4) (b := 3) (by decide)))
    (all2 (cell_ne (L := L') (a := 2) (b := 3) (by decide)) (cell_ne (L := L') (a := 1) (b := 3) (by decide))) ?_
  intro h5 o3' F5 N5 c3'
  clear F4 N4
  k_steps
  delta Stop
  rename Fr _ _ _ _ => F6
  rename News _ _ _ _ => N6
  have ea : ((([(n0 : Int), (n1 : Int), (n2' : Int)].getD (Int.toNat 0) 0).fdiv 256).fmod 5) = ((n0 / 256 % 5 : Nat) : Int) := hand_eq n0
  have eb : ((([(n0 : Int), (n1 : Int), (n2' : Int)].getD (Int.toNat 1) 0).fdiv 256).fmod 5) = ((n1 / 256 % 5 : Nat) : Int) := hand_eq n1
  rw [ea, eb] at N6
  have ha5 : n0 / 256 % 5 < 5 := Nat.mod_lt _ (by decide)
  have hb5 : n1 / 256 % 5 < 5 := Nat.mod_lt _ (by decide)
  generalize n0 / 256 % 5 = ha at N6 ha5
  generalize n1 / 256 % 5 = hb at N6 hb5
  dsimp only [List.cons_append, List.nil_append] at N6
  refine stCN (own := [_, _, _, _, _, _]) (c := L' + 1 + 1 + 1 + 1) (o := o4) F6 N6 (by rfl) c4 (all6 (News.offN N6 0 6 rfl rfl c4 rfl) (News.offN N6 1 6 rfl rfl c4 rfl) (News.offN N6 2 6 rfl rfl c4 rfl) (News.offN N6 3 6 rfl rfl c4 rfl) (cell_ne (L := L') (a := 6) (b := 4) (by decide)) (cell_ne (L := L') (a := 5) (b := 4) (by decide)))
    (all3 (cell_ne (L := L') (a := 3) (b := 4) (by decide)) (cell_ne (L := L') (a := 2) (b := 4) (by decide)) (cell_ne (L := L') (a := 1) (b := 4) (by decide))) ?_
  intro h7 o4' F7 N7 c4'
  clear F6 N6
  have hT7 := (News.nth N7 2 rfl).1
  have hW7 := (News.nth N7 1 rfl).1
  have hH7 := (News.nth N7 0 rfl).1
  have a2 : s.heap.get? (L' + 1 + 1) = none ∧ h7.get? (L' + 1 + 1) = some o2 := ⟨(News.nth N7 8 rfl).2.2, (News.nth N7 8 rfl).1⟩
  have a3 : h7.get? (L' + 1 + 1 + 1) = some o3' := (News.nth N7 7 rfl).1
  have a4 : h7.get? (L' + 1 + 1 + 1 + 1) = some o4' := (News.nth N7 6 rfl).1
  have a5 : h7.get? (L' + 1 + 1 + 1 + 1 + 1) = some o5 := (News.nth N7 5 rfl).1
  have a6 : s.heap.get? (L' + 1 + 1 + 1 + 1 + 1 + 1) = none ∧ h7.get? (L' + 1 + 1 + 1 + 1 + 1 + 1) = some o6 := ⟨(News.nth N7 4 rfl).2.2, (News.nth N7 4 rfl).1⟩
  clear N7
  obtain ⟨m7, F8, hmt⟩ : ∃ m7, Fr s.heap L' h7 m7 ∧ m7 (Str.ofString "texts") = some (.ref _) := ⟨_, F7, if_pos rfl⟩
  clear F7
  have zt : Str.ofString "&\".\"\\\"\"<\"\n.>\".\"\r:\t" = toS txt0 := by decide
  rw [zt] at hT7
  have hT8 : h7.get? _ = some (twoObj (txt0, x2) tk1 t2 0) := hT7
  clear hT7
  obtain ⟨X, hml, hfl⟩ := lawAt_of G
  (try dsimp only)
  refine wpAny_execs_cons (left_stmt (cl := L' + 1 + 1 + 1 + 1 + 1) (h₀ := s.heap) G hml hfl rfl rfl (by rfl) (by rfl) (by rfl) ⟨o5, a5, c5⟩ (by rfl) F8 hmt hT8 hx18 (by decide) (by decide) rfl (by decide) (by rfl) (by rfl) rfl (by dsimp only [Around.deeper]; first | exact roomT _ _ hd1 | exact roomT _ _ hu1) (by dsimp only [Around.deeper]; first | exact roomT _ _ hd1 | exact roomT _ _ hu1) ?_)
  intro h8 g8 k8 LL hk8 hb8 hc8 hLL
  have sk8 : SK h7 h8 := SK.butCell ⟨o5, a5, c5⟩ hk8
  obtain ⟨aW, aH, ta, tb, S8⟩ : ∃ W H ta tb, LS s.heap h8 (laOf L' W H LL) [.int (ha : Nat) ta, .int (hb : Nat) tb] txt0 x2 m7 none none :=
    ⟨_, _, _, _, ⟨F8.ns.at fun o => hk8 _ o (fun q => apart0 (L := L') (a := 5) (by decide) q.symm), fun b o e => hk8 b o (fun q => by
        have z := Nat.lt_of_lt_of_le (Heap.lt_size e) F8.above
        rw [q] at z
        exact absurd z (Nat.not_lt.mpr (Nat.le_add_right L' 5))) (F8.keep b o e), F8.above⟩,
      ⟨o2, hk8 _ _ (apart (L := L') (a := 2) (b := 5) (by decide)) a2.2, c2⟩, ⟨o6, hk8 _ _ (apart (L := L') (a := 6) (b := 5) (by decide)) a6.2, c6⟩, a2.1, a6.1,
      ⟨o3', hk8 _ _ (apart (L := L') (a := 3) (b := 5) (by decide)) a3, c3'⟩, sk8.tup ⟨_, hW7, rfl, _, rfl⟩, ⟨o4', hk8 _ _ (apart (L := L') (a := 4) (b := 5) (by decide)) a4, c4'⟩, sk8.list ⟨_, hH7, rfl, _, rfl⟩, hc8, hLL⟩
  have ok := laOf_ok L' aW aH LL
  have hT9 := sk8 _ _ _ _ hT8 rfl
  clear hW7 hH7 hT8 a2 a3 a4 a5 a6 hk8 sk8 hLL hc8 c1 c2 c3 c4 c5 c6 c3' c4' F8
  show wpAny _ _ (execs _ _) _ _ _
  refine with_law (laOf L' aW aH LL) ?V fun V => ?_
  case V => exact ⟨rfl, rfl, rfl, rfl, by rfl, by rfl, by rfl, by rfl, by rfl, by rfl, by rfl, by rfl, by rfl, by rfl, by rfl, by rfl, by rfl⟩
  refine wpAny_execs_cons (found_stmt (a := laOf L' aW aH LL) (h₀ := s.heap) X V ok S8 (by rfl) hmt hT9 hx18 hx2 rfl (by dsimp only [Around.deeper]; first | exact roomT _ _ hd1 | exact roomT _ _ hu1) (by dsimp only [Around.deeper]; first | exact roomT _ _ hd1 | exact roomT _ _ hu1) ?_)
  intro h9 g9 k9 m9 f us qs hb9 S9 Y9
  clear S8 hT9 hmt
  show wpAny _ _ (execs _ _) _ _ _
  refine wpAny_execs_cons (wpAny_For (range_src (N := 3) rfl (by rfl) (X.G.T.g.keeps S9.F.keep) X.nr (X.G.T.b.keeps S9.F.keep) X.br rfl (by decide) (fun Q' hq => wpAny_Constant_int (hq _ _)) fun h10 k10 I hk10 hIn hIl hI => ?_) (by intro _; rfl))
  have S10 := S9.keeps hk10
  have Y10 := Y9.sk (SK.of hk10) rfl
  have hI0 : s.heap.get? I = none := by
    cases e : s.heap.get? I with
    | none => rfl
    | some o => have z := S9.F.keep _ _ e; rw [hIn] at z; cases z
  refine law_loop (a := laOf L' aW aH LL) (hands := [ha, hb]) rfl V ok S10 hI hI0 ⟨f, us, qs, Y10⟩ ?body ?done
  case done =>
    intro h11 g11 n11 m11 kv tv hb11 S11
    show wpAny _ _ (execs _ _) _ _ _
    refine wpAny_execs_cons (wpAny_Return_some (wpAny_Constant_bool ?_))
    exact kR h11 g11 n11 S11.F.keep fun hb => hb11 (hb9 (hb8 (hb2 (hb1 hb))))
  case body =>
    intro k hh gg nn mm tv tkk hk3 SS ⟨f, us, qs, YY⟩
    clear S9 S10 Y9 Y10 hI hI0
    refine wpAny_execs_cons (table_stmt (h₀ := s.heap) X V ok SS (Nat.le_of_lt_succ hk3) ha5 hb5 rfl (by dsimp only [Around.deeper]; first | exact roomT _ _ hd1 | exact roomT _ _ hu1) (by dsimp only [Around.deeper]; first | exact roomT _ _ hd1 | exact roomT _ _ hu1) fun h1 n1 D od hk1 S1 hDn hD hsys hT => ?_)
    have Y1 := YY.sk (SK.butCell SS.tc hk1) rfl
    refine wpAny_execs_cons (ways_stmt V ok S1 (Nat.le_of_lt_succ hk3) fun h2 n2 t hk2 S2 => ?_)
    have Y2 := Y1.sk (SK.butNs S1.F.ns hk2) rfl
    have hDL : D ≠ L' := fun q => by
      obtain ⟨o, _, _, ho, _⟩ := SS.F.ns
      have z : hh.get? D = none := hDn
      rw [q] at z
      have ho' : hh.get? L' = some o := ho
      rw [z] at ho'; cases ho'
    have R2 : RowAt pgm w h2 (L' + 1 + 1 + 1 + 1 + 1) (L' + 1 + 1 + 1 + 1 + 1 + 1) LL D od (tabOf ([ha, hb].take k)) txt0 x2 := ⟨S2.lc, S2.ll, S2.tc, hsys, hk2 _ _ hDL hD, hT⟩
    have hrow : Row ([ha, hb].take k) := row_take ha5 hb5 k (Nat.le_of_lt_succ hk3)
    have hN7 : waysN ([ha, hb].take k) ≤ 7 := waysN_le _
    have hlen : ∀ way < waysN ([ha, hb].take k), ∀ i < 2, (at' (side txt0 x2 i) way).length ≤ 4096 ∧ (ex (eT (tabOf ([ha, hb].take k))) (at' (side txt0 x2 i) way)).length ≤ 65536 := fun way _ i _ => by
      have z0 := row_text hrow txt0_ok.1 txt0_ok.2 way
      have z1 := row_text hrow hx18 hx2 way
      unfold side
      split
      · exact ⟨z0.1, leBig z0.2.1⟩
      · exact ⟨z1.1, leBig z1.2.1⟩
    refine wpAny_execs_cons (due_stmt (t0 := txt0) (t1 := x2) (N := waysN ([ha, hb].take k)) (ocl := [(Str.ofString "table", L' + 1 + 1 + 1 + 1 + 1 + 1), (Str.ofString "left", L' + 1 + 1 + 1 + 1 + 1)]) (mcl := fun K => [(Str.ofString "way", K), (Str.ofString "table", L' + 1 + 1 + 1 + 1 + 1 + 1), (Str.ofString "left", L' + 1 + 1 + 1 + 1 + 1)]) (icl := [(Str.ofString "table", L' + 1 + 1 + 1 + 1 + 1 + 1)])
      (fun C K => ⟨rfl, by rfl, rfl, rfl, by rfl, by decide, rfl, by decide, by rfl, by rfl, by rfl, by rfl, by rfl, fun C => by rfl, by rfl, rfl, by decide, by decide, by rfl, fun C => by rfl⟩) R2 hN7 rfl (by rfl) S2.F.ns (if_pos rfl) (by rfl) rfl rfl (by rfl) (by rfl) (by intro n; rfl) (by intro h; rfl) rfl (by rfl) (by decide) (by rfl)
      (X.G.T.g.keeps S2.F.keep) X.nr (X.G.T.b.keeps S2.F.keep) X.br rfl (by decide) (by decide) hlen fun h3 g3 k3 D3 us3 n3 hn3 hk3' hb3 hDn3 hD3 hul3 hPA3 => ?_)
    have S3 : LS s.heap h3 (laOf L' aW aH LL) _ txt0 x2 _ _ _ := S2.butL ok hn3 hk3'
    have Y3 := Y2.sk (SK.butNs S2.F.ns hk3') (m' := fun z => if z = Str.ofString "due" then some (Value.ref D3) else if z = Str.ofString "ways" then some (.int (waysN ([ha, hb].take k) : Nat) t) else mm z) rfl
    show wpAny _ _ (execs _ _) _ _ _
    refine wpAny_execs_cons (check_stmt (hands := [ha, hb].take k) (u := x2) (ds := us3) (D := D3) X V S3.F (by dsimp only [Around.deeper]; first | exact roomT _ _ hd1 | exact roomT _ _ hu1) Y3.name (if_pos rfl) Y3.list Y3.pa ⟨_, hD3, rfl, _, rfl⟩ hPA3 hrow hx18 hx2 Y3.nd Y3.so Y3.sub Y3.full fun h4 n4 hk4 => ?_)
    have S4 := S3.keeps hk4
    have Y4 := Y3.sk (m' := fun z => if z = Str.ofString "due" then some (Value.ref D3) else if z = Str.ofString "ways" then some (.int (waysN ([ha, hb].take k) : Nat) t) else mm z) (SK.of hk4) rfl
    show wpAny _ _ (execs _ _) _ _ _
    refine wpAny_execs_cons (next_stmt (h₀ := s.heap) (k := k) (t1 := x2) (ocl := [(Str.ofString "writers", L' + 1 + 1 + 1), (Str.ofString "k", L' + 1 + 1), (Str.ofString "hands", L' + 1 + 1 + 1 + 1)]) (icl := [(Str.ofString "writers", L' + 1 + 1 + 1), (Str.ofString "k", L' + 1 + 1), (Str.ofString "hands", L' + 1 + 1 + 1 + 1)]) X V ok S4 ha5 hb5 Y4 hx18 hx2 rfl (by dsimp only [Around.deeper]; first | exact roomT _ _ hd1 | exact roomT _ _ hu1) (by dsimp only [Around.deeper]; first | exact roomT _ _ hd1 | exact roomT _ _ hu1)
      (by rfl) (by decide) rfl (by decide) (by rfl) (fun C => by rfl) (fun C => ⟨by rfl, by rfl, by rfl, by rfl, by rfl, by rfl⟩) (by decide) rfl (by decide) (by rfl) ?ge ?go)
    case ge =>
      intro hge
      show wpAny _ _ (execs [] _) _ _ _
      exact wpAny_execs_nil ⟨rfl, h4, _, _, _, _, _, rfl, fun b o hbL hbt e => hk4 _ _ (hk3' _ _ hbL (hk2 _ _ hbL (hk1 _ _ hbt e))), hb3, S4, fun hlt => absurd hlt (Nat.not_lt.mpr hge)⟩
    case go =>
      intro h5 g5 n5 m5 f5 us5 qs5 hlt hk5 hb5' S5 Y5
      show wpAny _ _ (execs [] _) _ _ _
      exact wpAny_execs_nil ⟨rfl, h5, g5, _, _, _, _, rfl, fun b o hbL hbt e => hk5 _ _ hbL (hk4 _ _ (hk3' _ _ hbL (hk2 _ _ hbL (hk1 _ _ hbt e)))), fun hb => hb5' (hb3 hb), S5, fun _ => ⟨f5, us5, qs5, Y5⟩⟩
end Mine
end
/- HEAD -/
section
open PySem PySem.W PyProof.Rows
set_option maxRecDepth 100000
set_option genSizeOf false
set_option genInjectivity false
namespace Mine
set_option maxHeartbeats 4000000 in
theorem tt : PySem.Challenge.rw_wa0019_01.Holds := Mine.hd (by
  k_fill
  intro w s₀ s₁ mg mb G Y fa o pm cd doc dV kV ho hd hcd hD hmg hg args vals as hpre hlay hrd hwl hlo
  have KX := kIn_of Y
  have X := (Ground.X G).1
  have V := (Ground.X G).2
  refine Ground.open G ?_
  intro T B D TE TW
  have Gd1 : Gd w (ExcName.means s₀.heap) mg mb s₁.heap := ⟨KX, T⟩
  have efa : mg (Str.ofString "law") = some (.ref 120) := mg_of KX T.g (by k_is)
  have hfa : fa = 120 := by
    have z : mg (Str.ofString "law") = some (.ref fa) := hmg
    rw [efa] at z
    exact (Value.ref.inj (Option.some.inj z)).symm
  subst hfa
  clear ho hd hcd hD hmg
  wrow_args hpre hlay hrd hwl hlo
  rename (IntsAre _ _) => hI
  rename (Heap.IsList _ _ _) => hL
  rename (¬ ((63 : Nat) : Int) < _) => hc
  have hlen := hI.length
  refine wpAny_call (law_walk w (ExcName.means s₀.heap) mg mb _ _ _ _ _ _ _ s₁ _ Gd1 ?dd9 ?uu9 hL hI (by omega) ?kk9)
  case dd9 => decide
  case uu9 => decide
  case kk9 =>
    intro h' g' n' hk hb
    refine ⟨.inl ⟨_, .bool true, [], rfl, fun cls => rfl, .bool true, by wrow_post, fun _ => ⟨.nil, fun _ ha => nomatch ha⟩⟩, OldK.of_keep hk, rfl, hb ?_⟩
    rw [hg]
    intro x hx
    simp at hx)
end Mine
end
theorem PySem.Challenge.cw_wa0019_01_holds : PySem.Challenge.rw_wa0019_01.Holds :=
  Mine.tt
