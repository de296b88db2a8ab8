import PyProof.Rows.All
import Wide.All
import OpenK.AllK
import Wide.FinOn
import Open.Tops
import PySem.Challenge.RW_nq0313_01
set_option Elab.async false
local macro_rules | `(tactic| omega) => `(tactic| lia)
section
namespace Mine
/-- a strict total order as a Bool -/
structure STO {α : Type} (lt : α → α → Bool) : Prop where
  irr : ∀ a, lt a a = false
  tr : ∀ {a b c}, lt a b = true → lt b c = true → lt a c = true
  tot : ∀ {a b}, lt a b = false → lt b a = false → a = b

section
variable {α : Type} {lt : α → α → Bool}
theorem STO.asym (h : STO lt) {a b : α} (x : lt a b = true) : lt b a = false := by
  cases q : lt b a with
  | false => rfl
  | true => have := h.tr x q; rw [h.irr] at this; cases this
theorem STO.le_trans (h : STO lt) {a b c : α} (x : lt b a = false) (y : lt c b = false) : lt c a = false := by
  cases q : lt c a with
  | false => rfl
  | true =>
    cases r : lt a b with
    | true => rw [h.tr q r] at y; cases y
    | false => have e := h.tot x r; subst e; rw [q] at y; cases y
end

section heap
variable {α : Type} (lt : α → α → Bool)
/-- the parent stands no higher -/
noncomputable def IsHeap (l : List α) : Prop := ∀ i (h : i < l.length), 0 < i → lt l[i] (l[(i - 1) / 2]'(by omega)) = false
/-- but for what touches the hole at p -/
noncomputable def HeapBut (l : List α) (p : Nat) : Prop :=
  (∀ i (h : i < l.length), 0 < i → i ≠ p → (i - 1) / 2 ≠ p → lt l[i] (l[(i - 1) / 2]'(by omega)) = false) ∧
  (∀ c (h : c < l.length) (_ : 0 < c) (_ : (c - 1) / 2 = p), 0 < p → lt l[c] (l[(p - 1) / 2]'(by omega)) = false)
variable {lt}

theorem HeapBut.ofHeap (S : STO lt) {l : List α} (H : IsHeap lt l) (p : Nat) : HeapBut lt l p := by
  refine ⟨fun i h h0 _ _ => H i h h0, fun c h h0 e p0 => ?_⟩
  have a := H c h h0
  have b := H p (by omega) p0
  subst e
  exact S.le_trans b a

theorem HeapBut.set {l : List α} {p : Nat} (H : HeapBut lt l p) (x : α) : HeapBut lt (l.set p x) p := by
  refine ⟨fun i h h0 n1 n2 => ?_, fun c h h0 e p0 => ?_⟩
  · rw [List.length_set] at h
    rw [List.getElem_set_ne (by omega), List.getElem_set_ne (by omega)]
    exact H.1 i h h0 n1 n2
  · rw [List.length_set] at h
    rw [List.getElem_set_ne (by omega), List.getElem_set_ne (by omega)]
    exact H.2 c h h0 e p0

/-- appended: the hole is the last place -/
theorem HeapBut.append {l : List α} (H : IsHeap lt l) (x : α) : HeapBut lt (l ++ [x]) l.length := by
  refine ⟨fun i h h0 n1 n2 => ?_, fun c h h0 e p0 => ?_⟩
  · rw [List.length_append, List.length_singleton] at h
    rw [List.getElem_append_left (by omega), List.getElem_append_left (by omega)]
    exact H i (by omega) h0
  · rw [List.length_append, List.length_singleton] at h
    omega

/-- the top taken: any value for it -/
theorem HeapBut.top {l : List α} (H : IsHeap lt l) (x : α) : HeapBut lt (l.set 0 x) 0 := by
  refine ⟨fun i h h0 n1 n2 => ?_, fun c h h0 e p0 => absurd p0 (Nat.lt_irrefl _)⟩
  rw [List.length_set] at h
  rw [List.getElem_set_ne (by omega), List.getElem_set_ne (by omega)]
  exact H i h h0

/-- a turn of _siftup: the lesser child goes up -/
theorem HeapBut.down (S : STO lt) {l : List α} {p c : Nat} (H : HeapBut lt l p) (hc : c < l.length) (c0 : 0 < c) (e : (c - 1) / 2 = p)
    (least : ∀ d (hd : d < l.length), 0 < d → (d - 1) / 2 = p → lt l[d] l[c] = false) : HeapBut lt (l.set p l[c]) c := by
  refine ⟨fun i h h0 n1 n2 => ?_, fun d h h0 e2 _ => ?_⟩
  · rw [List.length_set] at h
    by_cases ip : i = p
    · subst ip
      rw [List.getElem_set_self, List.getElem_set_ne (by omega)]
      exact H.2 c hc c0 e h0
    · rw [List.getElem_set_ne (fun q => ip q.symm)]
      by_cases jp : (i - 1) / 2 = p
      · have : (l.set p l[c])[(i - 1) / 2]'(by rw [List.length_set]; omega) = l[c] := by
          simp only [jp, List.getElem_set_self]
        rw [this]
        exact least i h h0 jp
      · rw [List.getElem_set_ne (fun q => jp q.symm)]
        exact H.1 i h h0 ip jp
  · rw [List.length_set] at h
    have : (l.set p l[c])[(c - 1) / 2]'(by rw [List.length_set]; omega) = l[c] := by
      simp only [e, List.getElem_set_self]
    rw [this, List.getElem_set_ne (by omega)]
    have := H.1 d h h0 (by omega) (by omega)
    simp only [e2] at this
    exact this

/-- a turn of _siftdown: the parent comes down -/
theorem HeapBut.up (S : STO lt) {l : List α} {p : Nat} (H : HeapBut lt l p) (hp : p < l.length) (p0 : 0 < p) : HeapBut lt (l.set p (l[(p - 1) / 2]'(by omega))) ((p - 1) / 2) := by
  refine ⟨fun i h h0 n1 n2 => ?_, fun d h h0 e2 q0 => ?_⟩
  · rw [List.length_set] at h
    by_cases ip : i = p
    · exact absurd (congrArg (fun k => (k - 1) / 2) ip) n2
    · rw [List.getElem_set_ne (fun q => ip q.symm)]
      by_cases jp : (i - 1) / 2 = p
      · have : (l.set p (l[(p - 1) / 2]'(by omega)))[(i - 1) / 2]'(by rw [List.length_set]; omega) = l[(p - 1) / 2]'(by omega) := by
          simp only [jp, List.getElem_set_self]
        rw [this]
        exact H.2 i h h0 jp p0
      · rw [List.getElem_set_ne (fun q => jp q.symm)]
        exact H.1 i h h0 ip jp
  · rw [List.length_set] at h
    rw [List.getElem_set_ne (i := p) (j := ((p - 1) / 2 - 1) / 2) (by omega)]
    have a := H.1 ((p - 1) / 2) (by omega) q0 (by omega) (by omega)
    by_cases dp : d = p
    · subst dp
      rw [List.getElem_set_self]
      exact a
    · rw [List.getElem_set_ne (fun q => dp q.symm)]
      have b := H.1 d h h0 dp (by omega)
      simp only [e2] at b
      exact S.le_trans a b

/-- the word of _siftdown's loop, x the new item -/
noncomputable def SdInv (lt : α → α → Bool) (l : List α) (p : Nat) (x : α) : Prop :=
  HeapBut lt l p ∧ ∀ c (h : c < l.length), 0 < c → (c - 1) / 2 = p → lt l[c] x = false

theorem SdInv.leaf {l : List α} {p : Nat} {x : α} (H : HeapBut lt l p) (hl : l.length ≤ 2 * p + 1) : SdInv lt l p x :=
  ⟨H, fun c h h0 e => by omega⟩

theorem SdInv.step (S : STO lt) {l : List α} {p : Nat} {x : α} (H : SdInv lt l p x) (hp : p < l.length) (p0 : 0 < p) (hx : lt x (l[(p - 1) / 2]'(by omega)) = true) :
    SdInv lt (l.set p (l[(p - 1) / 2]'(by omega))) ((p - 1) / 2) x := by
  refine ⟨H.1.up S hp p0, fun c h h0 e => ?_⟩
  rw [List.length_set] at h
  by_cases cp : c = p
  · subst cp
    rw [List.getElem_set_self]
    exact S.asym hx
  · rw [List.getElem_set_ne (fun q => cp q.symm)]
    have := H.1.1 c h h0 cp (by omega)
    simp only [e] at this
    exact S.le_trans (S.asym hx) this

theorem SdInv.done {l : List α} {p : Nat} {x : α} (H : SdInv lt l p x) (hp : p < l.length) (hx : ∀ h : 0 < p, lt x (l[(p - 1) / 2]'(by omega)) = false) : IsHeap lt (l.set p x) := by
  intro i h h0
  rw [List.length_set] at h
  by_cases ip : i = p
  · subst ip
    rw [List.getElem_set_self, List.getElem_set_ne (by omega)]
    exact hx h0
  · rw [List.getElem_set_ne (fun q => ip q.symm)]
    by_cases jp : (i - 1) / 2 = p
    · have : (l.set p x)[(i - 1) / 2]'(by rw [List.length_set]; omega) = x := by simp only [jp, List.getElem_set_self]
      rw [this]
      exact H.2 i h h0 jp
    · rw [List.getElem_set_ne (fun q => jp q.symm)]
      exact H.1.1 i h h0 ip jp

theorem IsHeap.least (S : STO lt) {l : List α} (H : IsHeap lt l) : ∀ i (h : i < l.length), lt l[i] (l[0]'(by omega)) = false := by
  intro i
  induction i using Nat.strongRecOn with
  | _ i ih =>
    intro h
    by_cases i0 : i = 0
    · subst i0; exact S.irr _
    · exact S.le_trans (ih ((i - 1) / 2) (by omega) (by omega)) (H i h (by omega))

theorem perm_move {l : List α} {p c : Nat} {x : α} (hp : p < l.length) (hc : c < l.length) : ((l.set p l[c]).set c x).Perm (l.set p x) := by
  by_cases e : p = c
  · subst e; rw [List.set_getElem_self]
  · have h1 : p < (l.set p x).length := by rw [List.length_set]; exact hp
    have h2 : c < (l.set p x).length := by rw [List.length_set]; exact hc
    have := List.set_set_perm (as := l.set p x) h1 h2
    rw [List.getElem_set_self, List.getElem_set_ne e, List.set_set] at this
    exact this
end heap
end Mine
end
section
namespace Mine
noncomputable def iLt (a b : Int) : Bool := decide (a < b)
theorem iLt_sto : STO iLt := ⟨fun a => by simp [iLt], fun h1 h2 => by simp [iLt] at *; omega, fun h1 h2 => by simp [iLt] at *; omega⟩
noncomputable def lex2 {α β : Type} [DecidableEq α] (f : α → α → Bool) (g : β → β → Bool) (x y : α × β) : Bool := if x.1 = y.1 then g x.2 y.2 else f x.1 y.1
theorem lex2_sto {α β : Type} [DecidableEq α] {f : α → α → Bool} {g : β → β → Bool} (F : STO f) (G : STO g) : STO (lex2 f g) := by
  refine ⟨fun a => by simp [lex2, G.irr], ?_, ?_⟩
  · rintro ⟨a, a'⟩ ⟨b, b'⟩ ⟨c, c'⟩ h1 h2
    simp only [lex2] at *
    by_cases e1 : a = b
    · subst e1
      rw [if_pos rfl] at h1
      by_cases e2 : a = c
      · rw [if_pos e2] at h2 ⊢; exact G.tr h1 h2
      · rw [if_neg e2] at h2 ⊢; exact h2
    · rw [if_neg e1] at h1
      by_cases e2 : b = c
      · subst e2; rw [if_neg e1]; exact h1
      · rw [if_neg e2] at h2
        have h3 := F.tr h1 h2
        by_cases e3 : a = c
        · subst e3; rw [F.irr] at h3; cases h3
        · rw [if_neg e3]; exact h3
  · rintro ⟨a, a'⟩ ⟨b, b'⟩ h1 h2
    simp only [lex2] at *
    by_cases e : a = b
    · subst e
      rw [if_pos rfl] at h1 h2
      rw [G.tot h1 h2]
    · rw [if_neg e] at h1
      rw [if_neg (fun q => e q.symm)] at h2
      exact absurd (F.tot h1 h2) e
noncomputable def lexL {α : Type} [DecidableEq α] (f : α → α → Bool) : List α → List α → Bool
  | [], [] => false
  | [], _ :: _ => true
  | _ :: _, [] => false
  | x :: xs, y :: ys => if x = y then lexL f xs ys else f x y
theorem lexL_sto {α : Type} [DecidableEq α] {f : α → α → Bool} (F : STO f) : STO (lexL f) := by
  refine ⟨fun a => ?_, fun {a b c} => ?_, fun {a b} => ?_⟩
  · induction a with
    | nil => rfl
    | cons x xs ih => simp [lexL, ih]
  · induction a generalizing b c with
    | nil => intro h1 h2; cases b <;> cases c <;> simp_all [lexL]
    | cons x xs ih =>
      intro h1 h2
      cases b with
      | nil => simp [lexL] at h1
      | cons y ys =>
        cases c with
        | nil => simp [lexL] at h2
        | cons z zs =>
          simp only [lexL] at *
          by_cases e1 : x = y
          · subst e1
            rw [if_pos rfl] at h1
            by_cases e2 : x = z
            · rw [if_pos e2] at h2 ⊢; exact ih h1 h2
            · rw [if_neg e2] at h2 ⊢; exact h2
          · rw [if_neg e1] at h1
            by_cases e2 : y = z
            · subst e2; rw [if_neg e1]; exact h1
            · rw [if_neg e2] at h2
              have h3 := F.tr h1 h2
              by_cases e3 : x = z
              · subst e3; rw [F.irr] at h3; cases h3
              · rw [if_neg e3]; exact h3
  · induction a generalizing b with
    | nil => intro h1 h2; cases b <;> simp_all [lexL]
    | cons x xs ih =>
      intro h1 h2
      cases b with
      | nil => simp [lexL] at h2
      | cons y ys =>
        simp only [lexL] at *
        by_cases e : x = y
        · subst e
          rw [if_pos rfl] at h1 h2
          rw [ih h1 h2]
        · rw [if_neg e] at h1
          rw [if_neg (fun q => e q.symm)] at h2
          exact absurd (F.tot h1 h2) e
noncomputable abbrev Tri := Int × Int × Int
noncomputable abbrev En := Int × List Tri × Int
noncomputable def triLt : Tri → Tri → Bool := lex2 iLt (lex2 iLt iLt)
noncomputable def eLt : En → En → Bool := lex2 iLt (lex2 (lexL triLt) iLt)
theorem triLt_sto : STO triLt := lex2_sto iLt_sto (lex2_sto iLt_sto iLt_sto)
theorem eLt_sto : STO eLt := lex2_sto iLt_sto (lex2_sto (lexL_sto triLt_sto) iLt_sto)
end Mine
end
section
namespace Mine
/-- the length of the common stretch that ends at item lo + n - 1 of xs and at item j of ys, within xs[lo:] -/
noncomputable def Ln (xs ys : List Int) (lo : Nat) : Nat → Nat → Nat
  | 0, _ => 0
  | n + 1, j => if xs[lo + n]? = ys[j]? ∧ j < ys.length then (match j with | 0 => 0 | j' + 1 => Ln xs ys lo n j') + 1 else 0
section
variable {xs ys : List Int} {lo : Nat}
theorem Ln_le (n j : Nat) : Ln xs ys lo n j ≤ n ∧ Ln xs ys lo n j ≤ j + 1 := by
  induction n generalizing j with
  | zero => exact ⟨Nat.le_refl _, Nat.zero_le _⟩
  | succ n ih =>
    unfold Ln
    split
    · cases j with
      | zero => exact ⟨by simp, by simp⟩
      | succ j => have := ih j; dsimp only; omega
    · exact ⟨Nat.zero_le _, Nat.zero_le _⟩
theorem Ln_eq (n j r : Nat) (h : r < Ln xs ys lo n j) : xs[lo + n - 1 - r]? = ys[j - r]? ∧ j < ys.length := by
  induction n generalizing j r with
  | zero => exact absurd h (Nat.not_lt_zero _)
  | succ n ih =>
    have hl := Ln_le (xs := xs) (ys := ys) (lo := lo) n
    unfold Ln at h
    split at h
    · rename_i e
      cases r with
      | zero => exact ⟨by simpa using e.1, e.2⟩
      | succ r =>
        cases j with
        | zero => simp at h
        | succ j =>
          dsimp only at h
          have := ih j r (by omega)
          have h3 := hl j
          refine ⟨?_, e.2⟩
          rw [show lo + (n + 1) - 1 - (r + 1) = lo + n - 1 - r by omega, show j + 1 - (r + 1) = j - r by omega]
          exact this.1
    · exact absurd h (Nat.not_lt_zero _)
/-- the stretch xs[lo:lo+n] stands at p in ys -/
noncomputable def Whole (xs ys : List Int) (lo n p : Nat) : Prop := p + n ≤ ys.length ∧ ∀ r < n, xs[lo + r]? = ys[p + r]?
theorem Ln_whole (n p : Nat) (h : Whole xs ys lo (n + 1) p) : Ln xs ys lo (n + 1) (p + n) = n + 1 := by
  induction n with
  | zero =>
    unfold Ln
    have := h.2 0 (by omega)
    rw [if_pos ⟨by simpa using this, by have := h.1; omega⟩]
    cases p with
    | zero => rfl
    | succ p => rfl
  | succ n ih =>
    have h' : Whole xs ys lo (n + 1) p := ⟨by have := h.1; omega, fun r hr => h.2 r (by omega)⟩
    have e := ih h'
    have h2 := h.2 (n + 1) (by omega)
    unfold Ln
    rw [if_pos ⟨h2, by have := h.1; omega⟩]
    show Ln xs ys lo (n + 1) (p + n) + 1 = n + 1 + 1
    rw [e]
theorem whole_of_Ln {n j : Nat} (h : Ln xs ys lo (n + 1) j = n + 1) : n ≤ j ∧ Whole xs ys lo (n + 1) (j - n) := by
  have hl := Ln_le (xs := xs) (ys := ys) (lo := lo) (n + 1) j
  have hj : n ≤ j := by omega
  have h0 := Ln_eq (xs := xs) (ys := ys) (lo := lo) (n + 1) j 0 (by omega)
  refine ⟨hj, by omega, fun r hr => ?_⟩
  have := (Ln_eq (xs := xs) (ys := ys) (lo := lo) (n + 1) j (n - r) (by omega)).1
  rw [show lo + (n + 1) - 1 - (n - r) = lo + r by omega, show j - (n - r) = j - n + r by omega] at this
  exact this
/-- a block of like items, within xs[lo:hi] and ys -/
noncomputable def Blk (xs ys : List Int) (lo hi bi bj bk : Nat) : Prop := lo ≤ bi ∧ bi + bk ≤ hi ∧ bj + bk ≤ ys.length ∧ ∀ r < bk, xs[bi + r]? = ys[bj + r]?
theorem Blk.mono {hi hi' bi bj bk : Nat} (h : Blk xs ys lo hi bi bj bk) (hh : hi ≤ hi') : Blk xs ys lo hi' bi bj bk := ⟨h.1, Nat.le_trans h.2.1 hh, h.2.2⟩
theorem blk_of_Ln {n j k : Nat} (h : Ln xs ys lo n j = k) (hk : 0 < k) : Blk xs ys lo (lo + n) (lo + n - k) (j + 1 - k) k := by
  have hl := Ln_le (xs := xs) (ys := ys) (lo := lo) n j
  have h0 := Ln_eq (xs := xs) (ys := ys) (lo := lo) n j 0 (by omega)
  refine ⟨by omega, by omega, by omega, fun r hr => ?_⟩
  have := (Ln_eq (xs := xs) (ys := ys) (lo := lo) n j (k - 1 - r) (by omega)).1
  rw [show lo + n - 1 - (k - 1 - r) = lo + n - k + r by omega, show j - (k - 1 - r) = j + 1 - k + r by omega] at this
  exact this
/-- what the best block tells amid row n, places below J looked at -/
noncomputable def Row (xs ys : List Int) (lo n J bi bj bk : Nat) : Prop := Blk xs ys lo (lo + n + 1) bi bj bk ∧ ((∀ j < J, Ln xs ys lo (n + 1) j ≠ n + 1) → bk ≤ n) ∧
  ∀ j < J, Ln xs ys lo (n + 1) j = n + 1 → (∀ j' < j, Ln xs ys lo (n + 1) j' ≠ n + 1) → bk = n + 1 ∧ bi = lo ∧ bj = j - n
theorem Row.skip {n J bi bj bk : Nat} (h : Row xs ys lo n J bi bj bk) (hj : Ln xs ys lo (n + 1) J ≠ n + 1) : Row xs ys lo n (J + 1) bi bj bk := by
  refine ⟨h.1, fun q => h.2.1 fun j hj' => q j (by omega), fun j hj' e f => ?_⟩
  rcases Nat.lt_or_ge j J with g | g
  · exact h.2.2 j g e f
  · obtain rfl : j = J := by omega
    exact absurd e hj
theorem Row.skips {n J J' bi bj bk : Nat} (h : Row xs ys lo n J bi bj bk) (hJ : J ≤ J') (hj : ∀ j, J ≤ j → j < J' → Ln xs ys lo (n + 1) j ≠ n + 1) : Row xs ys lo n J' bi bj bk := by
  induction J' with
  | zero => obtain rfl : J = 0 := by omega
            exact h
  | succ J' ih =>
    rcases Nat.lt_or_ge J' J with g | g
    · obtain rfl : J = J' + 1 := by omega
      exact h
    · exact (ih g fun j a b => hj j a (by omega)).skip (hj J' g (by omega))
theorem Row.step {n J bi bj bk : Nat} (h : Row xs ys lo n J bi bj bk) : (bk < Ln xs ys lo (n + 1) J → Row xs ys lo n (J + 1) (lo + n + 1 - Ln xs ys lo (n + 1) J) (J + 1 - Ln xs ys lo (n + 1) J) (Ln xs ys lo (n + 1) J)) ∧ (¬ bk < Ln xs ys lo (n + 1) J → Row xs ys lo n (J + 1) bi bj bk) := by
  have hl := (Ln_le (xs := xs) (ys := ys) (lo := lo) (n + 1) J).1
  have none_of : bk < n + 1 → ∀ j < J, Ln xs ys lo (n + 1) j ≠ n + 1 := by
    intro hb j hj e
    have : ∃ j, j < J ∧ Ln xs ys lo (n + 1) j = n + 1 ∧ ∀ j' < j, Ln xs ys lo (n + 1) j' ≠ n + 1 := by
      clear hb
      induction j using Nat.strongRecOn with
      | ind j ih =>
        by_cases q : ∃ j' < j, Ln xs ys lo (n + 1) j' = n + 1
        · obtain ⟨j', a, b⟩ := q
          exact ih j' a (by omega) b
        · exact ⟨j, hj, e, fun j' hj' f => q ⟨j', hj', f⟩⟩
    obtain ⟨j, a, b, c⟩ := this
    have := (h.2.2 j a b c).1
    omega
  constructor
  · intro hb
    have hn := none_of (by omega)
    refine ⟨blk_of_Ln (n := n + 1) (j := J) (k := Ln xs ys lo (n + 1) J) rfl (Nat.lt_of_le_of_lt (Nat.zero_le _) hb), fun q => ?_, fun j hj e f => ?_⟩
    · have q2 : Ln xs ys lo (n + 1) J ≠ n + 1 := q J (Nat.lt_succ_self J)
      exact Nat.le_of_lt_succ (Nat.lt_of_le_of_ne hl q2)
    · rcases Nat.lt_or_ge j J with g | g
      · exact absurd e (hn j g)
      · obtain rfl : j = J := by omega
        rw [e]
        exact ⟨rfl, by omega, by omega⟩
  · intro hb
    by_cases e : Ln xs ys lo (n + 1) J = n + 1
    · refine ⟨h.1, fun q => absurd e (q J (by omega)), fun j hj e' f => ?_⟩
      rcases Nat.lt_or_ge j J with g | g
      · exact h.2.2 j g e' f
      · obtain rfl : j = J := by omega
        have := h.2.1 f
        omega
    · exact h.skip e
theorem Row.next {n J bi bj bk : Nat} (h : Row xs ys lo n J bi bj bk) : Row xs ys lo (n + 1) 0 bi bj bk := by
  refine ⟨h.1.mono (by omega), fun _ => ?_, fun j hj => absurd hj (Nat.not_lt_zero _)⟩
  have := h.1.1
  have := h.1.2.1
  omega
theorem Row.first : Row xs ys lo 0 0 lo 0 0 := ⟨⟨Nat.le_refl _, by omega, by omega, fun r hr => absurd hr (Nat.not_lt_zero _)⟩, fun _ => Nat.le_refl _, fun j hj => absurd hj (Nat.not_lt_zero _)⟩
/-- a whole stretch is told with its first place -/
theorem Row.whole {n bi bj bk p : Nat} (h : Row xs ys lo n ys.length bi bj bk) (hw : Whole xs ys lo (n + 1) p) (hf : ∀ q < p, ¬ Whole xs ys lo (n + 1) q) : bk = n + 1 ∧ bi = lo ∧ bj = p := by
  have e := Ln_whole n p hw
  have := h.2.2 (p + n) (by have := hw.1; omega) e ?_
  · exact ⟨this.1, this.2.1, by omega⟩
  · intro j' hj' e'
    have := whole_of_Ln e'
    exact hf (j' - n) (by omega) this.2
/-- a block that fills the row is a whole stretch -/
theorem Blk.whole {n bj : Nat} (h : Blk xs ys lo (lo + n) lo bj n) : Whole xs ys lo n bj := ⟨h.2.2.1, h.2.2.2⟩
theorem Blk.left {hi bi bj bk : Nat} (h : Blk xs ys lo hi bi bj bk) (h1 : lo < bi) (h2 : 0 < bj) (e : xs[bi - 1]? = ys[bj - 1]?) : Blk xs ys lo hi (bi - 1) (bj - 1) (bk + 1) := by
  obtain ⟨a, b, c, d⟩ := h
  refine ⟨by omega, by omega, by omega, fun r hr => ?_⟩
  cases r with
  | zero => exact e
  | succ r =>
    rw [show bi - 1 + (r + 1) = bi + r by omega, show bj - 1 + (r + 1) = bj + r by omega]
    exact d r (by omega)
theorem Blk.right {hi bi bj bk : Nat} (h : Blk xs ys lo hi bi bj bk) (h1 : bi + bk < hi) (h2 : bj + bk < ys.length) (e : xs[bi + bk]? = ys[bj + bk]?) : Blk xs ys lo hi bi bj (bk + 1) := by
  obtain ⟨a, b, c, d⟩ := h
  refine ⟨a, by omega, by omega, fun r hr => ?_⟩
  rcases Nat.lt_or_ge r bk with g | g
  · exact d r g
  · obtain rfl : r = bk := by omega
    exact e
end
/-- Ln at an int place; 0 below 0 -/
noncomputable def LnI (xs ys : List Int) (lo n : Nat) (j : Int) : Nat := if j < 0 then 0 else Ln xs ys lo n j.toNat
theorem LnI_zero {xs ys : List Int} {lo : Nat} (j : Int) : LnI xs ys lo 0 j = 0 := by unfold LnI; split <;> rfl
theorem Ln_at {xs ys : List Int} {lo n j : Nat} {v : Int} (h1 : xs[lo + n]? = some v) (h2 : ys[j]? = some v) : Ln xs ys lo (n + 1) j = LnI xs ys lo n ((j : Int) - 1) + 1 := by
  have hj : j < ys.length := by
    rcases Nat.lt_or_ge j ys.length with q | q
    · exact q
    · rw [List.getElem?_eq_none q] at h2; cases h2
  unfold Ln LnI
  rw [if_pos ⟨by rw [h1, h2], hj⟩]
  cases j with
  | zero => rfl
  | succ j =>
    rw [if_neg (by omega), show (((j + 1 : Nat) : Int) - 1).toNat = j by omega]
theorem Ln_off {xs ys : List Int} {lo n j : Nat} {v : Int} (h1 : xs[lo + n]? = some v) (h2 : ys[j]? ≠ some v) : Ln xs ys lo (n + 1) j = 0 := by
  unfold Ln
  rw [if_neg]
  rintro ⟨a, b⟩
  exact h2 (by rw [← a, h1])
end Mine
end
section
namespace Mine
noncomputable abbrev Way := Int × List Tri
noncomputable def wLt : Way → Way → Bool := lex2 iLt (lexL triLt)
theorem wLt_sto : STO wLt := lex2_sto iLt_sto (lexL_sto triLt_sto)
/-- the entry of the heap -/
noncomputable abbrev enOf (v : Way) (e : Nat) : En := (v.1, v.2, (e : Int))
noncomputable def oneW (xs : List Int) (v : Way) (b : Nat) : Way := (v.1 + 1 + (xs.getD b 0).fmod 3, v.2 ++ [((b : Int), (b : Int) + 1, (-1 : Int))])
noncomputable def cpyW (fee : Int) (v : Way) (b e j : Nat) : Way := (v.1 + fee, v.2 ++ [((b : Int), (e : Int), (j : Int))])
/-- a way to e whose last piece begins at b -/
noncomputable def Cand (xs ys : List Int) (fee : Int) (W : Nat → Way) (e b : Nat) (v : Way) : Prop := (b + 1 = e ∧ v = oneW xs (W b) b) ∨ ∃ j, Whole xs ys b (e - b) j ∧ v = cpyW fee (W b) b e j
noncomputable def BestAt (xs ys : List Int) (fee : Int) (W : Nat → Way) (e : Nat) : Prop := (∃ b, b < e ∧ Cand xs ys fee W e b (W e)) ∧ ∀ b, b < e → ∀ v, Cand xs ys fee W e b v → wLt v (W e) = false
/-- the table of the best ways -/
noncomputable def Best (xs ys : List Int) (fee : Int) (n : Nat) (W : Nat → Way) : Prop := W 0 = (0, []) ∧ ∀ e, 0 < e → e ≤ n → BestAt xs ys fee W e
section
variable {xs ys : List Int} {fee : Int} {W : Nat → Way} {n : Nat}
theorem wLt_cost {v u : Way} (h : v.1 < u.1) : wLt v u = true := by
  unfold wLt lex2 iLt
  rw [if_neg (by omega)]
  simpa using h
theorem wLt_cost_le {v u : Way} (h : wLt v u = false) : u.1 ≤ v.1 := by
  by_cases q : v.1 < u.1
  · rw [wLt_cost q] at h; cases h
  · omega
theorem lexL_last {α : Type} [DecidableEq α] {f : α → α → Bool} (l : List α) (a b : α) (h : a ≠ b) : lexL f (l ++ [a]) (l ++ [b]) = f a b := by
  induction l with
  | nil => simp [lexL, h]
  | cons x xs ih => simp only [List.cons_append, lexL, if_true]; exact ih
theorem cpyW_lt {v : Way} {b e j j' : Nat} (h : j < j') : wLt (cpyW fee v b e j) (cpyW fee v b e j') = true := by
  unfold wLt cpyW lex2
  simp only [if_true]
  rw [lexL_last _ _ _ (by intro q; simp at q; omega)]
  simp [triLt, lex2, iLt]
  omega
/-- the stretch from b of length t stands at j first -/
noncomputable def First (xs ys : List Int) (b t j : Nat) : Prop := Whole xs ys b t j ∧ ∀ q, q < j → ¬ Whole xs ys b t q
theorem first_of {b t j : Nat} (h : Whole xs ys b t j) : ∃ p, First xs ys b t p := by
  induction j using Nat.strongRecOn with
  | ind j ih =>
    by_cases q : ∃ j', j' < j ∧ Whole xs ys b t j'
    · obtain ⟨j', a, c⟩ := q
      exact ih j' a c
    · exact ⟨j, h, fun p hp hw => q ⟨p, hp, hw⟩⟩
theorem First.same {b t j j' : Nat} (h : First xs ys b t j) (h' : First xs ys b t j') : j = j' := by
  rcases Nat.lt_trichotomy j j' with q | q | q
  · exact absurd h.1 (h'.2 _ q)
  · exact q
  · exact absurd h'.1 (h.2 _ q)
theorem Whole.shorter {b t t' j : Nat} (h : Whole xs ys b t j) (ht : t' ≤ t) : Whole xs ys b t' j := ⟨by have := h.1; omega, fun r hr => h.2 r (by omega)⟩
theorem fmod3_nonneg (x : Int) : 0 ≤ x.fmod 3 := by rw [Int.fmod_eq_emod_of_nonneg _ (by omega)]; omega
theorem Cand.dearer (hf : 1 ≤ fee) {e b : Nat} {v : Way} (h : Cand xs ys fee W e b v) : (W b).1 < v.1 := by
  rcases h with ⟨_, rfl⟩ | ⟨j, _, rfl⟩
  · have := fmod3_nonneg (xs.getD b 0)
    simp only [oneW]; omega
  · simp only [cpyW]; omega

/-- an entry that may stand in the heap -/
noncomputable def OkE (W : Nat → Way) (n : Nat) (x : En) : Prop := ∃ e : Nat, x.2.2 = (e : Int) ∧ e ≤ n ∧ wLt (x.1, x.2.1) (W e) = false
/-- an entry that b's turn lays into the heap -/
noncomputable def Ext (xs ys : List Int) (fee : Int) (W : Nat → Way) (n b : Nat) (y : En) (e : Nat) : Prop := (e = b + 1 ∧ y = enOf (oneW xs (W b) b) e) ∨ ∃ t j, 0 < t ∧ b + t ≤ n ∧ e = b + t ∧ First xs ys b t j ∧ y = enOf (cpyW fee (W b) b e j) e
structure Inv (xs ys : List Int) (fee : Int) (W : Nat → Way) (n : Nat) (H : List En) (D : List Nat) : Prop where
  nodup : D.Nodup
  lt : ∀ b ∈ D, b < n
  ok : ∀ x ∈ H, OkE W n x
  ext : ∀ b ∈ D, ∀ y e, Ext xs ys fee W n b y e → e ∉ D → y ∈ H
  zero : 0 ∉ D → enOf (0, []) 0 ∈ H
/-- a best entry waits -/
theorem Inv.waits {H : List En} {D : List Nat} (B : Best xs ys fee n W) (hf : 1 ≤ fee) (I : Inv xs ys fee W n H D) : ∀ e, e ≤ n → e ∉ D → ∃ e', e' ≤ n ∧ e' ∉ D ∧ enOf (W e') e' ∈ H ∧ (e' = e ∨ (W e').1 < (W e).1) := by
  intro e
  induction e using Nat.strongRecOn with
  | ind e ih =>
    intro he hD
    rcases Nat.eq_zero_or_pos e with rfl | e0
    · exact ⟨0, he, hD, by rw [B.1]; exact I.zero hD, .inl rfl⟩
    obtain ⟨⟨b, hb, hc⟩, hl⟩ := B.2 e e0 he
    by_cases bD : b ∈ D
    · refine ⟨e, he, hD, ?_, .inl rfl⟩
      refine I.ext b bD _ e ?_ hD
      rcases hc with ⟨h1, h2⟩ | ⟨j, h1, h2⟩
      · exact .inl ⟨h1.symm, by rw [h2]⟩
      · obtain ⟨p, hp⟩ := first_of h1
        refine .inr ⟨e - b, p, by omega, by omega, by omega, hp, ?_⟩
        have hjp : p = j := by
          rcases Nat.lt_trichotomy p j with q | q | q
          · have := hl b hb (cpyW fee (W b) b e p) (.inr ⟨p, hp.1, rfl⟩)
            rw [h2, cpyW_lt q] at this; cases this
          · exact q
          · exact absurd h1 (hp.2 _ q)
        rw [h2, hjp]
    · obtain ⟨e', h1, h2, h3, h4⟩ := ih b hb (by omega) bD
      refine ⟨e', h1, h2, h3, .inr ?_⟩
      have := hc.dearer hf
      rcases h4 with rfl | h4 <;> omega
theorem eLt_of_cost {x y : En} (h : x.1 < y.1) : eLt x y = true := by
  unfold eLt lex2 iLt
  rw [if_neg (by omega)]
  simpa using h
theorem eLt_same {v u : Way} {e : Int} (h : wLt v u = true) : eLt (v.1, v.2, e) (u.1, u.2, e) = true := by
  unfold wLt lex2 at h
  unfold eLt lex2
  dsimp only at h ⊢
  by_cases q : v.1 = u.1
  · rw [if_pos q] at h
    rw [if_pos q]
    by_cases r : v.2 = u.2
    · rw [r, (lexL_sto triLt_sto).irr] at h; cases h
    · rw [if_neg r]; exact h
  · rw [if_neg q] at h ⊢; exact h
/-- the top, its place not done, is the best way -/
theorem Inv.top {H : List En} {D : List Nat} (B : Best xs ys fee n W) (hf : 1 ≤ fee) (I : Inv xs ys fee W n H D) (hH : IsHeap eLt H) (h0 : 0 < H.length) {e : Nat} (he : H[0].2.2 = (e : Int)) (hD : e ∉ D) : e ≤ n ∧ H[0] = enOf (W e) e := by
  obtain ⟨e1, a1, a2, a3⟩ := I.ok H[0] (List.getElem_mem h0)
  obtain rfl : e1 = e := by omega
  refine ⟨a2, ?_⟩
  obtain ⟨e', b1, b2, b3, b4⟩ := I.waits B hf e1 a2 hD
  obtain ⟨i, hi, hx⟩ := List.mem_iff_getElem.mp b3
  have hl := hH.least eLt_sto i hi
  rw [hx] at hl
  have e0 : H[0] = ((H[0].1, H[0].2.1).1, (H[0].1, H[0].2.1).2, (e1 : Int)) := by rw [← he]
  rcases b4 with rfl | b4
  · have hw : wLt (W e') (H[0].1, H[0].2.1) = false := by
      cases q : wLt (W e') (H[0].1, H[0].2.1) with
      | false => rfl
      | true =>
        have := eLt_same (e := (e' : Int)) q
        rw [e0] at hl
        rw [show enOf (W e') e' = ((W e').1, (W e').2, (e' : Int)) from rfl, this] at hl; cases hl
    have := wLt_sto.tot a3 hw
    rw [e0, this]
  · have := wLt_cost_le a3
    rw [eLt_of_cost (show (enOf (W e') e').1 < H[0].1 by dsimp only [enOf] at *; omega)] at hl; cases hl
theorem Inv.start (h : W 0 = (0, [])) : Inv xs ys fee W n [enOf (0, []) 0] [] := by
  refine ⟨List.nodup_nil, (fun _ h => nomatch h), fun x hx => ?_, (fun _ h => nomatch h), fun _ => List.mem_singleton.mpr rfl⟩
  obtain rfl := List.mem_singleton.mp hx
  exact ⟨0, rfl, Nat.zero_le _, by rw [h]; exact wLt_sto.irr _⟩
theorem Inv.nonempty {H : List En} {D : List Nat} (B : Best xs ys fee n W) (hf : 1 ≤ fee) (I : Inv xs ys fee W n H D) : 0 < H.length := by
  obtain ⟨e', _, _, h, _⟩ := I.waits B hf n (Nat.le_refl _) (fun h => Nat.lt_irrefl _ (I.lt n h))
  exact List.length_pos_of_mem h
/-- a place that is done goes out -/
theorem Inv.pop {H H' : List En} {D : List Nat} (B : Best xs ys fee n W) (hf : 1 ≤ fee) (I : Inv xs ys fee W n H D) (h0 : 0 < H.length) {e : Nat} (he : H[0].2.2 = (e : Int)) (hD : e ∈ D) (hP : (H[0] :: H').Perm H) : Inv xs ys fee W n H' D ∧ 0 < H'.length := by
  have sub : ∀ y ∈ H, y.2.2 ≠ (e : Int) → y ∈ H' := by
    intro y hy hn
    rcases List.mem_cons.mp (hP.mem_iff.mpr hy) with rfl | h
    · exact absurd he hn
    · exact h
  have I' : Inv xs ys fee W n H' D := by
    refine ⟨I.nodup, I.lt, fun x hx => I.ok x (hP.mem_iff.mp (.tail _ hx)), fun b hb y e' hy hn => sub y (I.ext b hb y e' hy hn) ?_, fun hz => sub _ (I.zero hz) ?_⟩
    · have : y.2.2 = (e' : Int) := by
        rcases hy with ⟨_, rfl⟩ | ⟨_, _, _, _, _, _, rfl⟩ <;> rfl
      rw [this]
      intro q
      exact hn (by rw [show e' = e by omega]; exact hD)
    · intro q
      have : e = 0 := by simp at q; omega
      rw [this] at hD
      exact hz hD
  exact ⟨I', I'.nonempty B hf⟩
/-- the state amid b's turn: the stretches up to t are in the heap -/
structure InvX (xs ys : List Int) (fee : Int) (W : Nat → Way) (n : Nat) (H : List En) (D : List Nat) (b t : Nat) : Prop where
  nodup : (D ++ [b]).Nodup
  lt : ∀ d ∈ D ++ [b], d < n
  ok : ∀ x ∈ H, OkE W n x
  ext : ∀ d ∈ D, ∀ y e, Ext xs ys fee W n d y e → e ∉ D ++ [b] → y ∈ H
  one : enOf (oneW xs (W b) b) (b + 1) ∈ H
  cpy : ∀ t' j, 0 < t' → t' ≤ t → First xs ys b t' j → enOf (cpyW fee (W b) b (b + t') j) (b + t') ∈ H
  zero : 0 ∉ D ++ [b] → enOf (0, []) 0 ∈ H
theorem Inv.expand {H H' : List En} {D : List Nat} (B : Best xs ys fee n W) (I : Inv xs ys fee W n H D) (h0 : 0 < H.length) {b : Nat} (he : H[0] = enOf (W b) b) (hb : b < n) (hD : b ∉ D) (hP : (H[0] :: H').Perm (enOf (oneW xs (W b) b) (b + 1) :: H)) : InvX xs ys fee W n H' D b 0 := by
  have sub : ∀ y, (y = enOf (oneW xs (W b) b) (b + 1) ∨ y ∈ H) → y.2.2 ≠ (b : Int) → y ∈ H' := by
    intro y hy hn
    rcases List.mem_cons.mp (hP.mem_iff.mpr (List.mem_cons.mpr hy)) with rfl | h
    · rw [he] at hn; exact absurd rfl hn
    · exact h
  refine ⟨?_, ?_, ?_, ?_, ?_, ?_, ?_⟩
  · rw [List.nodup_append]
    exact ⟨I.nodup, by simp, fun a ha c hc => by rcases List.mem_singleton.mp hc with rfl; rintro rfl; exact hD ha⟩
  · intro d hd
    rcases List.mem_append.mp hd with hd | hd
    · exact I.lt d hd
    · rcases List.mem_singleton.mp hd with rfl; exact hb
  · intro x hx
    rcases List.mem_cons.mp (hP.mem_iff.mp (.tail _ hx)) with rfl | h
    · refine ⟨b + 1, rfl, by omega, ?_⟩
      exact (B.2 (b + 1) (by omega) (by omega)).2 b (by omega) _ (.inl ⟨rfl, rfl⟩)
    · exact I.ok x h
  · intro d hd y e hy hn
    refine sub y (.inr (I.ext d hd y e hy fun q => hn (List.mem_append.mpr (.inl q)))) ?_
    have : y.2.2 = (e : Int) := by
      rcases hy with ⟨_, rfl⟩ | ⟨_, _, _, _, _, _, rfl⟩ <;> rfl
    rw [this]
    intro q
    exact hn (List.mem_append.mpr (.inr (List.mem_singleton.mpr (by omega))))
  · exact sub _ (.inl rfl) (by simp; omega)
  · intro t' j h1 h2; omega
  · intro hz
    refine sub _ (.inr (I.zero fun q => hz (List.mem_append.mpr (.inl q)))) ?_
    intro q
    refine hz (List.mem_append.mpr (.inr (List.mem_singleton.mpr ?_)))
    simp at q; omega
theorem InvX.push {H H' : List En} {D : List Nat} {b t j : Nat} (B : Best xs ys fee n W) (I : InvX xs ys fee W n H D b t) (ht : b + (t + 1) ≤ n) (hj : First xs ys b (t + 1) j) (hP : H'.Perm (enOf (cpyW fee (W b) b (b + (t + 1)) j) (b + (t + 1)) :: H)) : InvX xs ys fee W n H' D b (t + 1) := by
  have sub : ∀ y ∈ H, y ∈ H' := fun y hy => hP.mem_iff.mpr (.tail _ hy)
  refine ⟨I.nodup, I.lt, ?_, fun d hd y e hy hn => sub y (I.ext d hd y e hy hn), sub _ I.one, ?_, fun hz => sub _ (I.zero hz)⟩
  · intro x hx
    rcases List.mem_cons.mp (hP.mem_iff.mp hx) with rfl | h
    · refine ⟨b + (t + 1), rfl, ht, ?_⟩
      refine (B.2 (b + (t + 1)) (by omega) ht).2 b (by omega) _ (.inr ⟨j, ?_, rfl⟩)
      rw [show b + (t + 1) - b = t + 1 by omega]; exact hj.1
    · exact I.ok x h
  · intro t' j' h1 h2 h3
    rcases Nat.lt_or_ge t' (t + 1) with q | q
    · exact sub _ (I.cpy t' j' h1 (by omega) h3)
    · obtain rfl : t' = t + 1 := by omega
      rw [h3.same hj]
      exact hP.mem_iff.mpr (.head _)
theorem InvX.done {H : List En} {D : List Nat} {b t : Nat} (I : InvX xs ys fee W n H D b t) (h : b + t = n ∨ ∀ j, ¬ Whole xs ys b (t + 1) j) : Inv xs ys fee W n H (D ++ [b]) := by
  refine ⟨I.nodup, I.lt, I.ok, ?_, I.zero⟩
  intro d hd y e hy hn
  rcases List.mem_append.mp hd with hd | hd
  · exact I.ext d hd y e hy hn
  · rcases List.mem_singleton.mp hd with rfl
    rcases hy with ⟨rfl, rfl⟩ | ⟨t', j, h1, h2, rfl, h4, rfl⟩
    · exact I.one
    · refine I.cpy t' j h1 ?_ h4
      rcases h with h | h
      · omega
      · rcases Nat.lt_or_ge t t' with q | q
        · exact absurd (h4.1.shorter q) (h j)
        · exact q
theorem Inv.result {H : List En} {D : List Nat} (B : Best xs ys fee n W) (hf : 1 ≤ fee) (I : Inv xs ys fee W n H D) (hH : IsHeap eLt H) (h0 : 0 < H.length) (he : (n : Int) ≤ H[0].2.2) : H[0] = enOf (W n) n := by
  obtain ⟨e, a1, a2, a3⟩ := I.ok H[0] (List.getElem_mem h0)
  obtain rfl : e = n := by omega
  exact (I.top B hf hH h0 a1 fun h => Nat.lt_irrefl _ (I.lt e h)).2
theorem nodup_card : ∀ (n : Nat) (D : List Nat), D.Nodup → (∀ b ∈ D, b < n) → D.length ≤ n := by
  intro n
  induction n with
  | zero =>
    intro D _ hl
    cases D with
    | nil => exact Nat.le_refl _
    | cons a r => exact absurd (hl a (.head _)) (Nat.not_lt_zero _)
  | succ n ih =>
    intro D h hl
    have := ih (D.erase n) (h.erase n) fun b hb => by
      have h1 := (h.mem_erase_iff.mp hb)
      have := hl b h1.2
      have := h1.1
      omega
    rw [List.length_erase] at this
    split at this <;> omega
theorem least_of {α : Type} {lt : α → α → Bool} (S : STO lt) : ∀ l : List α, l ≠ [] → ∃ m ∈ l, ∀ c ∈ l, lt c m = false
  | [], h => absurd rfl h
  | [a], _ => ⟨a, .head _, fun c hc => by rcases List.mem_singleton.mp hc with rfl; exact S.irr _⟩
  | a :: b :: r, _ => by
    obtain ⟨m, hm, hl⟩ := least_of S (b :: r) (by simp)
    cases q : lt a m with
    | false => exact ⟨m, .tail _ hm, fun c hc => by rcases List.mem_cons.mp hc with rfl | hc; exact q; exact hl c hc⟩
    | true => exact ⟨a, .head _, fun c hc => by rcases List.mem_cons.mp hc with rfl | hc; exact S.irr _; exact S.le_trans (S.asym q) (hl c hc)⟩
theorem Cand.congr {W' : Nat → Way} {e b : Nat} {v : Way} (h : Cand xs ys fee W e b v) (q : W' b = W b) : Cand xs ys fee W' e b v := by
  unfold Cand at *
  rw [q]; exact h
open Classical in
noncomputable def candL (xs ys : List Int) (fee : Int) (W : Nat → Way) (e : Nat) : List Way := (List.range e).flatMap fun b => (if b + 1 = e then [oneW xs (W b) b] else []) ++ ((List.range (ys.length + 1)).filter fun j => decide (Whole xs ys b (e - b) j)).map fun j => cpyW fee (W b) b e j
open Classical in
theorem mem_candL {e : Nat} {v : Way} : v ∈ candL xs ys fee W e ↔ ∃ b, b < e ∧ Cand xs ys fee W e b v := by
  unfold candL Cand
  rw [List.mem_flatMap]
  constructor
  · rintro ⟨b, hb, h⟩
    refine ⟨b, List.mem_range.mp hb, ?_⟩
    rcases List.mem_append.mp h with h | h
    · split at h
      · rename_i q
        exact .inl ⟨q, List.mem_singleton.mp h⟩
      · cases h
    · obtain ⟨j, hj, rfl⟩ := List.mem_map.mp h
      exact .inr ⟨j, of_decide_eq_true (List.mem_filter.mp hj).2, rfl⟩
  · rintro ⟨b, hb, h⟩
    refine ⟨b, List.mem_range.mpr hb, List.mem_append.mpr ?_⟩
    rcases h with ⟨q, rfl⟩ | ⟨j, hj, rfl⟩
    · rw [if_pos q]; exact .inl (.head _)
    · exact .inr (List.mem_map.mpr ⟨j, List.mem_filter.mpr ⟨List.mem_range.mpr (by have := hj.1; omega), decide_eq_true hj⟩, rfl⟩)
theorem best_exists (xs ys : List Int) (fee : Int) : ∀ n, ∃ W, Best xs ys fee n W := by
  intro n
  induction n with
  | zero => exact ⟨fun _ => (0, []), rfl, fun e h1 h2 => by omega⟩
  | succ n ih =>
    obtain ⟨W, B⟩ := ih
    have hne : candL xs ys fee W (n + 1) ≠ [] := by
      intro h
      have : oneW xs (W n) n ∈ candL xs ys fee W (n + 1) := mem_candL.mpr ⟨n, by omega, .inl ⟨rfl, rfl⟩⟩
      rw [h] at this; cases this
    obtain ⟨m, hm, hl⟩ := least_of wLt_sto _ hne
    have low : ∀ b, b ≤ n → (fun e => if e = n + 1 then m else W e) b = W b := fun b hb => if_neg (by omega)
    refine ⟨fun e => if e = n + 1 then m else W e, (low 0 (by omega)).trans B.1, fun e h0 he => ?_⟩
    rcases Nat.lt_or_ge n e with q | q
    · obtain rfl : e = n + 1 := by omega
      obtain ⟨b, hb, hc⟩ := mem_candL.mp hm
      refine ⟨⟨b, hb, ?_⟩, fun b hb v hv => ?_⟩
      · show Cand xs ys fee _ (n + 1) b (if n + 1 = n + 1 then m else W (n + 1))
        rw [if_pos rfl]
        exact hc.congr (low b (by omega))
      · show wLt v (if n + 1 = n + 1 then m else W (n + 1)) = false
        rw [if_pos rfl]
        exact hl v (mem_candL.mpr ⟨b, hb, hv.congr (low b (by omega)).symm⟩)
    · obtain ⟨⟨b, hb, hc⟩, h2⟩ := B.2 e h0 q
      refine ⟨⟨b, hb, ?_⟩, fun b hb v hv => ?_⟩
      · rw [low e q]
        exact hc.congr (low b (by omega))
      · rw [low e q]
        exact h2 b hb v (hv.congr (low b (by omega)).symm)
end
end Mine
end
section
open PySem PySem.W PyProof.Rows
namespace Mine
open PySem.SeqAt
open PySem.AutoSeq1 (wpAny_loadPart')
open PySem.MeetsSeq PySem.MeetsSeq2 PySem.MeetsSeq3 PySem.SeqRoads2

noncomputable def LtAt (A : Around) (s : Shared) (y x : Value) (b : Bool) : Prop :=
  ∀ (prog : Program) (w : World) (E : Value → Shared → Prop) (Q : Value → Shared → Prop), Q (.bool b) s → wpAny (model prog w) A (richCompare .Lt y x) Q E s

noncomputable def lexB (e f : Nat → Bool) (fin : Bool) : List Nat → Bool
  | [] => fin
  | i :: r => if e i then lexB e f fin r else f i

set_option maxRecDepth 100000 in
set_option maxHeartbeats 4000000 in
theorem tuple_ltAt (l b : Addr) (items items2 : Array Value) (n n2 : Nat) (dd dd2 : Option Addr) (sl sl2 : Array (Option Value)) (e f : Nat → Bool) :
    Meets (Builtin.«tuple.__lt__» ⟨[.ref l, .ref b], []⟩)
      (fun A R s => s.heap.get? l = some { cls := .type "tuple", dict := dd, data := .seq items n, slots := sl } ∧ s.heap.get? b = some { cls := .type "tuple", dict := dd2, data := .seq items2 n2, slots := sl2 } ∧
        (∀ j (h1 : j < items.size) (h2 : j < items2.size), EqAt A.in1 s items[j] items2[j] (e j)) ∧
        (∀ j (h1 : j < items.size) (h2 : j < items2.size), e j = false → LtAt A.in1 s items[j] items2[j] (f j)) ∧
        R (.ok (.ret (.bool (lexB e f (decide (items.size < items2.size)) (List.range (min items.size items2.size)))))) s) :=
  .of_wp fun prog w A R s h => by
    obtain ⟨hp, g, d, tk, os⟩ := s; obtain ⟨hl, hb, he, hf, h⟩ := h
    have f2 := AutoSeq1.sub_tuple_tuple
    have hZ : (items.toList.zip items2.toList).length = min items.size items2.size := by simp
    wp_walk using wpAny_loadPart' hl, wpAny_loadPart' hb, wpAny_forIn_list _ (fun rest b s' => b.1 = none ∧ s' = ⟨hp, g, d, tk, os⟩ ∧ ∃ i, rest = (items.toList.zip items2.toList).drop i ∧
      R (.ok (.ret (.bool (lexB e f (decide (items.size < items2.size)) ((List.range (min items.size items2.size)).drop i))))) ⟨hp, g, d, tk, os⟩) _
    case turn =>
      rintro ⟨y, x⟩ rest b s' ⟨hb', rfl, i, hz, hR⟩
      have hlt : i < (items.toList.zip items2.toList).length := by
        rcases Nat.lt_or_ge i (items.toList.zip items2.toList).length with h' | h'
        · exact h'
        · rw [List.drop_of_length_le h'] at hz; cases hz
      have hm : i < min items.size items2.size := hZ ▸ hlt
      have h1 : i < items.size := Nat.lt_of_lt_of_le hm (Nat.min_le_left _ _)
      have h2 : i < items2.size := Nat.lt_of_lt_of_le hm (Nat.min_le_right _ _)
      rw [List.drop_eq_getElem_cons hlt] at hz
      injection hz with hyx hrest
      have hy : y = items[i] := by have := congrArg Prod.fst hyx; simpa using this
      have hx : x = items2[i] := by have := congrArg Prod.snd hyx; simpa using this
      subst hy hx
      have hd : (List.range (min items.size items2.size)).drop i = i :: (List.range (min items.size items2.size)).drop (i + 1) := by simp [List.drop_eq_getElem_cons, hm]
      rw [hd, lexB] at hR
      refine wpAny_bind (he i h1 h2 prog w _ _ ?_)
      cases hy : e i with
      | true =>
        rw [hy] at hR
        wp_walk
        exact ⟨rfl, rfl, i + 1, hrest, by simpa using hR⟩
      | false =>
        rw [hy] at hR
        simp only [Bool.false_eq_true, if_false] at hR
        have hg : ∀ (E : Value → Shared → Prop) (Q : Value → Shared → Prop), Q (.bool (f i)) ⟨hp, g, d, tk, os⟩ → wpAny (model prog w) A.in1 (richCompare .Lt items[i] items2[i]) Q E ⟨hp, g, d, tk, os⟩ := fun E Q => hf i h1 h2 hy prog w E Q
        wp_walk using hg
        exact ⟨_, rfl, by simpa using hR⟩
    case fin =>
      rintro ⟨b1, b2⟩ s' ⟨hb', rfl, i, hz, hR⟩
      simp only at hb'
      subst hb'
      have hge : min items.size items2.size ≤ i := by
        rcases Nat.lt_or_ge i (items.toList.zip items2.toList).length with h' | h'
        · rw [List.drop_eq_getElem_cons h'] at hz; cases hz
        · exact hZ ▸ h'
      rw [List.drop_of_length_le (by simpa using hge)] at hR
      wp_walk
      exact ⟨_, rfl, by simpa [Builtin.Tuple.tupleCompareSizes, lexB] using hR⟩
    case h =>
      exact ⟨rfl, rfl, 0, rfl, by simpa using h⟩

theorem LtAt.tuples {A : Around} {s : Shared} {l b : Addr} {items items2 : Array Value} {e f : Nat → Bool} (hl : s.heap.IsTuple l items) (hb : s.heap.IsTuple b items2) (hu : A.units < cLine)
    (he : ∀ j (h1 : j < items.size) (h2 : j < items2.size), EqAt A.in1 s items[j] items2[j] (e j))
    (hf : ∀ j (h1 : j < items.size) (h2 : j < items2.size), e j = false → LtAt A.in1 s items[j] items2[j] (f j)) :
    LtAt A s (.ref l) (.ref b) (lexB e f (decide (items.size < items2.size)) (List.range (min items.size items2.size))) := fun prog w E Q h => by
  obtain ⟨⟨cls, dd, data, sl⟩, ho, hc, n, hd⟩ := id hl
  obtain ⟨⟨cls2, dd2, data2, sl2⟩, ho2, hc2, n2, hd2⟩ := id hb
  simp only at hc hd hc2 hd2
  subst hc hd hc2 hd2
  exact richCompare_meets_room (op := .Lt) ⟨_, ho, rfl⟩ ⟨_, ho2, rfl⟩ F.slot_tuple_lt F.entry_tuple_lt (F.args_tuple_lt_2 _ _) (tuple_ltAt l b items items2 n n2 dd dd2 sl sl2 e f)
    ⟨ho, ho2, he, hf, show Value.bool _ ≠ Value.notImplemented ∧ Q (.bool _) s from ⟨(fun x => nomatch x), h⟩⟩ hu

theorem LtAt.ints {A : Around} {s : Shared} {a b : Int} {t u : Tok} : LtAt A s (.int a t) (.int b u) (decide (a < b)) := fun prog w E Q h => by
  exact lt_int h

mutual
noncomputable def dLt : PyData → PyData → Bool
  | .int a, .int b => decide (a < b)
  | .tuple xs, .tuple ys => dLtAll xs ys
  | _, _ => false
noncomputable def dLtAll : List PyData → List PyData → Bool
  | [], [] => false
  | [], _ :: _ => true
  | _ :: _, [] => false
  | x :: xs, y :: ys => if PyData.eqv x y then dLtAll xs ys else dLt x y
end
mutual
noncomputable def cmpOk : PyData → PyData → Bool
  | .int _, .int _ => true
  | .tuple xs, .tuple ys => cmpOkAll xs ys
  | _, _ => false
noncomputable def cmpOkAll : List PyData → List PyData → Bool
  | x :: xs, y :: ys => cmpOk x y && cmpOkAll xs ys
  | _, _ => true
end

noncomputable abbrev pairLt (xs ys : List PyData) (j : Nat) : Bool := dLt (xs.getD j .none) (ys.getD j .none)
theorem lexB_map {e f : Nat → Bool} {fin : Bool} (g : Nat → Nat) : ∀ l : List Nat, lexB e f fin (l.map g) = lexB (fun i => e (g i)) (fun i => f (g i)) fin l
  | [] => rfl
  | i :: l => by rw [List.map_cons, lexB, lexB, lexB_map g l]
theorem dLtAll_eq : ∀ xs ys : List PyData, lexB (pairEq xs ys) (pairLt xs ys) (decide (xs.length < ys.length)) (List.range (min xs.length ys.length)) = dLtAll xs ys
  | [], [] => by simp [lexB, dLtAll]
  | [], _ :: _ => by simp [lexB, dLtAll]
  | _ :: _, [] => by simp [lexB, dLtAll]
  | x :: xs, y :: ys => by
    have ih := dLtAll_eq xs ys
    have e1 : min (x :: xs).length (y :: ys).length = min xs.length ys.length + 1 := by simp only [List.length_cons]; omega
    have e2 : decide ((x :: xs).length < (y :: ys).length) = decide (xs.length < ys.length) := by simp
    rw [e1, e2, List.range_succ_eq_map, lexB, lexB_map, dLtAll, ← ih]
    rfl

mutual
theorem ltAt_reads : ∀ (da db : PyData) (A : Around) (s : Shared) (a b : Value) (as bs : List Addr), Reads s.heap a da as → Reads s.heap b db bs → da.canLay0 = true → db.canLay0 = true → cmpOk da db = true →
    A.units + min da.depth db.depth < cLine → LtAt A s a b (dLt da db)
  | .none, _, _, _, _, _, _, _, _, _, _, _, hc, _ => by simp [cmpOk] at hc
  | .bool _, _, _, _, _, _, _, _, _, _, _, _, hc, _ => by simp [cmpOk] at hc
  | .str _, _, _, _, _, _, _, _, _, _, _, _, hc, _ => by simp [cmpOk] at hc
  | .list _, _, _, _, _, _, _, _, _, _, _, _, hc, _ => by simp [cmpOk] at hc
  | .dict _, _, _, _, _, _, _, _, _, _, ha, _, _, _ => nomatch ha
  | .int x, db, A, s, _, _, _, _, ra, rb, _, _, hc, _ => by
    cases ra with
    | int _ t =>
      cases rb with
      | int y u => simpa [dLt] using (LtAt.ints (A := A) (s := s) (a := x) (b := y) (t := t) (u := u))
      | _ => simp [cmpOk] at hc
  | .tuple xs, db, A, s, _, _, _, _, ra, rb, ha, hb, hc, hu => by
    cases ra with
    | @tuple l o vs n _ as₁ h1 h2 h3 h4 =>
      have hl : s.heap.IsTuple l vs := ⟨_, h1, h2, _, h3⟩
      cases rb with
      | @tuple l' o' vs' n' ys bs₁ k1 k2 k3 k4 =>
        have hl' : s.heap.IsTuple l' vs' := ⟨_, k1, k2, _, k3⟩
        have n1 : vs.size = xs.length := by simpa using ReadsAll.length _ _ _ h4
        have n2 : vs'.size = ys.length := by simpa using ReadsAll.length _ _ _ k4
        have hc' : cmpOkAll xs ys = true := by simpa [cmpOk] using hc
        show LtAt A s (.ref l) (.ref l') (dLtAll xs ys)
        rw [← dLtAll_eq xs ys, ← n1, ← n2]
        refine LtAt.tuples hl hl' (room_here hu) (fun j j1 j2 => ?_) fun j j1 j2 _ => ?_
        · have := eqAt_readsAll xs ys A.in1 s vs.toList vs'.toList _ _ h4 k4 ha hb (room_in hu) j (by simpa using j1) (by simpa using j2)
          simpa using this
        · have := ltAt_readsAll xs ys A.in1 s vs.toList vs'.toList _ _ h4 k4 ha hb hc' (room_in hu) j (by simpa using j1) (by simpa using j2)
          simpa using this
      | _ => simp [cmpOk] at hc
theorem ltAt_readsAll : ∀ (xs ys : List PyData) (A : Around) (s : Shared) (vs ws : List Value) (as bs : List Addr), ReadsAll s.heap vs xs as → ReadsAll s.heap ws ys bs → PyData.canLayAll0 xs = true → PyData.canLayAll0 ys = true → cmpOkAll xs ys = true →
    A.units + min (PyData.depthAll xs) (PyData.depthAll ys) < cLine → ∀ j (h1 : j < vs.length) (h2 : j < ws.length), LtAt A s vs[j] ws[j] (pairLt xs ys j)
  | [], _, _, _, _, _, _, _, ra, _, _, _, _, _, j, h1, _ => by cases ra; exact absurd h1 (Nat.not_lt_zero _)
  | _ :: _, [], _, _, _, _, _, _, _, rb, _, _, _, _, j, _, h2 => by cases rb; exact absurd h2 (Nat.not_lt_zero _)
  | x :: xs, y :: ys, A, s, _, _, _, _, ra, rb, ha, hb, hc, hu, j, h1, h2 => by
    have ha' : x.canLay0 = true ∧ PyData.canLayAll0 xs = true := by simpa [PyData.canLayAll0] using ha
    have hb' : y.canLay0 = true ∧ PyData.canLayAll0 ys = true := by simpa [PyData.canLayAll0] using hb
    have hc' : cmpOk x y = true ∧ cmpOkAll xs ys = true := by simpa [cmpOkAll] using hc
    cases ra with
    | cons r rs =>
      cases rb with
      | cons r' rs' =>
        cases j with
        | zero => exact ltAt_reads x y A s _ _ _ _ r r' ha'.1 hb'.1 hc'.1 (room_head hu)
        | succ j => exact ltAt_readsAll xs ys A s _ _ _ _ rs rs' ha'.2 hb'.2 hc'.2 (room_tail hu) j (Nat.lt_of_succ_lt_succ h1) (Nat.lt_of_succ_lt_succ h2)
end
theorem compareLt_reads {prog : Program} {w : World} {A : Around} {E : Value → Shared → Prop} {s : Shared} {a b : Value} {da db : PyData} {as bs : List Addr} {Q : Value → Shared → Prop}
    (ra : Reads s.heap a da as) (rb : Reads s.heap b db bs) (ha : da.canLay0 = true) (hb : db.canLay0 = true) (hc : cmpOk da db = true) (hu : A.units + min da.depth db.depth < cLine) (h : Q (.bool (dLt da db)) s) :
    wpAny (model prog w) A (compareOp .Lt a b) Q E s := ltAt_reads da db A s a b as bs ra rb ha hb hc hu prog w E Q h
end Mine
end
section
open PySem PySem.W PyProof.Rows
set_option maxRecDepth 100000
namespace Mine
noncomputable def anyX (as : Array Nat) (p : Nat → Bool) (start : Nat) (stop : Nat) : Bool := bif as.toList.any p then as.any p start stop else false
theorem anyX_eq : @Array.any Nat = anyX := by
  funext as p start stop
  unfold anyX
  cases h : as.toList.any p with
  | true => rfl
  | false =>
    show as.any p start stop = false
    rw [List.any_eq_false] at h
    cases h2 : as.any p start stop with
    | false => rfl
    | true =>
      obtain ⟨i, hi, _, _, hp⟩ := Array.any_iff_exists.mp h2
      exact absurd hp (h _ (by simp))
abbrev AnyT := type_of% (@Array.any Nat)
inductive Turn (a : AnyT) : (AnyT → Builtin) → Builtin → Type
  | mk (F : AnyT → Builtin) : Turn @a F (F @a)
theorem Turn.eq {a b : AnyT} {T : Builtin} {F : AnyT → Builtin} (x : Turn @a F T) (h : @a = @b) : T = F @b := by
  cases x; rw [h]
noncomputable def newW : (F : AnyT → Builtin) × Turn (@Array.any Nat) F Builtin.«type.__new__» := by
  apply Sigma.mk
  delta Builtin.«type.__new__»
  generalize @Array.any Nat = z
  exact Turn.mk _
noncomputable def newX : Builtin := newW.1 anyX
theorem newX_eq : Builtin.«type.__new__» = newX := newW.2.eq anyX_eq
theorem type_new_code : code "type.__new__" = 29827186395103491166823348853 := by decide +kernel
noncomputable def tabX (id : String) : Option Builtin := bif Nat.beq (code id) 29827186395103491166823348853 then some newX else treeTable id
theorem tabX_eq : treeTable = tabX := by
  funext id
  unfold tabX
  cases h : Nat.beq (code id) 29827186395103491166823348853 with
  | false => rfl
  | true =>
    have h1 : code id = code "type.__new__" := (Nat.eq_of_beq_eq_true h).trans type_new_code.symm
    have h2 : treeTable id = treeTable "type.__new__" := by unfold treeTable; rw [h1]
    rw [h2, show treeTable "type.__new__" = some Builtin.«type.__new__» by kernel_rfl]
    exact congrArg some newX_eq
set_option linter.unusedVariables false
noncomputable section
noncomputable def nthS : List Stmt → Nat → Stmt
  | [], _ => .Pass default
  | s :: _, 0 => s
  | _ :: r, n + 1 => nthS r n
noncomputable def kid : Stmt → List Stmt
  | .ClassDef _ _ _ body _ _ _ _ _ _ _ => body
  | .FunctionDef _ _ body _ _ _ _ _ _ _ => body
  | _ => []
noncomputable def argsOf : Stmt → Arguments
  | .FunctionDef _ a _ _ _ _ _ _ _ _ => a
  | _ => default
noncomputable def scpOf : Stmt → Scope
  | .FunctionDef _ _ _ _ _ _ s _ _ _ => s
  | .ClassDef _ _ _ _ _ _ s _ _ _ _ => s
  | _ => default
noncomputable def dcOf (l : List Stmt) : Str := (docOf l).getD Str.empty
noncomputable def topS (i : Nat) : Stmt := nthS PySem.Challenge.pw_nq0313_01.main.body i
noncomputable def mth (i j : Nat) : Stmt := nthS (kid (topS i)) j
inductive Same {α : Type} (a : α) : α → Type
  | mk : Same a a
noncomputable def litFn {A : Arguments} {b : List Stmt} {sc : Scope} (st : Stmt) (_ : Same A (argsOf st)) (_ : Same b (kid st)) (_ : Same sc (scpOf st)) (name qualname : Str) (globals : Addr) (closure : List (Str × Addr)) (defaults kwdefaults doc pyModule : Value) (annotations : Option Addr) (code closureTuple : Value) (builtins : Addr) (dict : Option Addr) : Obj :=
  { cls := .type "function", dict := dict, data := .func { name := name, qualname := qualname, params := A, body := .stmts b, scope := sc, globals := globals, closure := closure, defaults := defaults, kwdefaults := kwdefaults, doc := doc, pyModule := pyModule, annotations := annotations, code := code, closureTuple := closureTuple, builtins := builtins } }
noncomputable def docF (s : String) : Str := ⟨⟨(PySem.W.S.toListS s).map Char.toNat⟩⟩
theorem docF_eq : Str.ofString = docF := by
  rw [Str.ofString_eq_byList]
  funext s
  show (⟨(s.toList.map Char.toNat).toArray⟩ : Str) = _
  rw [PySem.W.S.toListS_eq]
  rfl
noncomputable def m2x0 : Stmt := by
  apply (?f : (a : Stmt) → Same a (mth 2 0) → Stmt)
  case f => exact fun a _ => a
  exact (Same.mk : Same (.FunctionDef _ _ _ _ _ _ _ _ _ _ : Stmt) (mth 2 0))
noncomputable def m2x1 : Stmt := by
  apply (?f : (a : Stmt) → Same a (mth 2 1) → Stmt)
  case f => exact fun a _ => a
  exact (Same.mk : Same (.FunctionDef _ _ _ _ _ _ _ _ _ _ : Stmt) (mth 2 1))
noncomputable def m2x2 : Stmt := by
  apply (?f : (a : Stmt) → Same a (mth 2 2) → Stmt)
  case f => exact fun a _ => a
  exact (Same.mk : Same (.FunctionDef _ _ _ _ _ _ _ _ _ _ : Stmt) (mth 2 2))
noncomputable def m2x3 : Stmt := by
  apply (?f : (a : Stmt) → Same a (mth 2 3) → Stmt)
  case f => exact fun a _ => a
  exact (Same.mk : Same (.FunctionDef _ _ _ _ _ _ _ _ _ _ : Stmt) (mth 2 3))
noncomputable def m3x0 : Stmt := by
  apply (?f : (a : Stmt) → Same a (mth 3 0) → Stmt)
  case f => exact fun a _ => a
  exact (Same.mk : Same (.Expr _ _ : Stmt) (mth 3 0))
noncomputable def m3x1 : Stmt := by
  apply (?f : (a : Stmt) → Same a (mth 3 1) → Stmt)
  case f => exact fun a _ => a
  exact (Same.mk : Same (.Assign _ _ _ : Stmt) (mth 3 1))
noncomputable def m3x2 : Stmt := by
  apply (?f : (a : Stmt) → Same a (mth 3 2) → Stmt)
  case f => exact fun a _ => a
  exact (Same.mk : Same (.Assign _ _ _ : Stmt) (mth 3 2))
noncomputable def m3x3 : Stmt := by
  apply (?f : (a : Stmt) → Same a (mth 3 3) → Stmt)
  case f => exact fun a _ => a
  exact (Same.mk : Same (.Assign _ _ _ : Stmt) (mth 3 3))
noncomputable def m3x4 : Stmt := by
  apply (?f : (a : Stmt) → Same a (mth 3 4) → Stmt)
  case f => exact fun a _ => a
  exact (Same.mk : Same (.FunctionDef _ _ _ _ _ _ _ _ _ _ : Stmt) (mth 3 4))
noncomputable def m3x5 : Stmt := by
  apply (?f : (a : Stmt) → Same a (mth 3 5) → Stmt)
  case f => exact fun a _ => a
  exact (Same.mk : Same (.FunctionDef _ _ _ _ _ _ _ _ _ _ : Stmt) (mth 3 5))
noncomputable def m3x6 : Stmt := by
  apply (?f : (a : Stmt) → Same a (mth 3 6) → Stmt)
  case f => exact fun a _ => a
  exact (Same.mk : Same (.FunctionDef _ _ _ _ _ _ _ _ _ _ : Stmt) (mth 3 6))
noncomputable def m3x7 : Stmt := by
  apply (?f : (a : Stmt) → Same a (mth 3 7) → Stmt)
  case f => exact fun a _ => a
  exact (Same.mk : Same (.Assign _ _ _ : Stmt) (mth 3 7))
noncomputable def m3x8 : Stmt := by
  apply (?f : (a : Stmt) → Same a (mth 3 8) → Stmt)
  case f => exact fun a _ => a
  exact (Same.mk : Same (.FunctionDef _ _ _ _ _ _ _ _ _ _ : Stmt) (mth 3 8))
noncomputable def m3x9 : Stmt := by
  apply (?f : (a : Stmt) → Same a (mth 3 9) → Stmt)
  case f => exact fun a _ => a
  exact (Same.mk : Same (.FunctionDef _ _ _ _ _ _ _ _ _ _ : Stmt) (mth 3 9))
noncomputable def m3x10 : Stmt := by
  apply (?f : (a : Stmt) → Same a (mth 3 10) → Stmt)
  case f => exact fun a _ => a
  exact (Same.mk : Same (.FunctionDef _ _ _ _ _ _ _ _ _ _ : Stmt) (mth 3 10))
noncomputable def m3x11 : Stmt := by
  apply (?f : (a : Stmt) → Same a (mth 3 11) → Stmt)
  case f => exact fun a _ => a
  exact (Same.mk : Same (.Assign _ _ _ : Stmt) (mth 3 11))
noncomputable def m3x12 : Stmt := by
  apply (?f : (a : Stmt) → Same a (mth 3 12) → Stmt)
  case f => exact fun a _ => a
  exact (Same.mk : Same (.Assign _ _ _ : Stmt) (mth 3 12))
noncomputable def m3x13 : Stmt := by
  apply (?f : (a : Stmt) → Same a (mth 3 13) → Stmt)
  case f => exact fun a _ => a
  exact (Same.mk : Same (.Assign _ _ _ : Stmt) (mth 3 13))
noncomputable def m3x14 : Stmt := by
  apply (?f : (a : Stmt) → Same a (mth 3 14) → Stmt)
  case f => exact fun a _ => a
  exact (Same.mk : Same (.Assign _ _ _ : Stmt) (mth 3 14))
noncomputable def m5x0 : Stmt := by
  apply (?f : (a : Stmt) → Same a (mth 5 0) → Stmt)
  case f => exact fun a _ => a
  exact (Same.mk : Same (.Expr _ _ : Stmt) (mth 5 0))
noncomputable def m5x1F (f : String → Str) : Stmt := by
  apply (?g : (name : Str) → (a : Arguments) → (s : String) → (k : Nat) → (p q : Pos) → (r : List Stmt) → (x1 : _) → (x2 : _) → (x3 : _) → (x4 : _) → (x5 : _) → (x6 : _) → (x7 : _) → Same (.FunctionDef name a (.Expr (.Constant (.str (Str.ofString s)) k p) q :: r) x1 x2 x3 x4 x5 x6 x7) (mth 5 1) → Stmt)
  case g => exact fun name a s k p q r x1 x2 x3 x4 x5 x6 x7 _ => .FunctionDef name a (.Expr (.Constant (.str (f s)) k p) q :: r) x1 x2 x3 x4 x5 x6 x7
  exact (Same.mk : Same (.FunctionDef _ _ (.Expr (.Constant (.str (Str.ofString _)) _ _) _ :: _) _ _ _ _ _ _ _ : Stmt) (mth 5 1))
noncomputable def m5x1 : Stmt := m5x1F docF
noncomputable def m5x2 : Stmt := by
  apply (?f : (a : Stmt) → Same a (mth 5 2) → Stmt)
  case f => exact fun a _ => a
  exact (Same.mk : Same (.FunctionDef _ _ _ _ _ _ _ _ _ _ : Stmt) (mth 5 2))
noncomputable def m5x3F (f : String → Str) : Stmt := by
  apply (?g : (name : Str) → (a : Arguments) → (s : String) → (k : Nat) → (p q : Pos) → (r : List Stmt) → (x1 : _) → (x2 : _) → (x3 : _) → (x4 : _) → (x5 : _) → (x6 : _) → (x7 : _) → Same (.FunctionDef name a (.Expr (.Constant (.str (Str.ofString s)) k p) q :: r) x1 x2 x3 x4 x5 x6 x7) (mth 5 3) → Stmt)
  case g => exact fun name a s k p q r x1 x2 x3 x4 x5 x6 x7 _ => .FunctionDef name a (.Expr (.Constant (.str (f s)) k p) q :: r) x1 x2 x3 x4 x5 x6 x7
  exact (Same.mk : Same (.FunctionDef _ _ (.Expr (.Constant (.str (Str.ofString _)) _ _) _ :: _) _ _ _ _ _ _ _ : Stmt) (mth 5 3))
noncomputable def m5x3 : Stmt := m5x3F docF
noncomputable def m5x4F (f : String → Str) : Stmt := by
  apply (?g : (name : Str) → (a : Arguments) → (s : String) → (k : Nat) → (p q : Pos) → (r : List Stmt) → (x1 : _) → (x2 : _) → (x3 : _) → (x4 : _) → (x5 : _) → (x6 : _) → (x7 : _) → Same (.FunctionDef name a (.Expr (.Constant (.str (Str.ofString s)) k p) q :: r) x1 x2 x3 x4 x5 x6 x7) (mth 5 4) → Stmt)
  case g => exact fun name a s k p q r x1 x2 x3 x4 x5 x6 x7 _ => .FunctionDef name a (.Expr (.Constant (.str (f s)) k p) q :: r) x1 x2 x3 x4 x5 x6 x7
  exact (Same.mk : Same (.FunctionDef _ _ (.Expr (.Constant (.str (Str.ofString _)) _ _) _ :: _) _ _ _ _ _ _ _ : Stmt) (mth 5 4))
noncomputable def m5x4 : Stmt := m5x4F docF
noncomputable def m5x5 : Stmt := by
  apply (?f : (a : Stmt) → Same a (mth 5 5) → Stmt)
  case f => exact fun a _ => a
  exact (Same.mk : Same (.FunctionDef _ _ _ _ _ _ _ _ _ _ : Stmt) (mth 5 5))
noncomputable def m5x6F (f : String → Str) : Stmt := by
  apply (?g : (name : Str) → (a : Arguments) → (s : String) → (k : Nat) → (p q : Pos) → (r : List Stmt) → (x1 : _) → (x2 : _) → (x3 : _) → (x4 : _) → (x5 : _) → (x6 : _) → (x7 : _) → Same (.FunctionDef name a (.Expr (.Constant (.str (Str.ofString s)) k p) q :: r) x1 x2 x3 x4 x5 x6 x7) (mth 5 6) → Stmt)
  case g => exact fun name a s k p q r x1 x2 x3 x4 x5 x6 x7 _ => .FunctionDef name a (.Expr (.Constant (.str (f s)) k p) q :: r) x1 x2 x3 x4 x5 x6 x7
  exact (Same.mk : Same (.FunctionDef _ _ (.Expr (.Constant (.str (Str.ofString _)) _ _) _ :: _) _ _ _ _ _ _ _ : Stmt) (mth 5 6))
noncomputable def m5x6 : Stmt := m5x6F docF
noncomputable def m5x7F (f : String → Str) : Stmt := by
  apply (?g : (name : Str) → (a : Arguments) → (s : String) → (k : Nat) → (p q : Pos) → (r : List Stmt) → (x1 : _) → (x2 : _) → (x3 : _) → (x4 : _) → (x5 : _) → (x6 : _) → (x7 : _) → Same (.FunctionDef name a (.Expr (.Constant (.str (Str.ofString s)) k p) q :: r) x1 x2 x3 x4 x5 x6 x7) (mth 5 7) → Stmt)
  case g => exact fun name a s k p q r x1 x2 x3 x4 x5 x6 x7 _ => .FunctionDef name a (.Expr (.Constant (.str (f s)) k p) q :: r) x1 x2 x3 x4 x5 x6 x7
  exact (Same.mk : Same (.FunctionDef _ _ (.Expr (.Constant (.str (Str.ofString _)) _ _) _ :: _) _ _ _ _ _ _ _ : Stmt) (mth 5 7))
noncomputable def m5x7 : Stmt := m5x7F docF
noncomputable def m5x8 : Stmt := by
  apply (?f : (a : Stmt) → Same a (mth 5 8) → Stmt)
  case f => exact fun a _ => a
  exact (Same.mk : Same (.FunctionDef _ _ _ _ _ _ _ _ _ _ : Stmt) (mth 5 8))
noncomputable def m5x9 : Stmt := by
  apply (?f : (a : Stmt) → Same a (mth 5 9) → Stmt)
  case f => exact fun a _ => a
  exact (Same.mk : Same (.FunctionDef _ _ _ _ _ _ _ _ _ _ : Stmt) (mth 5 9))
noncomputable def m5x10F (f : String → Str) : Stmt := by
  apply (?g : (name : Str) → (a : Arguments) → (s : String) → (k : Nat) → (p q : Pos) → (r : List Stmt) → (x1 : _) → (x2 : _) → (x3 : _) → (x4 : _) → (x5 : _) → (x6 : _) → (x7 : _) → Same (.FunctionDef name a (.Expr (.Constant (.str (Str.ofString s)) k p) q :: r) x1 x2 x3 x4 x5 x6 x7) (mth 5 10) → Stmt)
  case g => exact fun name a s k p q r x1 x2 x3 x4 x5 x6 x7 _ => .FunctionDef name a (.Expr (.Constant (.str (f s)) k p) q :: r) x1 x2 x3 x4 x5 x6 x7
  exact (Same.mk : Same (.FunctionDef _ _ (.Expr (.Constant (.str (Str.ofString _)) _ _) _ :: _) _ _ _ _ _ _ _ : Stmt) (mth 5 10))
noncomputable def m5x10 : Stmt := m5x10F docF
noncomputable def m5x11 : Stmt := by
  apply (?f : (a : Stmt) → Same a (mth 5 11) → Stmt)
  case f => exact fun a _ => a
  exact (Same.mk : Same (.FunctionDef _ _ _ _ _ _ _ _ _ _ : Stmt) (mth 5 11))
noncomputable def m5x12 : Stmt := by
  apply (?f : (a : Stmt) → Same a (mth 5 12) → Stmt)
  case f => exact fun a _ => a
  exact (Same.mk : Same (.FunctionDef _ _ _ _ _ _ _ _ _ _ : Stmt) (mth 5 12))
noncomputable def tS0 : Stmt := by
  apply (?f : (a : Stmt) → Same a (topS 0) → Stmt)
  case f => exact fun a _ => a
  exact (Same.mk : Same (.FunctionDef _ _ _ _ _ _ _ _ _ _ : Stmt) (topS 0))
noncomputable def tS1 : Stmt := by
  apply (?f : (a : Stmt) → Same a (topS 1) → Stmt)
  case f => exact fun a _ => a
  exact (Same.mk : Same (.Assign _ _ _ : Stmt) (topS 1))
noncomputable def tS2 : Stmt := by
  apply (?f : (a : Stmt) → Same a (topS 2) → Stmt)
  case f => exact fun a _ => a
  exact (Same.mk : Same (.ClassDef _ _ _ [m2x0, m2x1, m2x2, m2x3] _ _ _ _ _ _ _ : Stmt) (topS 2))
noncomputable def tS3 : Stmt := by
  apply (?f : (a : Stmt) → Same a (topS 3) → Stmt)
  case f => exact fun a _ => a
  exact (Same.mk : Same (.ClassDef _ _ _ [m3x0, m3x1, m3x2, m3x3, m3x4, m3x5, m3x6, m3x7, m3x8, m3x9, m3x10, m3x11, m3x12, m3x13, m3x14] _ _ _ _ _ _ _ : Stmt) (topS 3))
noncomputable def tS4 : Stmt := by
  apply (?f : (a : Stmt) → Same a (topS 4) → Stmt)
  case f => exact fun a _ => a
  exact (Same.mk : Same (.FunctionDef _ _ _ _ _ _ _ _ _ _ : Stmt) (topS 4))
noncomputable def tS5F (f : String → Str) : Stmt := by
  apply (?g : (x1 : _) → (x2 : _) → (x3 : _) → (x4 : _) → (x5 : _) → (x6 : _) → (x7 : _) → (x8 : _) → (x9 : _) → (x10 : _) → Same (.ClassDef x1 x2 x3 [m5x0, m5x1F Str.ofString, m5x2, m5x3F Str.ofString, m5x4F Str.ofString, m5x5, m5x6F Str.ofString, m5x7F Str.ofString, m5x8, m5x9, m5x10F Str.ofString, m5x11, m5x12] x4 x5 x6 x7 x8 x9 x10) (topS 5) → Stmt)
  case g => exact fun x1 x2 x3 x4 x5 x6 x7 x8 x9 x10 _ => .ClassDef x1 x2 x3 [m5x0, m5x1F f, m5x2, m5x3F f, m5x4F f, m5x5, m5x6F f, m5x7F f, m5x8, m5x9, m5x10F f, m5x11, m5x12] x4 x5 x6 x7 x8 x9 x10
  exact (Same.mk : Same (.ClassDef _ _ _ [m5x0, m5x1F Str.ofString, m5x2, m5x3F Str.ofString, m5x4F Str.ofString, m5x5, m5x6F Str.ofString, m5x7F Str.ofString, m5x8, m5x9, m5x10F Str.ofString, m5x11, m5x12] _ _ _ _ _ _ _ : Stmt) (topS 5))
noncomputable def tS5 : Stmt := tS5F docF
noncomputable def tS6 : Stmt := by
  apply (?f : (a : Stmt) → Same a (topS 6) → Stmt)
  case f => exact fun a _ => a
  exact (Same.mk : Same (.Assign _ _ _ : Stmt) (topS 6))
noncomputable def tS7 : Stmt := by
  apply (?f : (a : Stmt) → Same a (topS 7) → Stmt)
  case f => exact fun a _ => a
  exact (Same.mk : Same (.FunctionDef _ _ _ _ _ _ _ _ _ _ : Stmt) (topS 7))
noncomputable def tS8 : Stmt := by
  apply (?f : (a : Stmt) → Same a (topS 8) → Stmt)
  case f => exact fun a _ => a
  exact (Same.mk : Same (.FunctionDef _ _ _ _ _ _ _ _ _ _ : Stmt) (topS 8))
noncomputable def tS9F (f : String → Str) : Stmt := by
  apply (?g : (name : Str) → (a : Arguments) → (s : String) → (k : Nat) → (p q : Pos) → (r : List Stmt) → (x1 : _) → (x2 : _) → (x3 : _) → (x4 : _) → (x5 : _) → (x6 : _) → (x7 : _) → Same (.FunctionDef name a (.Expr (.Constant (.str (Str.ofString s)) k p) q :: r) x1 x2 x3 x4 x5 x6 x7) (topS 9) → Stmt)
  case g => exact fun name a s k p q r x1 x2 x3 x4 x5 x6 x7 _ => .FunctionDef name a (.Expr (.Constant (.str (f s)) k p) q :: r) x1 x2 x3 x4 x5 x6 x7
  exact (Same.mk : Same (.FunctionDef _ _ (.Expr (.Constant (.str (Str.ofString _)) _ _) _ :: _) _ _ _ _ _ _ _ : Stmt) (topS 9))
noncomputable def tS9 : Stmt := tS9F docF
noncomputable def tS10 : Stmt := by
  apply (?f : (a : Stmt) → Same a (topS 10) → Stmt)
  case f => exact fun a _ => a
  exact (Same.mk : Same (.FunctionDef _ _ _ _ _ _ _ _ _ _ : Stmt) (topS 10))
noncomputable def tS11 : Stmt := by
  apply (?f : (a : Stmt) → Same a (topS 11) → Stmt)
  case f => exact fun a _ => a
  exact (Same.mk : Same (.FunctionDef _ _ _ _ _ _ _ _ _ _ : Stmt) (topS 11))
noncomputable def tS12 : Stmt := by
  apply (?f : (a : Stmt) → Same a (topS 12) → Stmt)
  case f => exact fun a _ => a
  exact (Same.mk : Same (.Assign _ _ _ : Stmt) (topS 12))
noncomputable def tS13 : Stmt := by
  apply (?f : (a : Stmt) → Same a (topS 13) → Stmt)
  case f => exact fun a _ => a
  exact (Same.mk : Same (.FunctionDef _ _ _ _ _ _ _ _ _ _ : Stmt) (topS 13))
noncomputable def tS14 : Stmt := by
  apply (?f : (a : Stmt) → Same a (topS 14) → Stmt)
  case f => exact fun a _ => a
  exact (Same.mk : Same (.FunctionDef _ _ _ _ _ _ _ _ _ _ : Stmt) (topS 14))
noncomputable def tS15 : Stmt := by
  apply (?f : (a : Stmt) → Same a (topS 15) → Stmt)
  case f => exact fun a _ => a
  exact (Same.mk : Same (.FunctionDef _ _ _ _ _ _ _ _ _ _ : Stmt) (topS 15))
noncomputable def scX : Scope := by
  apply (?f : (a : Scope) → Same a (PySem.Challenge.pw_nq0313_01.main.scope) → Scope)
  case f => exact fun a _ => a
  exact (Same.mk : Same (⟨_, _, _, _, _⟩ : Scope) (PySem.Challenge.pw_nq0313_01.main.scope))
noncomputable def pwF (f : String → Str) : Program := by
  apply (?g : (x1 : _) → (x2 : _) → (x3 : _) → (y1 : _) → (y2 : _) → (y3 : _) → (y4 : _) → (y5 : _) → Same (⟨⟨[tS0, tS1, tS2, tS3, tS4, tS5F Str.ofString, tS6, tS7, tS8, tS9F Str.ofString, tS10, tS11, tS12, tS13, tS14, tS15], scX, x1, x2, x3⟩, y1, y2, y3, y4, y5⟩ : Program) PySem.Challenge.pw_nq0313_01 → Program)
  case g => exact fun x1 x2 x3 y1 y2 y3 y4 y5 _ => ⟨⟨[tS0, tS1, tS2, tS3, tS4, tS5F f, tS6, tS7, tS8, tS9F f, tS10, tS11, tS12, tS13, tS14, tS15], scX, x1, x2, x3⟩, y1, y2, y3, y4, y5⟩
  exact (Same.mk : Same (⟨⟨[tS0, tS1, tS2, tS3, tS4, tS5F Str.ofString, tS6, tS7, tS8, tS9F Str.ofString, tS10, tS11, tS12, tS13, tS14, tS15], scX, _, _, _⟩, _, _, _, _, _⟩ : Program) PySem.Challenge.pw_nq0313_01)
noncomputable def pwX : Program := pwF docF
theorem pwF_eq : PySem.Challenge.pw_nq0313_01 = pwF Str.ofString := by kernel_rfl
theorem pwX_eq : PySem.Challenge.pw_nq0313_01 = pwX := pwF_eq.trans (congrArg pwF docF_eq)
noncomputable def oc11 (P : Params) : Obj := { cls := PySem.Value.type "tuple", data := PySem.Data.seq #[] }
noncomputable def oc12 (P : Params) : Obj := { cls := PySem.Value.none, data := PySem.Data.fields #[] }
noncomputable def oc13 (P : Params) : Obj := { cls := PySem.Value.type "code", data := PySem.Data.fields #[PySem.Value.str (PySem.Str.ofString "<module>") 182, PySem.Value.str (PySem.Str.ofString "<module>") 183, PySem.Value.str (PySem.Str.ofString "/claim/cut.py") 184, PySem.Value.int 1 0, PySem.Value.int 0 0, PySem.Value.int 0 0, PySem.Value.int 0 0, PySem.Value.int 0 0, PySem.Value.ref 11, PySem.Value.bool Bool.false, PySem.Value.int 181 0, PySem.Value.ref 12, PySem.Value.none, PySem.Value.none, PySem.Value.none, PySem.Value.none, PySem.Value.int 185 0, PySem.Value.int 1 0, PySem.Value.str (PySem.Str.ofString "/claim/cut.py") 186] }
noncomputable def oc14 (P : Params) : Obj := { cls := PySem.Value.type "frame", slots := #[Option.some (PySem.Value.ref 13), Option.some (PySem.Value.ref 3), Option.some (PySem.Value.ref 3), Option.none, Option.some (PySem.Value.str (PySem.Str.ofString "__main__") 164), Option.none, Option.some (PySem.Value.ref 0)] }
noncomputable def treeXk3x7 (P : Params) : BT := (.node (PySem.W.boot_o_7 P) .nil .nil)
noncomputable def treeXk3x11 (P : Params) : BT := (.node (oc11 P) .nil .nil)
noncomputable def treeXk3x9 (P : Params) : BT := (.node (PySem.W.boot_o_9 P) .nil .nil)
noncomputable def treeXk3x13 (P : Params) : BT := (.node (oc13 P) .nil .nil)
noncomputable def treeXk3x8 (P : Params) : BT := (.node (PySem.W.boot_o_8 P) .nil .nil)
noncomputable def treeXk3x12 (P : Params) : BT := (.node (oc12 P) .nil .nil)
noncomputable def treeXk3x10 (P : Params) : BT := (.node (PySem.W.boot_o_10 P) .nil .nil)
noncomputable def treeXk3x14 (P : Params) : BT := (.node (oc14 P) .nil .nil)
noncomputable def treeX (P : Params) : BT := (.node (PySem.W.boot_o_0 P) (.node (PySem.W.boot_o_1 P) (.node (PySem.W.boot_o_3 P) (treeXk3x7 P) (treeXk3x11 P)) (.node (PySem.W.boot_o_5 P) (treeXk3x9 P) (treeXk3x13 P))) (.node (PySem.W.boot_o_2 P) (.node (PySem.W.boot_o_4 P) (treeXk3x8 P) (treeXk3x12 P)) (.node (PySem.W.boot_o_6 P) (treeXk3x10 P) (treeXk3x14 P))))
noncomputable def od3 (P : Params) : Obj := { cls := PySem.Value.type "dict", data := PySem.Data.dict #[{ hash := PySem.PyData.keyHash P (PySem.Str.ofString "__name__"), key := PySem.Value.str (PySem.Str.ofString "__name__") 165, val := PySem.Value.str (PySem.Str.ofString "cpy313.difflib") 194 }, { hash := PySem.PyData.keyHash P (PySem.Str.ofString "__doc__"), key := PySem.Value.str (PySem.Str.ofString "__doc__") 166, val := PySem.Value.none }, { hash := PySem.PyData.keyHash P (PySem.Str.ofString "__package__"), key := PySem.Value.str (PySem.Str.ofString "__package__") 167, val := PySem.Value.none }, { hash := PySem.PyData.keyHash P (PySem.Str.ofString "__loader__"), key := PySem.Value.str (PySem.Str.ofString "__loader__") 168, val := PySem.Value.builtin "__main__.__loader__#opaque" }, { hash := PySem.PyData.keyHash P (PySem.Str.ofString "__spec__"), key := PySem.Value.str (PySem.Str.ofString "__spec__") 169, val := PySem.Value.none }, { hash := PySem.PyData.keyHash P (PySem.Str.ofString "__annotations__"), key := PySem.Value.str (PySem.Str.ofString "__annotations__") 170, val := PySem.Value.ref 6 }, { hash := PySem.PyData.keyHash P (PySem.Str.ofString "__builtins__"), key := PySem.Value.str (PySem.Str.ofString "__builtins__") 171, val := PySem.Value.ref 4 }, { hash := PySem.PyData.keyHash P (PySem.Str.ofString "__file__"), key := PySem.Value.str (PySem.Str.ofString "__file__") 173, val := PySem.Value.str (PySem.Str.ofString "/claim/cut.py") 172 }, { hash := PySem.PyData.keyHash P (PySem.Str.ofString "__cached__"), key := PySem.Value.str (PySem.Str.ofString "__cached__") 174, val := PySem.Value.none }, { hash := PySem.PyData.keyHash P (PySem.Str.ofString "_wall"), key := PySem.Value.str (PySem.Str.ofString "_wall") 193, val := PySem.Value.ref 21 }, { hash := PySem.PyData.keyHash P (PySem.Str.ofString "_tuplegetter"), key := PySem.Value.str (PySem.Str.ofString "_tuplegetter") 252, val := PySem.Value.ref 60 }] 11 }
noncomputable def od12 (P : Params) : Obj := { cls := PySem.Value.none, data := PySem.Data.fields #[PySem.Value.int 1 0, PySem.Value.int 0 0, PySem.Value.ref 20, PySem.Value.int 5 0, PySem.Value.int 0 0, PySem.Value.ref 27] }
noncomputable def od15 (P : Params) : Obj := { cls := PySem.Value.type "tuple", data := PySem.Data.seq #[] }
noncomputable def od16 (P : Params) : Obj := { cls := PySem.Value.none, data := PySem.Data.fields #[] }
noncomputable def od17 (P : Params) : Obj := { cls := PySem.Value.type "tuple", data := PySem.Data.seq #[PySem.Value.str (PySem.Str.ofString "k") 190] }
noncomputable def od18 (P : Params) : Obj := { cls := PySem.Value.type "tuple", data := PySem.Data.seq #[] }
noncomputable def od19 (P : Params) : Obj := { cls := PySem.Value.none, data := PySem.Data.func { name := PySem.Str.ofString "_wall", qualname := PySem.Str.ofString "_wall", params := Mine.argsOf (tS0), body := PySem.FuncBody.stmts (Mine.kid (tS0)), scope := Mine.scpOf (tS0), globals := 0, closure := [], defaults := PySem.Value.none, kwdefaults := PySem.Value.none } }
noncomputable def od20 (P : Params) : Obj := { cls := PySem.Value.type "code", data := PySem.Data.fields #[PySem.Value.str (PySem.Str.ofString "_wall") 187, PySem.Value.str (PySem.Str.ofString "_wall") 188, PySem.Value.str (PySem.Str.ofString "/claim/cut.py") 189, PySem.Value.int 1 0, PySem.Value.int 1 0, PySem.Value.int 0 0, PySem.Value.int 0 0, PySem.Value.int 3 0, PySem.Value.ref 15, PySem.Value.bool Bool.true, PySem.Value.int 181 0, PySem.Value.ref 16, PySem.Value.none, PySem.Value.ref 17, PySem.Value.ref 18, PySem.Value.ref 19, PySem.Value.int 191 0, PySem.Value.int 1 0, PySem.Value.str (PySem.Str.ofString "/claim/cut.py") 192] }
noncomputable def od21 (P : Params) : Obj := { cls := PySem.Value.type "function", data := PySem.Data.func { name := PySem.Str.ofString "_wall", qualname := PySem.Str.ofString "_wall", params := Mine.argsOf (tS0), body := PySem.FuncBody.stmts (Mine.kid (tS0)), scope := Mine.scpOf (tS0), globals := 3, closure := [], defaults := PySem.Value.none, kwdefaults := PySem.Value.none, pyModule := PySem.Value.str (PySem.Str.ofString "__main__") 164, code := PySem.Value.ref 20 } }
noncomputable def od22 (P : Params) : Obj := { cls := PySem.Value.type "tuple", data := PySem.Data.seq #[] }
noncomputable def od23 (P : Params) : Obj := { cls := PySem.Value.type "builtin_function_or_method", data := PySem.Data.fields #[PySem.Value.builtin "type.__prepare__", PySem.Value.type "type"] }
noncomputable def od24 (P : Params) : Obj := { cls := PySem.Value.type "dict", data := PySem.Data.dict #[{ hash := PySem.PyData.keyHash P (PySem.Str.ofString "__module__"), key := PySem.Value.str (PySem.Str.ofString "__module__") 203, val := PySem.Value.str (PySem.Str.ofString "cpy313.difflib") 194 }, { hash := PySem.PyData.keyHash P (PySem.Str.ofString "__qualname__"), key := PySem.Value.str (PySem.Str.ofString "__qualname__") 205, val := PySem.Value.str (PySem.Str.ofString "_tuplegetter") 204 }, { hash := PySem.PyData.keyHash P (PySem.Str.ofString "__firstlineno__"), key := PySem.Value.str (PySem.Str.ofString "__firstlineno__") 207, val := PySem.Value.int 5 206 }, { hash := PySem.PyData.keyHash P (PySem.Str.ofString "__init__"), key := PySem.Value.str (PySem.Str.ofString "__init__") 216, val := PySem.Value.ref 35 }, { hash := PySem.PyData.keyHash P (PySem.Str.ofString "__get__"), key := PySem.Value.str (PySem.Str.ofString "__get__") 225, val := PySem.Value.ref 43 }, { hash := PySem.PyData.keyHash P (PySem.Str.ofString "__set__"), key := PySem.Value.str (PySem.Str.ofString "__set__") 234, val := PySem.Value.ref 50 }, { hash := PySem.PyData.keyHash P (PySem.Str.ofString "__delete__"), key := PySem.Value.str (PySem.Str.ofString "__delete__") 242, val := PySem.Value.ref 57 }, { hash := PySem.PyData.keyHash P (PySem.Str.ofString "__static_attributes__"), key := PySem.Value.str (PySem.Str.ofString "__static_attributes__") 245, val := PySem.Value.ref 58 }] 8 }
noncomputable def od25 (P : Params) : Obj := { cls := PySem.Value.type "tuple", data := PySem.Data.seq #[] }
noncomputable def od26 (P : Params) : Obj := { cls := PySem.Value.none, data := PySem.Data.fields #[PySem.Value.int 7 0, PySem.Value.int 4 0, PySem.Value.ref 34, PySem.Value.int 11 0, PySem.Value.int 4 0, PySem.Value.ref 42, PySem.Value.int 18 0, PySem.Value.int 4 0, PySem.Value.ref 49, PySem.Value.int 21 0, PySem.Value.int 4 0, PySem.Value.ref 56] }
noncomputable def od27 (P : Params) : Obj := { cls := PySem.Value.type "code", data := PySem.Data.fields #[PySem.Value.str (PySem.Str.ofString "_tuplegetter") 198, PySem.Value.str (PySem.Str.ofString "_tuplegetter") 199, PySem.Value.str (PySem.Str.ofString "/claim/cut.py") 200, PySem.Value.int 5 0, PySem.Value.int 0 0, PySem.Value.int 0 0, PySem.Value.int 0 0, PySem.Value.int 0 0, PySem.Value.ref 25, PySem.Value.bool Bool.false, PySem.Value.int 181 0, PySem.Value.ref 26, PySem.Value.none, PySem.Value.none, PySem.Value.none, PySem.Value.none, PySem.Value.int 201 0, PySem.Value.int 5 0, PySem.Value.str (PySem.Str.ofString "/claim/cut.py") 202] }
noncomputable def od28 (P : Params) : Obj := { cls := PySem.Value.type "frame", slots := #[Option.some (PySem.Value.ref 27), Option.some (PySem.Value.ref 3), Option.some (PySem.Value.ref 24), Option.none, Option.some (PySem.Value.str (PySem.Str.ofString "cpy313.difflib") 194), Option.none, Option.some (PySem.Value.ref 0)] }
noncomputable def od29 (P : Params) : Obj := { cls := PySem.Value.type "tuple", data := PySem.Data.seq #[] }
noncomputable def od30 (P : Params) : Obj := { cls := PySem.Value.none, data := PySem.Data.fields #[] }
noncomputable def od31 (P : Params) : Obj := { cls := PySem.Value.type "tuple", data := PySem.Data.seq #[PySem.Value.str (PySem.Str.ofString "self") 211, PySem.Value.str (PySem.Str.ofString "index") 212, PySem.Value.str (PySem.Str.ofString "doc") 213] }
noncomputable def od32 (P : Params) : Obj := { cls := PySem.Value.type "tuple", data := PySem.Data.seq #[] }
noncomputable def od33 (P : Params) : Obj := { cls := PySem.Value.none, data := PySem.Data.func { name := PySem.Str.ofString "__init__", qualname := PySem.Str.ofString "_tuplegetter.__init__", params := Mine.argsOf (m2x0), body := PySem.FuncBody.stmts (Mine.kid (m2x0)), scope := Mine.scpOf (m2x0), globals := 0, closure := [], defaults := PySem.Value.none, kwdefaults := PySem.Value.none } }
noncomputable def od34 (P : Params) : Obj := { cls := PySem.Value.type "code", data := PySem.Data.fields #[PySem.Value.str (PySem.Str.ofString "__init__") 208, PySem.Value.str (PySem.Str.ofString "_tuplegetter.__init__") 209, PySem.Value.str (PySem.Str.ofString "/claim/cut.py") 210, PySem.Value.int 7 0, PySem.Value.int 3 0, PySem.Value.int 0 0, PySem.Value.int 0 0, PySem.Value.int 3 0, PySem.Value.ref 29, PySem.Value.bool Bool.true, PySem.Value.int 181 0, PySem.Value.ref 30, PySem.Value.none, PySem.Value.ref 31, PySem.Value.ref 32, PySem.Value.ref 33, PySem.Value.int 214 0, PySem.Value.int 7 0, PySem.Value.str (PySem.Str.ofString "/claim/cut.py") 215] }
noncomputable def od35 (P : Params) : Obj := { cls := PySem.Value.type "function", data := PySem.Data.func { name := PySem.Str.ofString "__init__", qualname := PySem.Str.ofString "_tuplegetter.__init__", params := Mine.argsOf (m2x0), body := PySem.FuncBody.stmts (Mine.kid (m2x0)), scope := Mine.scpOf (m2x0), globals := 3, closure := [], defaults := PySem.Value.none, kwdefaults := PySem.Value.none, pyModule := PySem.Value.str (PySem.Str.ofString "cpy313.difflib") 194, code := PySem.Value.ref 34 } }
noncomputable def od36 (P : Params) : Obj := { cls := PySem.Value.type "tuple", data := PySem.Data.seq #[PySem.Value.none] }
noncomputable def od37 (P : Params) : Obj := { cls := PySem.Value.type "tuple", data := PySem.Data.seq #[] }
noncomputable def od38 (P : Params) : Obj := { cls := PySem.Value.none, data := PySem.Data.fields #[] }
noncomputable def od39 (P : Params) : Obj := { cls := PySem.Value.type "tuple", data := PySem.Data.seq #[PySem.Value.str (PySem.Str.ofString "self") 220, PySem.Value.str (PySem.Str.ofString "obj") 221, PySem.Value.str (PySem.Str.ofString "objtype") 222] }
noncomputable def od40 (P : Params) : Obj := { cls := PySem.Value.type "tuple", data := PySem.Data.seq #[] }
noncomputable def od41 (P : Params) : Obj := { cls := PySem.Value.none, data := PySem.Data.func { name := PySem.Str.ofString "__get__", qualname := PySem.Str.ofString "_tuplegetter.__get__", params := Mine.argsOf (m2x1), body := PySem.FuncBody.stmts (Mine.kid (m2x1)), scope := Mine.scpOf (m2x1), globals := 0, closure := [], defaults := PySem.Value.none, kwdefaults := PySem.Value.none } }
noncomputable def od42 (P : Params) : Obj := { cls := PySem.Value.type "code", data := PySem.Data.fields #[PySem.Value.str (PySem.Str.ofString "__get__") 217, PySem.Value.str (PySem.Str.ofString "_tuplegetter.__get__") 218, PySem.Value.str (PySem.Str.ofString "/claim/cut.py") 219, PySem.Value.int 11 0, PySem.Value.int 3 0, PySem.Value.int 0 0, PySem.Value.int 0 0, PySem.Value.int 3 0, PySem.Value.ref 37, PySem.Value.bool Bool.true, PySem.Value.int 181 0, PySem.Value.ref 38, PySem.Value.none, PySem.Value.ref 39, PySem.Value.ref 40, PySem.Value.ref 41, PySem.Value.int 223 0, PySem.Value.int 11 0, PySem.Value.str (PySem.Str.ofString "/claim/cut.py") 224] }
noncomputable def od43 (P : Params) : Obj := { cls := PySem.Value.type "function", data := PySem.Data.func { name := PySem.Str.ofString "__get__", qualname := PySem.Str.ofString "_tuplegetter.__get__", params := Mine.argsOf (m2x1), body := PySem.FuncBody.stmts (Mine.kid (m2x1)), scope := Mine.scpOf (m2x1), globals := 3, closure := [], defaults := PySem.Value.ref 36, kwdefaults := PySem.Value.none, pyModule := PySem.Value.str (PySem.Str.ofString "cpy313.difflib") 194, code := PySem.Value.ref 42 } }
noncomputable def od44 (P : Params) : Obj := { cls := PySem.Value.type "tuple", data := PySem.Data.seq #[] }
noncomputable def od45 (P : Params) : Obj := { cls := PySem.Value.none, data := PySem.Data.fields #[] }
noncomputable def od46 (P : Params) : Obj := { cls := PySem.Value.type "tuple", data := PySem.Data.seq #[PySem.Value.str (PySem.Str.ofString "self") 229, PySem.Value.str (PySem.Str.ofString "obj") 230, PySem.Value.str (PySem.Str.ofString "value") 231] }
noncomputable def od47 (P : Params) : Obj := { cls := PySem.Value.type "tuple", data := PySem.Data.seq #[] }
noncomputable def od48 (P : Params) : Obj := { cls := PySem.Value.none, data := PySem.Data.func { name := PySem.Str.ofString "__set__", qualname := PySem.Str.ofString "_tuplegetter.__set__", params := Mine.argsOf (m2x2), body := PySem.FuncBody.stmts (Mine.kid (m2x2)), scope := Mine.scpOf (m2x2), globals := 0, closure := [], defaults := PySem.Value.none, kwdefaults := PySem.Value.none } }
noncomputable def od49 (P : Params) : Obj := { cls := PySem.Value.type "code", data := PySem.Data.fields #[PySem.Value.str (PySem.Str.ofString "__set__") 226, PySem.Value.str (PySem.Str.ofString "_tuplegetter.__set__") 227, PySem.Value.str (PySem.Str.ofString "/claim/cut.py") 228, PySem.Value.int 18 0, PySem.Value.int 3 0, PySem.Value.int 0 0, PySem.Value.int 0 0, PySem.Value.int 3 0, PySem.Value.ref 44, PySem.Value.bool Bool.true, PySem.Value.int 181 0, PySem.Value.ref 45, PySem.Value.none, PySem.Value.ref 46, PySem.Value.ref 47, PySem.Value.ref 48, PySem.Value.int 232 0, PySem.Value.int 18 0, PySem.Value.str (PySem.Str.ofString "/claim/cut.py") 233] }
noncomputable def od50 (P : Params) : Obj := { cls := PySem.Value.type "function", data := PySem.Data.func { name := PySem.Str.ofString "__set__", qualname := PySem.Str.ofString "_tuplegetter.__set__", params := Mine.argsOf (m2x2), body := PySem.FuncBody.stmts (Mine.kid (m2x2)), scope := Mine.scpOf (m2x2), globals := 3, closure := [], defaults := PySem.Value.none, kwdefaults := PySem.Value.none, pyModule := PySem.Value.str (PySem.Str.ofString "cpy313.difflib") 194, code := PySem.Value.ref 49 } }
noncomputable def od51 (P : Params) : Obj := { cls := PySem.Value.type "tuple", data := PySem.Data.seq #[] }
noncomputable def od52 (P : Params) : Obj := { cls := PySem.Value.none, data := PySem.Data.fields #[] }
noncomputable def od53 (P : Params) : Obj := { cls := PySem.Value.type "tuple", data := PySem.Data.seq #[PySem.Value.str (PySem.Str.ofString "self") 238, PySem.Value.str (PySem.Str.ofString "obj") 239] }
noncomputable def od54 (P : Params) : Obj := { cls := PySem.Value.type "tuple", data := PySem.Data.seq #[] }
noncomputable def od55 (P : Params) : Obj := { cls := PySem.Value.none, data := PySem.Data.func { name := PySem.Str.ofString "__delete__", qualname := PySem.Str.ofString "_tuplegetter.__delete__", params := Mine.argsOf (m2x3), body := PySem.FuncBody.stmts (Mine.kid (m2x3)), scope := Mine.scpOf (m2x3), globals := 0, closure := [], defaults := PySem.Value.none, kwdefaults := PySem.Value.none } }
noncomputable def od56 (P : Params) : Obj := { cls := PySem.Value.type "code", data := PySem.Data.fields #[PySem.Value.str (PySem.Str.ofString "__delete__") 235, PySem.Value.str (PySem.Str.ofString "_tuplegetter.__delete__") 236, PySem.Value.str (PySem.Str.ofString "/claim/cut.py") 237, PySem.Value.int 21 0, PySem.Value.int 2 0, PySem.Value.int 0 0, PySem.Value.int 0 0, PySem.Value.int 3 0, PySem.Value.ref 51, PySem.Value.bool Bool.true, PySem.Value.int 181 0, PySem.Value.ref 52, PySem.Value.none, PySem.Value.ref 53, PySem.Value.ref 54, PySem.Value.ref 55, PySem.Value.int 240 0, PySem.Value.int 21 0, PySem.Value.str (PySem.Str.ofString "/claim/cut.py") 241] }
noncomputable def od57 (P : Params) : Obj := { cls := PySem.Value.type "function", data := PySem.Data.func { name := PySem.Str.ofString "__delete__", qualname := PySem.Str.ofString "_tuplegetter.__delete__", params := Mine.argsOf (m2x3), body := PySem.FuncBody.stmts (Mine.kid (m2x3)), scope := Mine.scpOf (m2x3), globals := 3, closure := [], defaults := PySem.Value.none, kwdefaults := PySem.Value.none, pyModule := PySem.Value.str (PySem.Str.ofString "cpy313.difflib") 194, code := PySem.Value.ref 56 } }
noncomputable def od58 (P : Params) : Obj := { cls := PySem.Value.type "tuple", data := PySem.Data.seq #[PySem.Value.str (PySem.Str.ofString "__doc__") 243, PySem.Value.str (PySem.Str.ofString "index") 244] }
noncomputable def od59 (P : Params) : Obj := { cls := PySem.Value.type "dict", data := PySem.Data.dict #[{ hash := PySem.PyData.keyHash P (PySem.Str.ofString "__module__"), key := PySem.Value.str (PySem.Str.ofString "__module__") 203, val := PySem.Value.str (PySem.Str.ofString "cpy313.difflib") 194 }, { hash := PySem.PyData.keyHash P (PySem.Str.ofString "__firstlineno__"), key := PySem.Value.str (PySem.Str.ofString "__firstlineno__") 207, val := PySem.Value.int 5 206 }, { hash := PySem.PyData.keyHash P (PySem.Str.ofString "__init__"), key := PySem.Value.str (PySem.Str.ofString "__init__") 216, val := PySem.Value.ref 35 }, { hash := PySem.PyData.keyHash P (PySem.Str.ofString "__get__"), key := PySem.Value.str (PySem.Str.ofString "__get__") 225, val := PySem.Value.ref 43 }, { hash := PySem.PyData.keyHash P (PySem.Str.ofString "__set__"), key := PySem.Value.str (PySem.Str.ofString "__set__") 234, val := PySem.Value.ref 50 }, { hash := PySem.PyData.keyHash P (PySem.Str.ofString "__delete__"), key := PySem.Value.str (PySem.Str.ofString "__delete__") 242, val := PySem.Value.ref 57 }, { hash := PySem.PyData.keyHash P (PySem.Str.ofString "__static_attributes__"), key := PySem.Value.str (PySem.Str.ofString "__static_attributes__") 245, val := PySem.Value.ref 58 }, { hash := PySem.PyData.keyHash P (PySem.Str.ofString "__dict__"), key := PySem.Value.str (PySem.Str.ofString "__dict__") 247, val := PySem.Value.ref 61 }, { hash := PySem.PyData.keyHash P (PySem.Str.ofString "__weakref__"), key := PySem.Value.str (PySem.Str.ofString "__weakref__") 249, val := PySem.Value.ref 62 }, { hash := PySem.PyData.keyHash P (PySem.Str.ofString "__doc__"), key := PySem.Value.str (PySem.Str.ofString "__doc__") 250, val := PySem.Value.none }] 4 }
noncomputable def od60 (P : Params) : Obj := { cls := PySem.Value.type "type", data := PySem.Data.cls { name := PySem.Str.ofString "_tuplegetter", bases := [PySem.Value.type "object"], mro := [PySem.Value.ref 60, PySem.Value.type "object"], ns := 59, qualname := PySem.Str.ofString "_tuplegetter" }, slots := #[Option.none, Option.none, Option.some (PySem.Value.str (PySem.Str.ofString "_tuplegetter") 196), Option.some (PySem.Value.str (PySem.Str.ofString "_tuplegetter") 204), Option.some (PySem.Value.builtin "object.__new__"), Option.some (PySem.Value.bool Bool.true)] }
noncomputable def od61 (P : Params) : Obj := { cls := PySem.Value.type "getset_descriptor", data := PySem.Data.fields #[PySem.Value.str (PySem.Str.ofString "__dict__") 246, PySem.Value.ref 60, PySem.Value.builtin "function.__dict__", PySem.Value.builtin "function.__dict__#set"] }
noncomputable def od62 (P : Params) : Obj := { cls := PySem.Value.type "getset_descriptor", data := PySem.Data.fields #[PySem.Value.str (PySem.Str.ofString "__weakref__") 248, PySem.Value.ref 60, PySem.Value.builtin "ExceptionGroup.__weakref__", PySem.Value.none] }
noncomputable def od63 (P : Params) : Obj := { cls := PySem.Value.type "super", data := PySem.Data.fields #[PySem.Value.ref 60, PySem.Value.ref 60, PySem.Value.ref 60] }
noncomputable def od64 (P : Params) : Obj := { cls := PySem.Value.type "builtin_function_or_method", data := PySem.Data.fields #[PySem.Value.builtin "object.__init_subclass__", PySem.Value.ref 60] }
noncomputable def treeYk6x63 (P : Params) : BT := (.node (od63 P) .nil .nil)
noncomputable def treeYk3x7 (P : Params) : BT := (.node (PySem.W.boot_o_7 P) (.node (od15 P) (.node (od31 P) (treeYk6x63 P) .nil) (.node (od47 P) .nil .nil)) (.node (od23 P) (.node (od39 P) .nil .nil) (.node (od55 P) .nil .nil)))
noncomputable def treeYk3x11 (P : Params) : BT := (.node (oc11 P) (.node (od19 P) (.node (od35 P) .nil .nil) (.node (od51 P) .nil .nil)) (.node (od27 P) (.node (od43 P) .nil .nil) (.node (od59 P) .nil .nil)))
noncomputable def treeYk3x9 (P : Params) : BT := (.node (PySem.W.boot_o_9 P) (.node (od17 P) (.node (od33 P) .nil .nil) (.node (od49 P) .nil .nil)) (.node (od25 P) (.node (od41 P) .nil .nil) (.node (od57 P) .nil .nil)))
noncomputable def treeYk3x13 (P : Params) : BT := (.node (oc13 P) (.node (od21 P) (.node (od37 P) .nil .nil) (.node (od53 P) .nil .nil)) (.node (od29 P) (.node (od45 P) .nil .nil) (.node (od61 P) .nil .nil)))
noncomputable def treeYk6x64 (P : Params) : BT := (.node (od64 P) .nil .nil)
noncomputable def treeYk3x8 (P : Params) : BT := (.node (PySem.W.boot_o_8 P) (.node (od16 P) (.node (od32 P) (treeYk6x64 P) .nil) (.node (od48 P) .nil .nil)) (.node (od24 P) (.node (od40 P) .nil .nil) (.node (od56 P) .nil .nil)))
noncomputable def treeYk3x12 (P : Params) : BT := (.node (od12 P) (.node (od20 P) (.node (od36 P) .nil .nil) (.node (od52 P) .nil .nil)) (.node (od28 P) (.node (od44 P) .nil .nil) (.node (od60 P) .nil .nil)))
noncomputable def treeYk3x10 (P : Params) : BT := (.node (PySem.W.boot_o_10 P) (.node (od18 P) (.node (od34 P) .nil .nil) (.node (od50 P) .nil .nil)) (.node (od26 P) (.node (od42 P) .nil .nil) (.node (od58 P) .nil .nil)))
noncomputable def treeYk3x14 (P : Params) : BT := (.node (oc14 P) (.node (od22 P) (.node (od38 P) .nil .nil) (.node (od54 P) .nil .nil)) (.node (od30 P) (.node (od46 P) .nil .nil) (.node (od62 P) .nil .nil)))
noncomputable def treeY (P : Params) : BT := (.node (PySem.W.boot_o_0 P) (.node (PySem.W.boot_o_1 P) (.node (od3 P) (treeYk3x7 P) (treeYk3x11 P)) (.node (PySem.W.boot_o_5 P) (treeYk3x9 P) (treeYk3x13 P))) (.node (PySem.W.boot_o_2 P) (.node (PySem.W.boot_o_4 P) (treeYk3x8 P) (treeYk3x12 P)) (.node (PySem.W.boot_o_6 P) (treeYk3x10 P) (treeYk3x14 P))))
noncomputable def oe3 (P : Params) : Obj := { cls := PySem.Value.type "dict", data := PySem.Data.dict #[{ hash := PySem.PyData.keyHash P (PySem.Str.ofString "__name__"), key := PySem.Value.str (PySem.Str.ofString "__name__") 165, val := PySem.Value.str (PySem.Str.ofString "cpy313.difflib") 194 }, { hash := PySem.PyData.keyHash P (PySem.Str.ofString "__doc__"), key := PySem.Value.str (PySem.Str.ofString "__doc__") 166, val := PySem.Value.none }, { hash := PySem.PyData.keyHash P (PySem.Str.ofString "__package__"), key := PySem.Value.str (PySem.Str.ofString "__package__") 167, val := PySem.Value.none }, { hash := PySem.PyData.keyHash P (PySem.Str.ofString "__loader__"), key := PySem.Value.str (PySem.Str.ofString "__loader__") 168, val := PySem.Value.builtin "__main__.__loader__#opaque" }, { hash := PySem.PyData.keyHash P (PySem.Str.ofString "__spec__"), key := PySem.Value.str (PySem.Str.ofString "__spec__") 169, val := PySem.Value.none }, { hash := PySem.PyData.keyHash P (PySem.Str.ofString "__annotations__"), key := PySem.Value.str (PySem.Str.ofString "__annotations__") 170, val := PySem.Value.ref 6 }, { hash := PySem.PyData.keyHash P (PySem.Str.ofString "__builtins__"), key := PySem.Value.str (PySem.Str.ofString "__builtins__") 171, val := PySem.Value.ref 4 }, { hash := PySem.PyData.keyHash P (PySem.Str.ofString "__file__"), key := PySem.Value.str (PySem.Str.ofString "__file__") 173, val := PySem.Value.str (PySem.Str.ofString "/claim/cut.py") 172 }, { hash := PySem.PyData.keyHash P (PySem.Str.ofString "__cached__"), key := PySem.Value.str (PySem.Str.ofString "__cached__") 174, val := PySem.Value.none }, { hash := PySem.PyData.keyHash P (PySem.Str.ofString "_wall"), key := PySem.Value.str (PySem.Str.ofString "_wall") 193, val := PySem.Value.ref 21 }, { hash := PySem.PyData.keyHash P (PySem.Str.ofString "_tuplegetter"), key := PySem.Value.str (PySem.Str.ofString "_tuplegetter") 252, val := PySem.Value.ref 60 }, { hash := PySem.PyData.keyHash P (PySem.Str.ofString "Match"), key := PySem.Value.str (PySem.Str.ofString "Match") 380, val := PySem.Value.ref 135 }, { hash := PySem.PyData.keyHash P (PySem.Str.ofString "_calculate_ratio"), key := PySem.Value.str (PySem.Str.ofString "_calculate_ratio") 388, val := PySem.Value.ref 145 }] 13 }
noncomputable def oe12 (P : Params) : Obj := { cls := PySem.Value.none, data := PySem.Data.fields #[PySem.Value.int 1 0, PySem.Value.int 0 0, PySem.Value.ref 20, PySem.Value.int 5 0, PySem.Value.int 0 0, PySem.Value.ref 27, PySem.Value.int 23 0, PySem.Value.int 0 0, PySem.Value.ref 71, PySem.Value.int 66 0, PySem.Value.int 0 0, PySem.Value.ref 144] }
noncomputable def oe65 (P : Params) : Obj := { cls := PySem.Value.type "tuple", data := PySem.Data.seq #[PySem.Value.type "tuple"] }
noncomputable def oe66 (P : Params) : Obj := { cls := PySem.Value.type "builtin_function_or_method", data := PySem.Data.fields #[PySem.Value.builtin "type.__prepare__", PySem.Value.type "type"] }
noncomputable def oe67 (P : Params) : Obj := { cls := PySem.Value.type "dict", data := PySem.Data.dict #[{ hash := PySem.PyData.keyHash P (PySem.Str.ofString "__module__"), key := PySem.Value.str (PySem.Str.ofString "__module__") 260, val := PySem.Value.str (PySem.Str.ofString "cpy313.difflib") 194 }, { hash := PySem.PyData.keyHash P (PySem.Str.ofString "__qualname__"), key := PySem.Value.str (PySem.Str.ofString "__qualname__") 262, val := PySem.Value.str (PySem.Str.ofString "Match") 261 }, { hash := PySem.PyData.keyHash P (PySem.Str.ofString "__firstlineno__"), key := PySem.Value.str (PySem.Str.ofString "__firstlineno__") 264, val := PySem.Value.int 23 263 }, { hash := PySem.PyData.keyHash P (PySem.Str.ofString "__doc__"), key := PySem.Value.str (PySem.Str.ofString "__doc__") 266, val := PySem.Value.str (Mine.dcOf (Mine.kid (tS3))) 265 }, { hash := PySem.PyData.keyHash P (PySem.Str.ofString "__slots__"), key := PySem.Value.str (PySem.Str.ofString "__slots__") 268, val := PySem.Value.ref 73 }, { hash := PySem.PyData.keyHash P (PySem.Str.ofString "_fields"), key := PySem.Value.str (PySem.Str.ofString "_fields") 272, val := PySem.Value.ref 74 }, { hash := PySem.PyData.keyHash P (PySem.Str.ofString "_field_defaults"), key := PySem.Value.str (PySem.Str.ofString "_field_defaults") 273, val := PySem.Value.ref 75 }, { hash := PySem.PyData.keyHash P (PySem.Str.ofString "__new__"), key := PySem.Value.str (PySem.Str.ofString "__new__") 284, val := PySem.Value.ref 82 }, { hash := PySem.PyData.keyHash P (PySem.Str.ofString "_make"), key := PySem.Value.str (PySem.Str.ofString "_make") 306, val := PySem.Value.ref 91 }, { hash := PySem.PyData.keyHash P (PySem.Str.ofString "_replace"), key := PySem.Value.str (PySem.Str.ofString "_replace") 317, val := PySem.Value.ref 100 }, { hash := PySem.PyData.keyHash P (PySem.Str.ofString "__replace__"), key := PySem.Value.str (PySem.Str.ofString "__replace__") 318, val := PySem.Value.ref 100 }, { hash := PySem.PyData.keyHash P (PySem.Str.ofString "__repr__"), key := PySem.Value.str (PySem.Str.ofString "__repr__") 326, val := PySem.Value.ref 107 }, { hash := PySem.PyData.keyHash P (PySem.Str.ofString "_asdict"), key := PySem.Value.str (PySem.Str.ofString "_asdict") 333, val := PySem.Value.ref 114 }, { hash := PySem.PyData.keyHash P (PySem.Str.ofString "__getnewargs__"), key := PySem.Value.str (PySem.Str.ofString "__getnewargs__") 341, val := PySem.Value.ref 121 }, { hash := PySem.PyData.keyHash P (PySem.Str.ofString "__match_args__"), key := PySem.Value.str (PySem.Str.ofString "__match_args__") 345, val := PySem.Value.ref 122 }, { hash := PySem.PyData.keyHash P (PySem.Str.ofString "a"), key := PySem.Value.str (PySem.Str.ofString "a") 355, val := PySem.Value.ref 124 }, { hash := PySem.PyData.keyHash P (PySem.Str.ofString "b"), key := PySem.Value.str (PySem.Str.ofString "b") 365, val := PySem.Value.ref 127 }, { hash := PySem.PyData.keyHash P (PySem.Str.ofString "size"), key := PySem.Value.str (PySem.Str.ofString "size") 375, val := PySem.Value.ref 130 }, { hash := PySem.PyData.keyHash P (PySem.Str.ofString "__static_attributes__"), key := PySem.Value.str (PySem.Str.ofString "__static_attributes__") 376, val := PySem.Value.ref 132 }, { hash := PySem.PyData.keyHash P (PySem.Str.ofString "__classcell__"), key := PySem.Value.str (PySem.Str.ofString "__classcell__") 377, val := PySem.Value.ref 68 }] 20 }
noncomputable def oe68 (P : Params) : Obj := { cls := PySem.Value.type "cell", data := PySem.Data.cell (Option.some (PySem.Value.ref 135)) }
noncomputable def oe69 (P : Params) : Obj := { cls := PySem.Value.type "tuple", data := PySem.Data.seq #[] }
noncomputable def oe70 (P : Params) : Obj := { cls := PySem.Value.none, data := PySem.Data.fields #[PySem.Value.int 29 0, PySem.Value.int 4 0, PySem.Value.ref 81, PySem.Value.int 34 0, PySem.Value.int 4 0, PySem.Value.ref 88, PySem.Value.int 41 0, PySem.Value.int 4 0, PySem.Value.ref 99, PySem.Value.int 52 0, PySem.Value.int 4 0, PySem.Value.ref 106, PySem.Value.int 56 0, PySem.Value.int 4 0, PySem.Value.ref 113, PySem.Value.int 59 0, PySem.Value.int 4 0, PySem.Value.ref 120] }
noncomputable def oe71 (P : Params) : Obj := { cls := PySem.Value.type "code", data := PySem.Data.fields #[PySem.Value.str (PySem.Str.ofString "Match") 255, PySem.Value.str (PySem.Str.ofString "Match") 256, PySem.Value.str (PySem.Str.ofString "/claim/cut.py") 257, PySem.Value.int 23 0, PySem.Value.int 0 0, PySem.Value.int 0 0, PySem.Value.int 0 0, PySem.Value.int 0 0, PySem.Value.ref 69, PySem.Value.bool Bool.false, PySem.Value.int 181 0, PySem.Value.ref 70, PySem.Value.none, PySem.Value.none, PySem.Value.none, PySem.Value.none, PySem.Value.int 258 0, PySem.Value.int 23 0, PySem.Value.str (PySem.Str.ofString "/claim/cut.py") 259] }
noncomputable def oe72 (P : Params) : Obj := { cls := PySem.Value.type "frame", slots := #[Option.some (PySem.Value.ref 71), Option.some (PySem.Value.ref 3), Option.some (PySem.Value.ref 67), Option.none, Option.some (PySem.Value.str (PySem.Str.ofString "cpy313.difflib") 194), Option.none, Option.some (PySem.Value.ref 0)] }
noncomputable def oe73 (P : Params) : Obj := { cls := PySem.Value.type "tuple", data := PySem.Data.seq #[] }
noncomputable def oe74 (P : Params) : Obj := { cls := PySem.Value.type "tuple", data := PySem.Data.seq #[PySem.Value.str (PySem.Str.ofString "a") 269, PySem.Value.str (PySem.Str.ofString "b") 270, PySem.Value.str (PySem.Str.ofString "size") 271] }
noncomputable def oe75 (P : Params) : Obj := { cls := PySem.Value.type "dict", data := PySem.Data.dict #[] }
noncomputable def oe76 (P : Params) : Obj := { cls := PySem.Value.type "tuple", data := PySem.Data.seq #[] }
noncomputable def oe77 (P : Params) : Obj := { cls := PySem.Value.none, data := PySem.Data.fields #[] }
noncomputable def oe78 (P : Params) : Obj := { cls := PySem.Value.type "tuple", data := PySem.Data.seq #[PySem.Value.str (PySem.Str.ofString "_cls") 277, PySem.Value.str (PySem.Str.ofString "a") 278, PySem.Value.str (PySem.Str.ofString "b") 279, PySem.Value.str (PySem.Str.ofString "size") 280] }
noncomputable def oe79 (P : Params) : Obj := { cls := PySem.Value.type "tuple", data := PySem.Data.seq #[] }
noncomputable def oe80 (P : Params) : Obj := { cls := PySem.Value.none, data := PySem.Data.func { name := PySem.Str.ofString "__new__", qualname := PySem.Str.ofString "Match.__new__", params := Mine.argsOf (m3x4), body := PySem.FuncBody.stmts (Mine.kid (m3x4)), scope := Mine.scpOf (m3x4), globals := 0, closure := [], defaults := PySem.Value.none, kwdefaults := PySem.Value.none } }
noncomputable def oe81 (P : Params) : Obj := { cls := PySem.Value.type "code", data := PySem.Data.fields #[PySem.Value.str (PySem.Str.ofString "__new__") 274, PySem.Value.str (PySem.Str.ofString "Match.__new__") 275, PySem.Value.str (PySem.Str.ofString "/claim/cut.py") 276, PySem.Value.int 29 0, PySem.Value.int 4 0, PySem.Value.int 0 0, PySem.Value.int 0 0, PySem.Value.int 3 0, PySem.Value.ref 76, PySem.Value.bool Bool.true, PySem.Value.int 181 0, PySem.Value.ref 77, PySem.Value.none, PySem.Value.ref 78, PySem.Value.ref 79, PySem.Value.ref 80, PySem.Value.int 281 0, PySem.Value.int 29 0, PySem.Value.str (PySem.Str.ofString "/claim/cut.py") 282] }
noncomputable def oe82 (P : Params) : Obj := { cls := PySem.Value.type "function", data := PySem.Data.func { name := PySem.Str.ofString "__new__", qualname := PySem.Str.ofString "Match.__new__", params := Mine.argsOf (m3x4), body := PySem.FuncBody.stmts (Mine.kid (m3x4)), scope := Mine.scpOf (m3x4), globals := 3, closure := [], defaults := PySem.Value.none, kwdefaults := PySem.Value.none, doc := PySem.Value.str (Mine.dcOf (Mine.kid (m3x4))) 283, pyModule := PySem.Value.str (PySem.Str.ofString "cpy313.difflib") 194, code := PySem.Value.ref 81 } }
noncomputable def oe83 (P : Params) : Obj := { cls := PySem.Value.type "tuple", data := PySem.Data.seq #[] }
noncomputable def oe84 (P : Params) : Obj := { cls := PySem.Value.none, data := PySem.Data.fields #[] }
noncomputable def oe85 (P : Params) : Obj := { cls := PySem.Value.type "tuple", data := PySem.Data.seq #[PySem.Value.str (PySem.Str.ofString "cls") 288, PySem.Value.str (PySem.Str.ofString "iterable") 289, PySem.Value.str (PySem.Str.ofString "result") 290] }
noncomputable def oe86 (P : Params) : Obj := { cls := PySem.Value.type "tuple", data := PySem.Data.seq #[] }
noncomputable def oe87 (P : Params) : Obj := { cls := PySem.Value.none, data := PySem.Data.func { name := PySem.Str.ofString "_make", qualname := PySem.Str.ofString "Match._make", params := Mine.argsOf (m3x5), body := PySem.FuncBody.stmts (Mine.kid (m3x5)), scope := Mine.scpOf (m3x5), globals := 0, closure := [], defaults := PySem.Value.none, kwdefaults := PySem.Value.none } }
noncomputable def oe88 (P : Params) : Obj := { cls := PySem.Value.type "code", data := PySem.Data.fields #[PySem.Value.str (PySem.Str.ofString "_make") 285, PySem.Value.str (PySem.Str.ofString "Match._make") 286, PySem.Value.str (PySem.Str.ofString "/claim/cut.py") 287, PySem.Value.int 33 0, PySem.Value.int 2 0, PySem.Value.int 0 0, PySem.Value.int 0 0, PySem.Value.int 3 0, PySem.Value.ref 83, PySem.Value.bool Bool.true, PySem.Value.int 181 0, PySem.Value.ref 84, PySem.Value.none, PySem.Value.ref 85, PySem.Value.ref 86, PySem.Value.ref 87, PySem.Value.int 291 0, PySem.Value.int 33 0, PySem.Value.str (PySem.Str.ofString "/claim/cut.py") 292] }
noncomputable def oe89 (P : Params) : Obj := { cls := PySem.Value.type "function", data := PySem.Data.func { name := PySem.Str.ofString "_make", qualname := PySem.Str.ofString "Match._make", params := Mine.argsOf (m3x5), body := PySem.FuncBody.stmts (Mine.kid (m3x5)), scope := Mine.scpOf (m3x5), globals := 3, closure := [], defaults := PySem.Value.none, kwdefaults := PySem.Value.none, doc := PySem.Value.str (Mine.dcOf (Mine.kid (m3x5))) 293, pyModule := PySem.Value.str (PySem.Str.ofString "cpy313.difflib") 194, annotations := Option.some 92, code := PySem.Value.ref 88 } }
noncomputable def oe90 (P : Params) : Obj := { cls := PySem.Value.type "dict", data := PySem.Data.dict #[{ hash := PySem.PyData.keyHash P (PySem.Str.ofString "__module__"), key := PySem.Value.str (PySem.Str.ofString "__module__") 295, val := PySem.Value.str (PySem.Str.ofString "cpy313.difflib") 194 }, { hash := PySem.PyData.keyHash P (PySem.Str.ofString "__name__"), key := PySem.Value.str (PySem.Str.ofString "__name__") 298, val := PySem.Value.str (PySem.Str.ofString "_make") 297 }, { hash := PySem.PyData.keyHash P (PySem.Str.ofString "__qualname__"), key := PySem.Value.str (PySem.Str.ofString "__qualname__") 301, val := PySem.Value.str (PySem.Str.ofString "Match._make") 300 }, { hash := PySem.PyData.keyHash P (PySem.Str.ofString "__doc__"), key := PySem.Value.str (PySem.Str.ofString "__doc__") 303, val := PySem.Value.str (Mine.dcOf (Mine.kid (m3x5))) 293 }, { hash := PySem.PyData.keyHash P (PySem.Str.ofString "__annotations__"), key := PySem.Value.str (PySem.Str.ofString "__annotations__") 305, val := PySem.Value.ref 92 }] 5 }
noncomputable def oe91 (P : Params) : Obj := { cls := PySem.Value.type "classmethod", dict := Option.some 90, data := PySem.Data.fields #[PySem.Value.ref 89, PySem.Value.bool Bool.false] }
noncomputable def oe92 (P : Params) : Obj := { cls := PySem.Value.type "dict", data := PySem.Data.dict #[] }
noncomputable def oe93 (P : Params) : Obj := { cls := PySem.Value.type "tuple", data := PySem.Data.seq #[PySem.Value.ref 68] }
noncomputable def oe94 (P : Params) : Obj := { cls := PySem.Value.type "tuple", data := PySem.Data.seq #[PySem.Value.str (PySem.Str.ofString "__class__") 310] }
noncomputable def oe95 (P : Params) : Obj := { cls := PySem.Value.none, data := PySem.Data.fields #[] }
noncomputable def oe96 (P : Params) : Obj := { cls := PySem.Value.type "tuple", data := PySem.Data.seq #[PySem.Value.str (PySem.Str.ofString "self") 311, PySem.Value.str (PySem.Str.ofString "kwds") 312, PySem.Value.str (PySem.Str.ofString "result") 313] }
noncomputable def oe97 (P : Params) : Obj := { cls := PySem.Value.type "tuple", data := PySem.Data.seq #[] }
noncomputable def oe98 (P : Params) : Obj := { cls := PySem.Value.none, data := PySem.Data.func { name := PySem.Str.ofString "_replace", qualname := PySem.Str.ofString "Match._replace", params := Mine.argsOf (m3x6), body := PySem.FuncBody.stmts (Mine.kid (m3x6)), scope := Mine.scpOf (m3x6), globals := 0, closure := [], defaults := PySem.Value.none, kwdefaults := PySem.Value.none } }
noncomputable def oe99 (P : Params) : Obj := { cls := PySem.Value.type "code", data := PySem.Data.fields #[PySem.Value.str (PySem.Str.ofString "_replace") 307, PySem.Value.str (PySem.Str.ofString "Match._replace") 308, PySem.Value.str (PySem.Str.ofString "/claim/cut.py") 309, PySem.Value.int 41 0, PySem.Value.int 1 0, PySem.Value.int 1 0, PySem.Value.int 0 0, PySem.Value.int 11 0, PySem.Value.ref 94, PySem.Value.bool Bool.true, PySem.Value.int 181 0, PySem.Value.ref 95, PySem.Value.none, PySem.Value.ref 96, PySem.Value.ref 97, PySem.Value.ref 98, PySem.Value.int 314 0, PySem.Value.int 41 0, PySem.Value.str (PySem.Str.ofString "/claim/cut.py") 315] }
noncomputable def oe100 (P : Params) : Obj := { cls := PySem.Value.type "function", data := PySem.Data.func { name := PySem.Str.ofString "_replace", qualname := PySem.Str.ofString "Match._replace", params := Mine.argsOf (m3x6), body := PySem.FuncBody.stmts (Mine.kid (m3x6)), scope := Mine.scpOf (m3x6), globals := 3, closure := [(PySem.Str.ofString "__class__", 68)], defaults := PySem.Value.none, kwdefaults := PySem.Value.none, doc := PySem.Value.str (Mine.dcOf (Mine.kid (m3x6))) 316, pyModule := PySem.Value.str (PySem.Str.ofString "cpy313.difflib") 194, code := PySem.Value.ref 99, closureTuple := PySem.Value.ref 93 } }
noncomputable def oe101 (P : Params) : Obj := { cls := PySem.Value.type "tuple", data := PySem.Data.seq #[] }
noncomputable def oe102 (P : Params) : Obj := { cls := PySem.Value.none, data := PySem.Data.fields #[] }
noncomputable def oe103 (P : Params) : Obj := { cls := PySem.Value.type "tuple", data := PySem.Data.seq #[PySem.Value.str (PySem.Str.ofString "self") 322] }
noncomputable def oe104 (P : Params) : Obj := { cls := PySem.Value.type "tuple", data := PySem.Data.seq #[] }
noncomputable def oe105 (P : Params) : Obj := { cls := PySem.Value.none, data := PySem.Data.func { name := PySem.Str.ofString "__repr__", qualname := PySem.Str.ofString "Match.__repr__", params := Mine.argsOf (m3x8), body := PySem.FuncBody.stmts (Mine.kid (m3x8)), scope := Mine.scpOf (m3x8), globals := 0, closure := [], defaults := PySem.Value.none, kwdefaults := PySem.Value.none } }
noncomputable def oe106 (P : Params) : Obj := { cls := PySem.Value.type "code", data := PySem.Data.fields #[PySem.Value.str (PySem.Str.ofString "__repr__") 319, PySem.Value.str (PySem.Str.ofString "Match.__repr__") 320, PySem.Value.str (PySem.Str.ofString "/claim/cut.py") 321, PySem.Value.int 52 0, PySem.Value.int 1 0, PySem.Value.int 0 0, PySem.Value.int 0 0, PySem.Value.int 3 0, PySem.Value.ref 101, PySem.Value.bool Bool.true, PySem.Value.int 181 0, PySem.Value.ref 102, PySem.Value.none, PySem.Value.ref 103, PySem.Value.ref 104, PySem.Value.ref 105, PySem.Value.int 323 0, PySem.Value.int 52 0, PySem.Value.str (PySem.Str.ofString "/claim/cut.py") 324] }
noncomputable def oe107 (P : Params) : Obj := { cls := PySem.Value.type "function", data := PySem.Data.func { name := PySem.Str.ofString "__repr__", qualname := PySem.Str.ofString "Match.__repr__", params := Mine.argsOf (m3x8), body := PySem.FuncBody.stmts (Mine.kid (m3x8)), scope := Mine.scpOf (m3x8), globals := 3, closure := [], defaults := PySem.Value.none, kwdefaults := PySem.Value.none, doc := PySem.Value.str (Mine.dcOf (Mine.kid (m3x8))) 325, pyModule := PySem.Value.str (PySem.Str.ofString "cpy313.difflib") 194, code := PySem.Value.ref 106 } }
noncomputable def oe108 (P : Params) : Obj := { cls := PySem.Value.type "tuple", data := PySem.Data.seq #[] }
noncomputable def oe109 (P : Params) : Obj := { cls := PySem.Value.none, data := PySem.Data.fields #[] }
noncomputable def oe110 (P : Params) : Obj := { cls := PySem.Value.type "tuple", data := PySem.Data.seq #[PySem.Value.str (PySem.Str.ofString "self") 330] }
noncomputable def oe111 (P : Params) : Obj := { cls := PySem.Value.type "tuple", data := PySem.Data.seq #[] }
noncomputable def oe112 (P : Params) : Obj := { cls := PySem.Value.none, data := PySem.Data.func { name := PySem.Str.ofString "_asdict", qualname := PySem.Str.ofString "Match._asdict", params := Mine.argsOf (m3x9), body := PySem.FuncBody.stmts (Mine.kid (m3x9)), scope := Mine.scpOf (m3x9), globals := 0, closure := [], defaults := PySem.Value.none, kwdefaults := PySem.Value.none } }
noncomputable def oe113 (P : Params) : Obj := { cls := PySem.Value.type "code", data := PySem.Data.fields #[PySem.Value.str (PySem.Str.ofString "_asdict") 327, PySem.Value.str (PySem.Str.ofString "Match._asdict") 328, PySem.Value.str (PySem.Str.ofString "/claim/cut.py") 329, PySem.Value.int 56 0, PySem.Value.int 1 0, PySem.Value.int 0 0, PySem.Value.int 0 0, PySem.Value.int 3 0, PySem.Value.ref 108, PySem.Value.bool Bool.true, PySem.Value.int 181 0, PySem.Value.ref 109, PySem.Value.none, PySem.Value.ref 110, PySem.Value.ref 111, PySem.Value.ref 112, PySem.Value.int 331 0, PySem.Value.int 56 0, PySem.Value.str (PySem.Str.ofString "/claim/cut.py") 332] }
noncomputable def oe114 (P : Params) : Obj := { cls := PySem.Value.type "function", data := PySem.Data.func { name := PySem.Str.ofString "_asdict", qualname := PySem.Str.ofString "Match._asdict", params := Mine.argsOf (m3x9), body := PySem.FuncBody.stmts (Mine.kid (m3x9)), scope := Mine.scpOf (m3x9), globals := 3, closure := [], defaults := PySem.Value.none, kwdefaults := PySem.Value.none, pyModule := PySem.Value.str (PySem.Str.ofString "cpy313.difflib") 194, code := PySem.Value.ref 113 } }
noncomputable def oe115 (P : Params) : Obj := { cls := PySem.Value.type "tuple", data := PySem.Data.seq #[] }
noncomputable def oe116 (P : Params) : Obj := { cls := PySem.Value.none, data := PySem.Data.fields #[] }
noncomputable def oe117 (P : Params) : Obj := { cls := PySem.Value.type "tuple", data := PySem.Data.seq #[PySem.Value.str (PySem.Str.ofString "self") 337] }
noncomputable def oe118 (P : Params) : Obj := { cls := PySem.Value.type "tuple", data := PySem.Data.seq #[] }
noncomputable def oe119 (P : Params) : Obj := { cls := PySem.Value.none, data := PySem.Data.func { name := PySem.Str.ofString "__getnewargs__", qualname := PySem.Str.ofString "Match.__getnewargs__", params := Mine.argsOf (m3x10), body := PySem.FuncBody.stmts (Mine.kid (m3x10)), scope := Mine.scpOf (m3x10), globals := 0, closure := [], defaults := PySem.Value.none, kwdefaults := PySem.Value.none } }
noncomputable def oe120 (P : Params) : Obj := { cls := PySem.Value.type "code", data := PySem.Data.fields #[PySem.Value.str (PySem.Str.ofString "__getnewargs__") 334, PySem.Value.str (PySem.Str.ofString "Match.__getnewargs__") 335, PySem.Value.str (PySem.Str.ofString "/claim/cut.py") 336, PySem.Value.int 59 0, PySem.Value.int 1 0, PySem.Value.int 0 0, PySem.Value.int 0 0, PySem.Value.int 3 0, PySem.Value.ref 115, PySem.Value.bool Bool.true, PySem.Value.int 181 0, PySem.Value.ref 116, PySem.Value.none, PySem.Value.ref 117, PySem.Value.ref 118, PySem.Value.ref 119, PySem.Value.int 338 0, PySem.Value.int 59 0, PySem.Value.str (PySem.Str.ofString "/claim/cut.py") 339] }
noncomputable def oe121 (P : Params) : Obj := { cls := PySem.Value.type "function", data := PySem.Data.func { name := PySem.Str.ofString "__getnewargs__", qualname := PySem.Str.ofString "Match.__getnewargs__", params := Mine.argsOf (m3x10), body := PySem.FuncBody.stmts (Mine.kid (m3x10)), scope := Mine.scpOf (m3x10), globals := 3, closure := [], defaults := PySem.Value.none, kwdefaults := PySem.Value.none, doc := PySem.Value.str (Mine.dcOf (Mine.kid (m3x10))) 340, pyModule := PySem.Value.str (PySem.Str.ofString "cpy313.difflib") 194, code := PySem.Value.ref 120 } }
noncomputable def oe122 (P : Params) : Obj := { cls := PySem.Value.type "tuple", data := PySem.Data.seq #[PySem.Value.str (PySem.Str.ofString "a") 342, PySem.Value.str (PySem.Str.ofString "b") 343, PySem.Value.str (PySem.Str.ofString "size") 344] }
noncomputable def oe123 (P : Params) : Obj := { cls := PySem.Value.type "dict", data := PySem.Data.dict #[{ hash := PySem.PyData.keyHash P (PySem.Str.ofString "index"), key := PySem.Value.str (PySem.Str.ofString "index") 352, val := PySem.Value.int 0 346 }, { hash := PySem.PyData.keyHash P (PySem.Str.ofString "__doc__"), key := PySem.Value.str (PySem.Str.ofString "__doc__") 354, val := PySem.Value.str (PySem.Str.ofString "Alias for field number 0") 347 }] 2 }
noncomputable def oe124 (P : Params) : Obj := { cls := PySem.Value.ref 60, dict := Option.some 123 }
noncomputable def oe125 (P : Params) : Obj := { cls := PySem.Value.type "frame", data := PySem.Data.dict #[{ hash := PySem.PyData.keyHash P (PySem.Str.ofString "self"), key := PySem.Value.str (PySem.Str.ofString "self") 348, val := PySem.Value.ref 124 }, { hash := PySem.PyData.keyHash P (PySem.Str.ofString "index"), key := PySem.Value.str (PySem.Str.ofString "index") 349, val := PySem.Value.int 0 346 }, { hash := PySem.PyData.keyHash P (PySem.Str.ofString "doc"), key := PySem.Value.str (PySem.Str.ofString "doc") 350, val := PySem.Value.str (PySem.Str.ofString "Alias for field number 0") 347 }] 3 }
noncomputable def oe126 (P : Params) : Obj := { cls := PySem.Value.type "dict", data := PySem.Data.dict #[{ hash := PySem.PyData.keyHash P (PySem.Str.ofString "index"), key := PySem.Value.str (PySem.Str.ofString "index") 362, val := PySem.Value.int 1 356 }, { hash := PySem.PyData.keyHash P (PySem.Str.ofString "__doc__"), key := PySem.Value.str (PySem.Str.ofString "__doc__") 364, val := PySem.Value.str (PySem.Str.ofString "Alias for field number 1") 357 }] 2 }
noncomputable def oe127 (P : Params) : Obj := { cls := PySem.Value.ref 60, dict := Option.some 126 }
noncomputable def oe128 (P : Params) : Obj := { cls := PySem.Value.type "frame", data := PySem.Data.dict #[{ hash := PySem.PyData.keyHash P (PySem.Str.ofString "self"), key := PySem.Value.str (PySem.Str.ofString "self") 358, val := PySem.Value.ref 127 }, { hash := PySem.PyData.keyHash P (PySem.Str.ofString "index"), key := PySem.Value.str (PySem.Str.ofString "index") 359, val := PySem.Value.int 1 356 }, { hash := PySem.PyData.keyHash P (PySem.Str.ofString "doc"), key := PySem.Value.str (PySem.Str.ofString "doc") 360, val := PySem.Value.str (PySem.Str.ofString "Alias for field number 1") 357 }] 3 }
noncomputable def oe129 (P : Params) : Obj := { cls := PySem.Value.type "dict", data := PySem.Data.dict #[{ hash := PySem.PyData.keyHash P (PySem.Str.ofString "index"), key := PySem.Value.str (PySem.Str.ofString "index") 372, val := PySem.Value.int 2 366 }, { hash := PySem.PyData.keyHash P (PySem.Str.ofString "__doc__"), key := PySem.Value.str (PySem.Str.ofString "__doc__") 374, val := PySem.Value.str (PySem.Str.ofString "Alias for field number 2") 367 }] 2 }
noncomputable def oe130 (P : Params) : Obj := { cls := PySem.Value.ref 60, dict := Option.some 129 }
noncomputable def oe131 (P : Params) : Obj := { cls := PySem.Value.type "frame", data := PySem.Data.dict #[{ hash := PySem.PyData.keyHash P (PySem.Str.ofString "self"), key := PySem.Value.str (PySem.Str.ofString "self") 368, val := PySem.Value.ref 130 }, { hash := PySem.PyData.keyHash P (PySem.Str.ofString "index"), key := PySem.Value.str (PySem.Str.ofString "index") 369, val := PySem.Value.int 2 366 }, { hash := PySem.PyData.keyHash P (PySem.Str.ofString "doc"), key := PySem.Value.str (PySem.Str.ofString "doc") 370, val := PySem.Value.str (PySem.Str.ofString "Alias for field number 2") 367 }] 3 }
noncomputable def oe132 (P : Params) : Obj := { cls := PySem.Value.type "tuple", data := PySem.Data.seq #[] }
noncomputable def oe133 (P : Params) : Obj := { cls := PySem.Value.type "list", data := PySem.Data.seq #[] }
noncomputable def oe134 (P : Params) : Obj := { cls := PySem.Value.type "dict", data := PySem.Data.dict #[{ hash := PySem.PyData.keyHash P (PySem.Str.ofString "__module__"), key := PySem.Value.str (PySem.Str.ofString "__module__") 260, val := PySem.Value.str (PySem.Str.ofString "cpy313.difflib") 194 }, { hash := PySem.PyData.keyHash P (PySem.Str.ofString "__firstlineno__"), key := PySem.Value.str (PySem.Str.ofString "__firstlineno__") 264, val := PySem.Value.int 23 263 }, { hash := PySem.PyData.keyHash P (PySem.Str.ofString "__doc__"), key := PySem.Value.str (PySem.Str.ofString "__doc__") 266, val := PySem.Value.str (Mine.dcOf (Mine.kid (tS3))) 265 }, { hash := PySem.PyData.keyHash P (PySem.Str.ofString "__slots__"), key := PySem.Value.str (PySem.Str.ofString "__slots__") 268, val := PySem.Value.ref 73 }, { hash := PySem.PyData.keyHash P (PySem.Str.ofString "_fields"), key := PySem.Value.str (PySem.Str.ofString "_fields") 272, val := PySem.Value.ref 74 }, { hash := PySem.PyData.keyHash P (PySem.Str.ofString "_field_defaults"), key := PySem.Value.str (PySem.Str.ofString "_field_defaults") 273, val := PySem.Value.ref 75 }, { hash := PySem.PyData.keyHash P (PySem.Str.ofString "__new__"), key := PySem.Value.str (PySem.Str.ofString "__new__") 284, val := PySem.Value.ref 136 }, { hash := PySem.PyData.keyHash P (PySem.Str.ofString "_make"), key := PySem.Value.str (PySem.Str.ofString "_make") 306, val := PySem.Value.ref 91 }, { hash := PySem.PyData.keyHash P (PySem.Str.ofString "_replace"), key := PySem.Value.str (PySem.Str.ofString "_replace") 317, val := PySem.Value.ref 100 }, { hash := PySem.PyData.keyHash P (PySem.Str.ofString "__replace__"), key := PySem.Value.str (PySem.Str.ofString "__replace__") 318, val := PySem.Value.ref 100 }, { hash := PySem.PyData.keyHash P (PySem.Str.ofString "__repr__"), key := PySem.Value.str (PySem.Str.ofString "__repr__") 326, val := PySem.Value.ref 107 }, { hash := PySem.PyData.keyHash P (PySem.Str.ofString "_asdict"), key := PySem.Value.str (PySem.Str.ofString "_asdict") 333, val := PySem.Value.ref 114 }, { hash := PySem.PyData.keyHash P (PySem.Str.ofString "__getnewargs__"), key := PySem.Value.str (PySem.Str.ofString "__getnewargs__") 341, val := PySem.Value.ref 121 }, { hash := PySem.PyData.keyHash P (PySem.Str.ofString "__match_args__"), key := PySem.Value.str (PySem.Str.ofString "__match_args__") 345, val := PySem.Value.ref 122 }, { hash := PySem.PyData.keyHash P (PySem.Str.ofString "a"), key := PySem.Value.str (PySem.Str.ofString "a") 355, val := PySem.Value.ref 124 }, { hash := PySem.PyData.keyHash P (PySem.Str.ofString "b"), key := PySem.Value.str (PySem.Str.ofString "b") 365, val := PySem.Value.ref 127 }, { hash := PySem.PyData.keyHash P (PySem.Str.ofString "size"), key := PySem.Value.str (PySem.Str.ofString "size") 375, val := PySem.Value.ref 130 }, { hash := PySem.PyData.keyHash P (PySem.Str.ofString "__static_attributes__"), key := PySem.Value.str (PySem.Str.ofString "__static_attributes__") 376, val := PySem.Value.ref 132 }] 2 }
noncomputable def oe135 (P : Params) : Obj := { cls := PySem.Value.type "type", data := PySem.Data.cls { name := PySem.Str.ofString "Match", bases := [PySem.Value.type "tuple"], mro := [PySem.Value.ref 135, PySem.Value.type "tuple", PySem.Value.type "object"], ns := 134, qualname := PySem.Str.ofString "Match", hasDict := Bool.false }, slots := #[Option.some (PySem.Value.ref 65), Option.none, Option.some (PySem.Value.str (PySem.Str.ofString "Match") 253), Option.some (PySem.Value.str (PySem.Str.ofString "Match") 261), Option.some PySem.Value.none, Option.some (PySem.Value.bool Bool.false)] }
noncomputable def oe136 (P : Params) : Obj := { cls := PySem.Value.type "staticmethod", data := PySem.Data.fields #[PySem.Value.ref 82] }
noncomputable def oe137 (P : Params) : Obj := { cls := PySem.Value.type "super", data := PySem.Data.fields #[PySem.Value.ref 135, PySem.Value.ref 135, PySem.Value.ref 135] }
noncomputable def oe138 (P : Params) : Obj := { cls := PySem.Value.type "builtin_function_or_method", data := PySem.Data.fields #[PySem.Value.builtin "object.__init_subclass__", PySem.Value.ref 135] }
noncomputable def oe139 (P : Params) : Obj := { cls := PySem.Value.type "tuple", data := PySem.Data.seq #[] }
noncomputable def oe140 (P : Params) : Obj := { cls := PySem.Value.none, data := PySem.Data.fields #[] }
noncomputable def oe141 (P : Params) : Obj := { cls := PySem.Value.type "tuple", data := PySem.Data.seq #[PySem.Value.str (PySem.Str.ofString "matches") 384, PySem.Value.str (PySem.Str.ofString "length") 385] }
noncomputable def oe142 (P : Params) : Obj := { cls := PySem.Value.type "tuple", data := PySem.Data.seq #[] }
noncomputable def oe143 (P : Params) : Obj := { cls := PySem.Value.none, data := PySem.Data.func { name := PySem.Str.ofString "_calculate_ratio", qualname := PySem.Str.ofString "_calculate_ratio", params := Mine.argsOf (tS4), body := PySem.FuncBody.stmts (Mine.kid (tS4)), scope := Mine.scpOf (tS4), globals := 0, closure := [], defaults := PySem.Value.none, kwdefaults := PySem.Value.none } }
noncomputable def oe144 (P : Params) : Obj := { cls := PySem.Value.type "code", data := PySem.Data.fields #[PySem.Value.str (PySem.Str.ofString "_calculate_ratio") 381, PySem.Value.str (PySem.Str.ofString "_calculate_ratio") 382, PySem.Value.str (PySem.Str.ofString "/claim/cut.py") 383, PySem.Value.int 66 0, PySem.Value.int 2 0, PySem.Value.int 0 0, PySem.Value.int 0 0, PySem.Value.int 3 0, PySem.Value.ref 139, PySem.Value.bool Bool.true, PySem.Value.int 181 0, PySem.Value.ref 140, PySem.Value.none, PySem.Value.ref 141, PySem.Value.ref 142, PySem.Value.ref 143, PySem.Value.int 386 0, PySem.Value.int 66 0, PySem.Value.str (PySem.Str.ofString "/claim/cut.py") 387] }
noncomputable def oe145 (P : Params) : Obj := { cls := PySem.Value.type "function", data := PySem.Data.func { name := PySem.Str.ofString "_calculate_ratio", qualname := PySem.Str.ofString "_calculate_ratio", params := Mine.argsOf (tS4), body := PySem.FuncBody.stmts (Mine.kid (tS4)), scope := Mine.scpOf (tS4), globals := 3, closure := [], defaults := PySem.Value.none, kwdefaults := PySem.Value.none, pyModule := PySem.Value.str (PySem.Str.ofString "cpy313.difflib") 194, code := PySem.Value.ref 144 } }
noncomputable def treeZk6x63 (P : Params) : BT := (.node (od63 P) (.node (oe127 P) .nil .nil) .nil)
noncomputable def treeZk6x95 (P : Params) : BT := (.node (oe95 P) .nil .nil)
noncomputable def treeZk6x79 (P : Params) : BT := (.node (oe79 P) (.node (oe143 P) .nil .nil) .nil)
noncomputable def treeZk6x111 (P : Params) : BT := (.node (oe111 P) .nil .nil)
noncomputable def treeZk6x71 (P : Params) : BT := (.node (oe71 P) (.node (oe135 P) .nil .nil) .nil)
noncomputable def treeZk6x103 (P : Params) : BT := (.node (oe103 P) .nil .nil)
noncomputable def treeZk6x87 (P : Params) : BT := (.node (oe87 P) .nil .nil)
noncomputable def treeZk6x119 (P : Params) : BT := (.node (oe119 P) .nil .nil)
noncomputable def treeZk3x7 (P : Params) : BT := (.node (PySem.W.boot_o_7 P) (.node (od15 P) (.node (od31 P) (treeZk6x63 P) (treeZk6x95 P)) (.node (od47 P) (treeZk6x79 P) (treeZk6x111 P))) (.node (od23 P) (.node (od39 P) (treeZk6x71 P) (treeZk6x103 P)) (.node (od55 P) (treeZk6x87 P) (treeZk6x119 P))))
noncomputable def treeZk6x67 (P : Params) : BT := (.node (oe67 P) (.node (oe131 P) .nil .nil) .nil)
noncomputable def treeZk6x99 (P : Params) : BT := (.node (oe99 P) .nil .nil)
noncomputable def treeZk6x83 (P : Params) : BT := (.node (oe83 P) .nil .nil)
noncomputable def treeZk6x115 (P : Params) : BT := (.node (oe115 P) .nil .nil)
noncomputable def treeZk6x75 (P : Params) : BT := (.node (oe75 P) (.node (oe139 P) .nil .nil) .nil)
noncomputable def treeZk6x107 (P : Params) : BT := (.node (oe107 P) .nil .nil)
noncomputable def treeZk6x91 (P : Params) : BT := (.node (oe91 P) .nil .nil)
noncomputable def treeZk6x123 (P : Params) : BT := (.node (oe123 P) .nil .nil)
noncomputable def treeZk3x11 (P : Params) : BT := (.node (oc11 P) (.node (od19 P) (.node (od35 P) (treeZk6x67 P) (treeZk6x99 P)) (.node (od51 P) (treeZk6x83 P) (treeZk6x115 P))) (.node (od27 P) (.node (od43 P) (treeZk6x75 P) (treeZk6x107 P)) (.node (od59 P) (treeZk6x91 P) (treeZk6x123 P))))
noncomputable def treeZk6x65 (P : Params) : BT := (.node (oe65 P) (.node (oe129 P) .nil .nil) .nil)
noncomputable def treeZk6x97 (P : Params) : BT := (.node (oe97 P) .nil .nil)
noncomputable def treeZk6x81 (P : Params) : BT := (.node (oe81 P) (.node (oe145 P) .nil .nil) .nil)
noncomputable def treeZk6x113 (P : Params) : BT := (.node (oe113 P) .nil .nil)
noncomputable def treeZk6x73 (P : Params) : BT := (.node (oe73 P) (.node (oe137 P) .nil .nil) .nil)
noncomputable def treeZk6x105 (P : Params) : BT := (.node (oe105 P) .nil .nil)
noncomputable def treeZk6x89 (P : Params) : BT := (.node (oe89 P) .nil .nil)
noncomputable def treeZk6x121 (P : Params) : BT := (.node (oe121 P) .nil .nil)
noncomputable def treeZk3x9 (P : Params) : BT := (.node (PySem.W.boot_o_9 P) (.node (od17 P) (.node (od33 P) (treeZk6x65 P) (treeZk6x97 P)) (.node (od49 P) (treeZk6x81 P) (treeZk6x113 P))) (.node (od25 P) (.node (od41 P) (treeZk6x73 P) (treeZk6x105 P)) (.node (od57 P) (treeZk6x89 P) (treeZk6x121 P))))
noncomputable def treeZk6x69 (P : Params) : BT := (.node (oe69 P) (.node (oe133 P) .nil .nil) .nil)
noncomputable def treeZk6x101 (P : Params) : BT := (.node (oe101 P) .nil .nil)
noncomputable def treeZk6x85 (P : Params) : BT := (.node (oe85 P) .nil .nil)
noncomputable def treeZk6x117 (P : Params) : BT := (.node (oe117 P) .nil .nil)
noncomputable def treeZk6x77 (P : Params) : BT := (.node (oe77 P) (.node (oe141 P) .nil .nil) .nil)
noncomputable def treeZk6x109 (P : Params) : BT := (.node (oe109 P) .nil .nil)
noncomputable def treeZk6x93 (P : Params) : BT := (.node (oe93 P) .nil .nil)
noncomputable def treeZk6x125 (P : Params) : BT := (.node (oe125 P) .nil .nil)
noncomputable def treeZk3x13 (P : Params) : BT := (.node (oc13 P) (.node (od21 P) (.node (od37 P) (treeZk6x69 P) (treeZk6x101 P)) (.node (od53 P) (treeZk6x85 P) (treeZk6x117 P))) (.node (od29 P) (.node (od45 P) (treeZk6x77 P) (treeZk6x109 P)) (.node (od61 P) (treeZk6x93 P) (treeZk6x125 P))))
noncomputable def treeZk6x64 (P : Params) : BT := (.node (od64 P) (.node (oe128 P) .nil .nil) .nil)
noncomputable def treeZk6x96 (P : Params) : BT := (.node (oe96 P) .nil .nil)
noncomputable def treeZk6x80 (P : Params) : BT := (.node (oe80 P) (.node (oe144 P) .nil .nil) .nil)
noncomputable def treeZk6x112 (P : Params) : BT := (.node (oe112 P) .nil .nil)
noncomputable def treeZk6x72 (P : Params) : BT := (.node (oe72 P) (.node (oe136 P) .nil .nil) .nil)
noncomputable def treeZk6x104 (P : Params) : BT := (.node (oe104 P) .nil .nil)
noncomputable def treeZk6x88 (P : Params) : BT := (.node (oe88 P) .nil .nil)
noncomputable def treeZk6x120 (P : Params) : BT := (.node (oe120 P) .nil .nil)
noncomputable def treeZk3x8 (P : Params) : BT := (.node (PySem.W.boot_o_8 P) (.node (od16 P) (.node (od32 P) (treeZk6x64 P) (treeZk6x96 P)) (.node (od48 P) (treeZk6x80 P) (treeZk6x112 P))) (.node (od24 P) (.node (od40 P) (treeZk6x72 P) (treeZk6x104 P)) (.node (od56 P) (treeZk6x88 P) (treeZk6x120 P))))
noncomputable def treeZk6x68 (P : Params) : BT := (.node (oe68 P) (.node (oe132 P) .nil .nil) .nil)
noncomputable def treeZk6x100 (P : Params) : BT := (.node (oe100 P) .nil .nil)
noncomputable def treeZk6x84 (P : Params) : BT := (.node (oe84 P) .nil .nil)
noncomputable def treeZk6x116 (P : Params) : BT := (.node (oe116 P) .nil .nil)
noncomputable def treeZk6x76 (P : Params) : BT := (.node (oe76 P) (.node (oe140 P) .nil .nil) .nil)
noncomputable def treeZk6x108 (P : Params) : BT := (.node (oe108 P) .nil .nil)
noncomputable def treeZk6x92 (P : Params) : BT := (.node (oe92 P) .nil .nil)
noncomputable def treeZk6x124 (P : Params) : BT := (.node (oe124 P) .nil .nil)
noncomputable def treeZk3x12 (P : Params) : BT := (.node (oe12 P) (.node (od20 P) (.node (od36 P) (treeZk6x68 P) (treeZk6x100 P)) (.node (od52 P) (treeZk6x84 P) (treeZk6x116 P))) (.node (od28 P) (.node (od44 P) (treeZk6x76 P) (treeZk6x108 P)) (.node (od60 P) (treeZk6x92 P) (treeZk6x124 P))))
noncomputable def treeZk6x66 (P : Params) : BT := (.node (oe66 P) (.node (oe130 P) .nil .nil) .nil)
noncomputable def treeZk6x98 (P : Params) : BT := (.node (oe98 P) .nil .nil)
noncomputable def treeZk6x82 (P : Params) : BT := (.node (oe82 P) .nil .nil)
noncomputable def treeZk6x114 (P : Params) : BT := (.node (oe114 P) .nil .nil)
noncomputable def treeZk6x74 (P : Params) : BT := (.node (oe74 P) (.node (oe138 P) .nil .nil) .nil)
noncomputable def treeZk6x106 (P : Params) : BT := (.node (oe106 P) .nil .nil)
noncomputable def treeZk6x90 (P : Params) : BT := (.node (oe90 P) .nil .nil)
noncomputable def treeZk6x122 (P : Params) : BT := (.node (oe122 P) .nil .nil)
noncomputable def treeZk3x10 (P : Params) : BT := (.node (PySem.W.boot_o_10 P) (.node (od18 P) (.node (od34 P) (treeZk6x66 P) (treeZk6x98 P)) (.node (od50 P) (treeZk6x82 P) (treeZk6x114 P))) (.node (od26 P) (.node (od42 P) (treeZk6x74 P) (treeZk6x106 P)) (.node (od58 P) (treeZk6x90 P) (treeZk6x122 P))))
noncomputable def treeZk6x70 (P : Params) : BT := (.node (oe70 P) (.node (oe134 P) .nil .nil) .nil)
noncomputable def treeZk6x102 (P : Params) : BT := (.node (oe102 P) .nil .nil)
noncomputable def treeZk6x86 (P : Params) : BT := (.node (oe86 P) .nil .nil)
noncomputable def treeZk6x118 (P : Params) : BT := (.node (oe118 P) .nil .nil)
noncomputable def treeZk6x78 (P : Params) : BT := (.node (oe78 P) (.node (oe142 P) .nil .nil) .nil)
noncomputable def treeZk6x110 (P : Params) : BT := (.node (oe110 P) .nil .nil)
noncomputable def treeZk6x94 (P : Params) : BT := (.node (oe94 P) .nil .nil)
noncomputable def treeZk6x126 (P : Params) : BT := (.node (oe126 P) .nil .nil)
noncomputable def treeZk3x14 (P : Params) : BT := (.node (oc14 P) (.node (od22 P) (.node (od38 P) (treeZk6x70 P) (treeZk6x102 P)) (.node (od54 P) (treeZk6x86 P) (treeZk6x118 P))) (.node (od30 P) (.node (od46 P) (treeZk6x78 P) (treeZk6x110 P)) (.node (od62 P) (treeZk6x94 P) (treeZk6x126 P))))
noncomputable def treeZ (P : Params) : BT := (.node (PySem.W.boot_o_0 P) (.node (PySem.W.boot_o_1 P) (.node (oe3 P) (treeZk3x7 P) (treeZk3x11 P)) (.node (PySem.W.boot_o_5 P) (treeZk3x9 P) (treeZk3x13 P))) (.node (PySem.W.boot_o_2 P) (.node (PySem.W.boot_o_4 P) (treeZk3x8 P) (treeZk3x12 P)) (.node (PySem.W.boot_o_6 P) (treeZk3x10 P) (treeZk3x14 P))))
noncomputable def oa3 (P : Params) : Obj := { cls := PySem.Value.type "dict", data := PySem.Data.dict #[{ hash := PySem.PyData.keyHash P (PySem.Str.ofString "__name__"), key := PySem.Value.str (PySem.Str.ofString "__name__") 165, val := PySem.Value.str (PySem.Str.ofString "cpy313.difflib") 194 }, { hash := PySem.PyData.keyHash P (PySem.Str.ofString "__doc__"), key := PySem.Value.str (PySem.Str.ofString "__doc__") 166, val := PySem.Value.none }, { hash := PySem.PyData.keyHash P (PySem.Str.ofString "__package__"), key := PySem.Value.str (PySem.Str.ofString "__package__") 167, val := PySem.Value.none }, { hash := PySem.PyData.keyHash P (PySem.Str.ofString "__loader__"), key := PySem.Value.str (PySem.Str.ofString "__loader__") 168, val := PySem.Value.builtin "__main__.__loader__#opaque" }, { hash := PySem.PyData.keyHash P (PySem.Str.ofString "__spec__"), key := PySem.Value.str (PySem.Str.ofString "__spec__") 169, val := PySem.Value.none }, { hash := PySem.PyData.keyHash P (PySem.Str.ofString "__annotations__"), key := PySem.Value.str (PySem.Str.ofString "__annotations__") 170, val := PySem.Value.ref 6 }, { hash := PySem.PyData.keyHash P (PySem.Str.ofString "__builtins__"), key := PySem.Value.str (PySem.Str.ofString "__builtins__") 171, val := PySem.Value.ref 4 }, { hash := PySem.PyData.keyHash P (PySem.Str.ofString "__file__"), key := PySem.Value.str (PySem.Str.ofString "__file__") 173, val := PySem.Value.str (PySem.Str.ofString "/claim/cut.py") 172 }, { hash := PySem.PyData.keyHash P (PySem.Str.ofString "__cached__"), key := PySem.Value.str (PySem.Str.ofString "__cached__") 174, val := PySem.Value.none }, { hash := PySem.PyData.keyHash P (PySem.Str.ofString "_wall"), key := PySem.Value.str (PySem.Str.ofString "_wall") 193, val := PySem.Value.ref 21 }, { hash := PySem.PyData.keyHash P (PySem.Str.ofString "_tuplegetter"), key := PySem.Value.str (PySem.Str.ofString "_tuplegetter") 252, val := PySem.Value.ref 60 }, { hash := PySem.PyData.keyHash P (PySem.Str.ofString "Match"), key := PySem.Value.str (PySem.Str.ofString "Match") 380, val := PySem.Value.ref 135 }, { hash := PySem.PyData.keyHash P (PySem.Str.ofString "_calculate_ratio"), key := PySem.Value.str (PySem.Str.ofString "_calculate_ratio") 388, val := PySem.Value.ref 145 }, { hash := PySem.PyData.keyHash P (PySem.Str.ofString "SequenceMatcher"), key := PySem.Value.str (PySem.Str.ofString "SequenceMatcher") 574, val := PySem.Value.ref 242 }] 14 }
noncomputable def oa12 (P : Params) : Obj := { cls := PySem.Value.none, data := PySem.Data.fields #[PySem.Value.int 1 0, PySem.Value.int 0 0, PySem.Value.ref 20, PySem.Value.int 5 0, PySem.Value.int 0 0, PySem.Value.ref 27, PySem.Value.int 23 0, PySem.Value.int 0 0, PySem.Value.ref 71, PySem.Value.int 66 0, PySem.Value.int 0 0, PySem.Value.ref 144, PySem.Value.int 70 0, PySem.Value.int 0 0, PySem.Value.ref 151] }
noncomputable def oa146 (P : Params) : Obj := { cls := PySem.Value.type "tuple", data := PySem.Data.seq #[] }
noncomputable def oa147 (P : Params) : Obj := { cls := PySem.Value.type "builtin_function_or_method", data := PySem.Data.fields #[PySem.Value.builtin "type.__prepare__", PySem.Value.type "type"] }
noncomputable def oa148 (P : Params) : Obj := { cls := PySem.Value.type "dict", data := PySem.Data.dict #[{ hash := PySem.PyData.keyHash P (PySem.Str.ofString "__module__"), key := PySem.Value.str (PySem.Str.ofString "__module__") 396, val := PySem.Value.str (PySem.Str.ofString "cpy313.difflib") 194 }, { hash := PySem.PyData.keyHash P (PySem.Str.ofString "__qualname__"), key := PySem.Value.str (PySem.Str.ofString "__qualname__") 398, val := PySem.Value.str (PySem.Str.ofString "SequenceMatcher") 397 }, { hash := PySem.PyData.keyHash P (PySem.Str.ofString "__firstlineno__"), key := PySem.Value.str (PySem.Str.ofString "__firstlineno__") 400, val := PySem.Value.int 70 399 }, { hash := PySem.PyData.keyHash P (PySem.Str.ofString "__doc__"), key := PySem.Value.str (PySem.Str.ofString "__doc__") 402, val := PySem.Value.str (Mine.dcOf (Mine.kid (tS5))) 401 }, { hash := PySem.PyData.keyHash P (PySem.Str.ofString "__init__"), key := PySem.Value.str (PySem.Str.ofString "__init__") 417, val := PySem.Value.ref 160 }, { hash := PySem.PyData.keyHash P (PySem.Str.ofString "set_seqs"), key := PySem.Value.str (PySem.Str.ofString "set_seqs") 427, val := PySem.Value.ref 167 }, { hash := PySem.PyData.keyHash P (PySem.Str.ofString "set_seq1"), key := PySem.Value.str (PySem.Str.ofString "set_seq1") 436, val := PySem.Value.ref 174 }, { hash := PySem.PyData.keyHash P (PySem.Str.ofString "set_seq2"), key := PySem.Value.str (PySem.Str.ofString "set_seq2") 445, val := PySem.Value.ref 181 }, { hash := PySem.PyData.keyHash P (PySem.Str.ofString "_SequenceMatcher__chain_b"), key := PySem.Value.str (PySem.Str.ofString "_SequenceMatcher__chain_b") 463, val := PySem.Value.ref 188 }, { hash := PySem.PyData.keyHash P (PySem.Str.ofString "find_longest_match"), key := PySem.Value.str (PySem.Str.ofString "find_longest_match") 491, val := PySem.Value.ref 196 }, { hash := PySem.PyData.keyHash P (PySem.Str.ofString "get_matching_blocks"), key := PySem.Value.str (PySem.Str.ofString "get_matching_blocks") 518, val := PySem.Value.ref 203 }, { hash := PySem.PyData.keyHash P (PySem.Str.ofString "get_opcodes"), key := PySem.Value.str (PySem.Str.ofString "get_opcodes") 525, val := PySem.Value.ref 210 }, { hash := PySem.PyData.keyHash P (PySem.Str.ofString "get_grouped_opcodes"), key := PySem.Value.str (PySem.Str.ofString "get_grouped_opcodes") 534, val := PySem.Value.ref 218 }, { hash := PySem.PyData.keyHash P (PySem.Str.ofString "ratio"), key := PySem.Value.str (PySem.Str.ofString "ratio") 543, val := PySem.Value.ref 225 }, { hash := PySem.PyData.keyHash P (PySem.Str.ofString "quick_ratio"), key := PySem.Value.str (PySem.Str.ofString "quick_ratio") 550, val := PySem.Value.ref 232 }, { hash := PySem.PyData.keyHash P (PySem.Str.ofString "real_quick_ratio"), key := PySem.Value.str (PySem.Str.ofString "real_quick_ratio") 557, val := PySem.Value.ref 239 }, { hash := PySem.PyData.keyHash P (PySem.Str.ofString "__static_attributes__"), key := PySem.Value.str (PySem.Str.ofString "__static_attributes__") 568, val := PySem.Value.ref 240 }] 17 }
noncomputable def oa149 (P : Params) : Obj := { cls := PySem.Value.type "tuple", data := PySem.Data.seq #[] }
noncomputable def oa150 (P : Params) : Obj := { cls := PySem.Value.none, data := PySem.Data.fields #[PySem.Value.int 145 0, PySem.Value.int 4 0, PySem.Value.ref 159, PySem.Value.int 173 0, PySem.Value.int 4 0, PySem.Value.ref 166, PySem.Value.int 184 0, PySem.Value.int 4 0, PySem.Value.ref 173, PySem.Value.int 209 0, PySem.Value.int 4 0, PySem.Value.ref 180, PySem.Value.int 236 0, PySem.Value.int 4 0, PySem.Value.ref 187, PySem.Value.int 260 0, PySem.Value.int 4 0, PySem.Value.ref 195, PySem.Value.int 335 0, PySem.Value.int 4 0, PySem.Value.ref 202, PySem.Value.int 383 0, PySem.Value.int 4 0, PySem.Value.ref 209, PySem.Value.int 386 0, PySem.Value.int 4 0, PySem.Value.ref 217, PySem.Value.int 389 0, PySem.Value.int 4 0, PySem.Value.ref 224, PySem.Value.int 413 0, PySem.Value.int 4 0, PySem.Value.ref 231, PySem.Value.int 416 0, PySem.Value.int 4 0, PySem.Value.ref 238] }
noncomputable def oa151 (P : Params) : Obj := { cls := PySem.Value.type "code", data := PySem.Data.fields #[PySem.Value.str (PySem.Str.ofString "SequenceMatcher") 391, PySem.Value.str (PySem.Str.ofString "SequenceMatcher") 392, PySem.Value.str (PySem.Str.ofString "/claim/cut.py") 393, PySem.Value.int 70 0, PySem.Value.int 0 0, PySem.Value.int 0 0, PySem.Value.int 0 0, PySem.Value.int 0 0, PySem.Value.ref 149, PySem.Value.bool Bool.false, PySem.Value.int 181 0, PySem.Value.ref 150, PySem.Value.none, PySem.Value.none, PySem.Value.none, PySem.Value.none, PySem.Value.int 394 0, PySem.Value.int 70 0, PySem.Value.str (PySem.Str.ofString "/claim/cut.py") 395] }
noncomputable def oa152 (P : Params) : Obj := { cls := PySem.Value.type "frame", slots := #[Option.some (PySem.Value.ref 151), Option.some (PySem.Value.ref 3), Option.some (PySem.Value.ref 148), Option.none, Option.some (PySem.Value.str (PySem.Str.ofString "cpy313.difflib") 194), Option.none, Option.some (PySem.Value.ref 0)] }
noncomputable def oa153 (P : Params) : Obj := { cls := PySem.Value.type "tuple", data := PySem.Data.seq #[PySem.Value.none, PySem.Value.str (PySem.Str.ofString "") 404, PySem.Value.str (PySem.Str.ofString "") 405, PySem.Value.bool Bool.true] }
noncomputable def oa154 (P : Params) : Obj := { cls := PySem.Value.type "tuple", data := PySem.Data.seq #[] }
noncomputable def oa155 (P : Params) : Obj := { cls := PySem.Value.none, data := PySem.Data.fields #[] }
noncomputable def oa156 (P : Params) : Obj := { cls := PySem.Value.type "tuple", data := PySem.Data.seq #[PySem.Value.str (PySem.Str.ofString "self") 409, PySem.Value.str (PySem.Str.ofString "isjunk") 410, PySem.Value.str (PySem.Str.ofString "a") 411, PySem.Value.str (PySem.Str.ofString "b") 412, PySem.Value.str (PySem.Str.ofString "autojunk") 413] }
noncomputable def oa157 (P : Params) : Obj := { cls := PySem.Value.type "tuple", data := PySem.Data.seq #[] }
noncomputable def oa158 (P : Params) : Obj := { cls := PySem.Value.none, data := PySem.Data.func { name := PySem.Str.ofString "__init__", qualname := PySem.Str.ofString "SequenceMatcher.__init__", params := Mine.argsOf (m5x1), body := PySem.FuncBody.stmts (Mine.kid (m5x1)), scope := Mine.scpOf (m5x1), globals := 0, closure := [], defaults := PySem.Value.none, kwdefaults := PySem.Value.none } }
noncomputable def oa159 (P : Params) : Obj := { cls := PySem.Value.type "code", data := PySem.Data.fields #[PySem.Value.str (PySem.Str.ofString "__init__") 406, PySem.Value.str (PySem.Str.ofString "SequenceMatcher.__init__") 407, PySem.Value.str (PySem.Str.ofString "/claim/cut.py") 408, PySem.Value.int 145 0, PySem.Value.int 5 0, PySem.Value.int 0 0, PySem.Value.int 0 0, PySem.Value.int 3 0, PySem.Value.ref 154, PySem.Value.bool Bool.true, PySem.Value.int 181 0, PySem.Value.ref 155, PySem.Value.none, PySem.Value.ref 156, PySem.Value.ref 157, PySem.Value.ref 158, PySem.Value.int 414 0, PySem.Value.int 145 0, PySem.Value.str (PySem.Str.ofString "/claim/cut.py") 415] }
noncomputable def oa160 (P : Params) : Obj := { cls := PySem.Value.type "function", data := PySem.Data.func { name := PySem.Str.ofString "__init__", qualname := PySem.Str.ofString "SequenceMatcher.__init__", params := Mine.argsOf (m5x1), body := PySem.FuncBody.stmts (Mine.kid (m5x1)), scope := Mine.scpOf (m5x1), globals := 3, closure := [], defaults := PySem.Value.ref 153, kwdefaults := PySem.Value.none, doc := PySem.Value.str (Mine.dcOf (Mine.kid (m5x1))) 416, pyModule := PySem.Value.str (PySem.Str.ofString "cpy313.difflib") 194, code := PySem.Value.ref 159 } }
noncomputable def oa161 (P : Params) : Obj := { cls := PySem.Value.type "tuple", data := PySem.Data.seq #[] }
noncomputable def oa162 (P : Params) : Obj := { cls := PySem.Value.none, data := PySem.Data.fields #[] }
noncomputable def oa163 (P : Params) : Obj := { cls := PySem.Value.type "tuple", data := PySem.Data.seq #[PySem.Value.str (PySem.Str.ofString "self") 421, PySem.Value.str (PySem.Str.ofString "a") 422, PySem.Value.str (PySem.Str.ofString "b") 423] }
noncomputable def oa164 (P : Params) : Obj := { cls := PySem.Value.type "tuple", data := PySem.Data.seq #[] }
noncomputable def oa165 (P : Params) : Obj := { cls := PySem.Value.none, data := PySem.Data.func { name := PySem.Str.ofString "set_seqs", qualname := PySem.Str.ofString "SequenceMatcher.set_seqs", params := Mine.argsOf (m5x2), body := PySem.FuncBody.stmts (Mine.kid (m5x2)), scope := Mine.scpOf (m5x2), globals := 0, closure := [], defaults := PySem.Value.none, kwdefaults := PySem.Value.none } }
noncomputable def oa166 (P : Params) : Obj := { cls := PySem.Value.type "code", data := PySem.Data.fields #[PySem.Value.str (PySem.Str.ofString "set_seqs") 418, PySem.Value.str (PySem.Str.ofString "SequenceMatcher.set_seqs") 419, PySem.Value.str (PySem.Str.ofString "/claim/cut.py") 420, PySem.Value.int 173 0, PySem.Value.int 3 0, PySem.Value.int 0 0, PySem.Value.int 0 0, PySem.Value.int 3 0, PySem.Value.ref 161, PySem.Value.bool Bool.true, PySem.Value.int 181 0, PySem.Value.ref 162, PySem.Value.none, PySem.Value.ref 163, PySem.Value.ref 164, PySem.Value.ref 165, PySem.Value.int 424 0, PySem.Value.int 173 0, PySem.Value.str (PySem.Str.ofString "/claim/cut.py") 425] }
noncomputable def oa167 (P : Params) : Obj := { cls := PySem.Value.type "function", data := PySem.Data.func { name := PySem.Str.ofString "set_seqs", qualname := PySem.Str.ofString "SequenceMatcher.set_seqs", params := Mine.argsOf (m5x2), body := PySem.FuncBody.stmts (Mine.kid (m5x2)), scope := Mine.scpOf (m5x2), globals := 3, closure := [], defaults := PySem.Value.none, kwdefaults := PySem.Value.none, doc := PySem.Value.str (Mine.dcOf (Mine.kid (m5x2))) 426, pyModule := PySem.Value.str (PySem.Str.ofString "cpy313.difflib") 194, code := PySem.Value.ref 166 } }
noncomputable def oa168 (P : Params) : Obj := { cls := PySem.Value.type "tuple", data := PySem.Data.seq #[] }
noncomputable def oa169 (P : Params) : Obj := { cls := PySem.Value.none, data := PySem.Data.fields #[] }
noncomputable def oa170 (P : Params) : Obj := { cls := PySem.Value.type "tuple", data := PySem.Data.seq #[PySem.Value.str (PySem.Str.ofString "self") 431, PySem.Value.str (PySem.Str.ofString "a") 432] }
noncomputable def oa171 (P : Params) : Obj := { cls := PySem.Value.type "tuple", data := PySem.Data.seq #[] }
noncomputable def oa172 (P : Params) : Obj := { cls := PySem.Value.none, data := PySem.Data.func { name := PySem.Str.ofString "set_seq1", qualname := PySem.Str.ofString "SequenceMatcher.set_seq1", params := Mine.argsOf (m5x3), body := PySem.FuncBody.stmts (Mine.kid (m5x3)), scope := Mine.scpOf (m5x3), globals := 0, closure := [], defaults := PySem.Value.none, kwdefaults := PySem.Value.none } }
noncomputable def oa173 (P : Params) : Obj := { cls := PySem.Value.type "code", data := PySem.Data.fields #[PySem.Value.str (PySem.Str.ofString "set_seq1") 428, PySem.Value.str (PySem.Str.ofString "SequenceMatcher.set_seq1") 429, PySem.Value.str (PySem.Str.ofString "/claim/cut.py") 430, PySem.Value.int 184 0, PySem.Value.int 2 0, PySem.Value.int 0 0, PySem.Value.int 0 0, PySem.Value.int 3 0, PySem.Value.ref 168, PySem.Value.bool Bool.true, PySem.Value.int 181 0, PySem.Value.ref 169, PySem.Value.none, PySem.Value.ref 170, PySem.Value.ref 171, PySem.Value.ref 172, PySem.Value.int 433 0, PySem.Value.int 184 0, PySem.Value.str (PySem.Str.ofString "/claim/cut.py") 434] }
noncomputable def oa174 (P : Params) : Obj := { cls := PySem.Value.type "function", data := PySem.Data.func { name := PySem.Str.ofString "set_seq1", qualname := PySem.Str.ofString "SequenceMatcher.set_seq1", params := Mine.argsOf (m5x3), body := PySem.FuncBody.stmts (Mine.kid (m5x3)), scope := Mine.scpOf (m5x3), globals := 3, closure := [], defaults := PySem.Value.none, kwdefaults := PySem.Value.none, doc := PySem.Value.str (Mine.dcOf (Mine.kid (m5x3))) 435, pyModule := PySem.Value.str (PySem.Str.ofString "cpy313.difflib") 194, code := PySem.Value.ref 173 } }
noncomputable def oa175 (P : Params) : Obj := { cls := PySem.Value.type "tuple", data := PySem.Data.seq #[] }
noncomputable def oa176 (P : Params) : Obj := { cls := PySem.Value.none, data := PySem.Data.fields #[] }
noncomputable def oa177 (P : Params) : Obj := { cls := PySem.Value.type "tuple", data := PySem.Data.seq #[PySem.Value.str (PySem.Str.ofString "self") 440, PySem.Value.str (PySem.Str.ofString "b") 441] }
noncomputable def oa178 (P : Params) : Obj := { cls := PySem.Value.type "tuple", data := PySem.Data.seq #[] }
noncomputable def oa179 (P : Params) : Obj := { cls := PySem.Value.none, data := PySem.Data.func { name := PySem.Str.ofString "set_seq2", qualname := PySem.Str.ofString "SequenceMatcher.set_seq2", params := Mine.argsOf (m5x4), body := PySem.FuncBody.stmts (Mine.kid (m5x4)), scope := Mine.scpOf (m5x4), globals := 0, closure := [], defaults := PySem.Value.none, kwdefaults := PySem.Value.none } }
noncomputable def oa180 (P : Params) : Obj := { cls := PySem.Value.type "code", data := PySem.Data.fields #[PySem.Value.str (PySem.Str.ofString "set_seq2") 437, PySem.Value.str (PySem.Str.ofString "SequenceMatcher.set_seq2") 438, PySem.Value.str (PySem.Str.ofString "/claim/cut.py") 439, PySem.Value.int 209 0, PySem.Value.int 2 0, PySem.Value.int 0 0, PySem.Value.int 0 0, PySem.Value.int 3 0, PySem.Value.ref 175, PySem.Value.bool Bool.true, PySem.Value.int 181 0, PySem.Value.ref 176, PySem.Value.none, PySem.Value.ref 177, PySem.Value.ref 178, PySem.Value.ref 179, PySem.Value.int 442 0, PySem.Value.int 209 0, PySem.Value.str (PySem.Str.ofString "/claim/cut.py") 443] }
noncomputable def oa181 (P : Params) : Obj := { cls := PySem.Value.type "function", data := PySem.Data.func { name := PySem.Str.ofString "set_seq2", qualname := PySem.Str.ofString "SequenceMatcher.set_seq2", params := Mine.argsOf (m5x4), body := PySem.FuncBody.stmts (Mine.kid (m5x4)), scope := Mine.scpOf (m5x4), globals := 3, closure := [], defaults := PySem.Value.none, kwdefaults := PySem.Value.none, doc := PySem.Value.str (Mine.dcOf (Mine.kid (m5x4))) 444, pyModule := PySem.Value.str (PySem.Str.ofString "cpy313.difflib") 194, code := PySem.Value.ref 180 } }
noncomputable def oa182 (P : Params) : Obj := { cls := PySem.Value.type "tuple", data := PySem.Data.seq #[] }
noncomputable def oa183 (P : Params) : Obj := { cls := PySem.Value.none, data := PySem.Data.fields #[] }
noncomputable def oa184 (P : Params) : Obj := { cls := PySem.Value.type "tuple", data := PySem.Data.seq #[PySem.Value.str (PySem.Str.ofString "self") 449, PySem.Value.str (PySem.Str.ofString "b") 450, PySem.Value.str (PySem.Str.ofString "b2j") 451, PySem.Value.str (PySem.Str.ofString "i") 452, PySem.Value.str (PySem.Str.ofString "elt") 453, PySem.Value.str (PySem.Str.ofString "indices") 454, PySem.Value.str (PySem.Str.ofString "junk") 455, PySem.Value.str (PySem.Str.ofString "isjunk") 456, PySem.Value.str (PySem.Str.ofString "popular") 457, PySem.Value.str (PySem.Str.ofString "n") 458, PySem.Value.str (PySem.Str.ofString "ntest") 459, PySem.Value.str (PySem.Str.ofString "idxs") 460] }
noncomputable def oa185 (P : Params) : Obj := { cls := PySem.Value.type "tuple", data := PySem.Data.seq #[] }
noncomputable def oa186 (P : Params) : Obj := { cls := PySem.Value.none, data := PySem.Data.func { name := PySem.Str.ofString "__chain_b", qualname := PySem.Str.ofString "SequenceMatcher.__chain_b", params := Mine.argsOf (m5x5), body := PySem.FuncBody.stmts (Mine.kid (m5x5)), scope := Mine.scpOf (m5x5), globals := 0, closure := [], defaults := PySem.Value.none, kwdefaults := PySem.Value.none } }
noncomputable def oa187 (P : Params) : Obj := { cls := PySem.Value.type "code", data := PySem.Data.fields #[PySem.Value.str (PySem.Str.ofString "__chain_b") 446, PySem.Value.str (PySem.Str.ofString "SequenceMatcher.__chain_b") 447, PySem.Value.str (PySem.Str.ofString "/claim/cut.py") 448, PySem.Value.int 236 0, PySem.Value.int 1 0, PySem.Value.int 0 0, PySem.Value.int 0 0, PySem.Value.int 3 0, PySem.Value.ref 182, PySem.Value.bool Bool.true, PySem.Value.int 181 0, PySem.Value.ref 183, PySem.Value.none, PySem.Value.ref 184, PySem.Value.ref 185, PySem.Value.ref 186, PySem.Value.int 461 0, PySem.Value.int 236 0, PySem.Value.str (PySem.Str.ofString "/claim/cut.py") 462] }
noncomputable def oa188 (P : Params) : Obj := { cls := PySem.Value.type "function", data := PySem.Data.func { name := PySem.Str.ofString "__chain_b", qualname := PySem.Str.ofString "SequenceMatcher.__chain_b", params := Mine.argsOf (m5x5), body := PySem.FuncBody.stmts (Mine.kid (m5x5)), scope := Mine.scpOf (m5x5), globals := 3, closure := [], defaults := PySem.Value.none, kwdefaults := PySem.Value.none, pyModule := PySem.Value.str (PySem.Str.ofString "cpy313.difflib") 194, code := PySem.Value.ref 187 } }
noncomputable def oa189 (P : Params) : Obj := { cls := PySem.Value.type "tuple", data := PySem.Data.seq #[PySem.Value.int 0 464, PySem.Value.none, PySem.Value.int 0 465, PySem.Value.none] }
noncomputable def oa190 (P : Params) : Obj := { cls := PySem.Value.type "tuple", data := PySem.Data.seq #[] }
noncomputable def oa191 (P : Params) : Obj := { cls := PySem.Value.none, data := PySem.Data.fields #[] }
noncomputable def oa192 (P : Params) : Obj := { cls := PySem.Value.type "tuple", data := PySem.Data.seq #[PySem.Value.str (PySem.Str.ofString "self") 469, PySem.Value.str (PySem.Str.ofString "alo") 470, PySem.Value.str (PySem.Str.ofString "ahi") 471, PySem.Value.str (PySem.Str.ofString "blo") 472, PySem.Value.str (PySem.Str.ofString "bhi") 473, PySem.Value.str (PySem.Str.ofString "a") 474, PySem.Value.str (PySem.Str.ofString "b") 475, PySem.Value.str (PySem.Str.ofString "b2j") 476, PySem.Value.str (PySem.Str.ofString "isbjunk") 477, PySem.Value.str (PySem.Str.ofString "besti") 478, PySem.Value.str (PySem.Str.ofString "bestj") 479, PySem.Value.str (PySem.Str.ofString "bestsize") 480, PySem.Value.str (PySem.Str.ofString "j2len") 481, PySem.Value.str (PySem.Str.ofString "nothing") 482, PySem.Value.str (PySem.Str.ofString "i") 483, PySem.Value.str (PySem.Str.ofString "j2lenget") 484, PySem.Value.str (PySem.Str.ofString "newj2len") 485, PySem.Value.str (PySem.Str.ofString "j") 486, PySem.Value.str (PySem.Str.ofString "k") 487] }
noncomputable def oa193 (P : Params) : Obj := { cls := PySem.Value.type "tuple", data := PySem.Data.seq #[] }
noncomputable def oa194 (P : Params) : Obj := { cls := PySem.Value.none, data := PySem.Data.func { name := PySem.Str.ofString "find_longest_match", qualname := PySem.Str.ofString "SequenceMatcher.find_longest_match", params := Mine.argsOf (m5x6), body := PySem.FuncBody.stmts (Mine.kid (m5x6)), scope := Mine.scpOf (m5x6), globals := 0, closure := [], defaults := PySem.Value.none, kwdefaults := PySem.Value.none } }
noncomputable def oa195 (P : Params) : Obj := { cls := PySem.Value.type "code", data := PySem.Data.fields #[PySem.Value.str (PySem.Str.ofString "find_longest_match") 466, PySem.Value.str (PySem.Str.ofString "SequenceMatcher.find_longest_match") 467, PySem.Value.str (PySem.Str.ofString "/claim/cut.py") 468, PySem.Value.int 260 0, PySem.Value.int 5 0, PySem.Value.int 0 0, PySem.Value.int 0 0, PySem.Value.int 3 0, PySem.Value.ref 190, PySem.Value.bool Bool.true, PySem.Value.int 181 0, PySem.Value.ref 191, PySem.Value.none, PySem.Value.ref 192, PySem.Value.ref 193, PySem.Value.ref 194, PySem.Value.int 488 0, PySem.Value.int 260 0, PySem.Value.str (PySem.Str.ofString "/claim/cut.py") 489] }
noncomputable def oa196 (P : Params) : Obj := { cls := PySem.Value.type "function", data := PySem.Data.func { name := PySem.Str.ofString "find_longest_match", qualname := PySem.Str.ofString "SequenceMatcher.find_longest_match", params := Mine.argsOf (m5x6), body := PySem.FuncBody.stmts (Mine.kid (m5x6)), scope := Mine.scpOf (m5x6), globals := 3, closure := [], defaults := PySem.Value.ref 189, kwdefaults := PySem.Value.none, doc := PySem.Value.str (Mine.dcOf (Mine.kid (m5x6))) 490, pyModule := PySem.Value.str (PySem.Str.ofString "cpy313.difflib") 194, code := PySem.Value.ref 195 } }
noncomputable def oa197 (P : Params) : Obj := { cls := PySem.Value.type "tuple", data := PySem.Data.seq #[] }
noncomputable def oa198 (P : Params) : Obj := { cls := PySem.Value.none, data := PySem.Data.fields #[] }
noncomputable def oa199 (P : Params) : Obj := { cls := PySem.Value.type "tuple", data := PySem.Data.seq #[PySem.Value.str (PySem.Str.ofString "self") 495, PySem.Value.str (PySem.Str.ofString "la") 496, PySem.Value.str (PySem.Str.ofString "lb") 497, PySem.Value.str (PySem.Str.ofString "queue") 498, PySem.Value.str (PySem.Str.ofString "matching_blocks") 499, PySem.Value.str (PySem.Str.ofString "alo") 500, PySem.Value.str (PySem.Str.ofString "ahi") 501, PySem.Value.str (PySem.Str.ofString "blo") 502, PySem.Value.str (PySem.Str.ofString "bhi") 503, PySem.Value.str (PySem.Str.ofString "i") 504, PySem.Value.str (PySem.Str.ofString "j") 505, PySem.Value.str (PySem.Str.ofString "k") 506, PySem.Value.str (PySem.Str.ofString "x") 507, PySem.Value.str (PySem.Str.ofString "i1") 508, PySem.Value.str (PySem.Str.ofString "j1") 509, PySem.Value.str (PySem.Str.ofString "k1") 510, PySem.Value.str (PySem.Str.ofString "non_adjacent") 511, PySem.Value.str (PySem.Str.ofString "i2") 512, PySem.Value.str (PySem.Str.ofString "j2") 513, PySem.Value.str (PySem.Str.ofString "k2") 514] }
noncomputable def oa200 (P : Params) : Obj := { cls := PySem.Value.type "tuple", data := PySem.Data.seq #[] }
noncomputable def oa201 (P : Params) : Obj := { cls := PySem.Value.none, data := PySem.Data.func { name := PySem.Str.ofString "get_matching_blocks", qualname := PySem.Str.ofString "SequenceMatcher.get_matching_blocks", params := Mine.argsOf (m5x7), body := PySem.FuncBody.stmts (Mine.kid (m5x7)), scope := Mine.scpOf (m5x7), globals := 0, closure := [], defaults := PySem.Value.none, kwdefaults := PySem.Value.none } }
noncomputable def oa202 (P : Params) : Obj := { cls := PySem.Value.type "code", data := PySem.Data.fields #[PySem.Value.str (PySem.Str.ofString "get_matching_blocks") 492, PySem.Value.str (PySem.Str.ofString "SequenceMatcher.get_matching_blocks") 493, PySem.Value.str (PySem.Str.ofString "/claim/cut.py") 494, PySem.Value.int 335 0, PySem.Value.int 1 0, PySem.Value.int 0 0, PySem.Value.int 0 0, PySem.Value.int 3 0, PySem.Value.ref 197, PySem.Value.bool Bool.true, PySem.Value.int 181 0, PySem.Value.ref 198, PySem.Value.none, PySem.Value.ref 199, PySem.Value.ref 200, PySem.Value.ref 201, PySem.Value.int 515 0, PySem.Value.int 335 0, PySem.Value.str (PySem.Str.ofString "/claim/cut.py") 516] }
noncomputable def oa203 (P : Params) : Obj := { cls := PySem.Value.type "function", data := PySem.Data.func { name := PySem.Str.ofString "get_matching_blocks", qualname := PySem.Str.ofString "SequenceMatcher.get_matching_blocks", params := Mine.argsOf (m5x7), body := PySem.FuncBody.stmts (Mine.kid (m5x7)), scope := Mine.scpOf (m5x7), globals := 3, closure := [], defaults := PySem.Value.none, kwdefaults := PySem.Value.none, doc := PySem.Value.str (Mine.dcOf (Mine.kid (m5x7))) 517, pyModule := PySem.Value.str (PySem.Str.ofString "cpy313.difflib") 194, code := PySem.Value.ref 202 } }
noncomputable def oa204 (P : Params) : Obj := { cls := PySem.Value.type "tuple", data := PySem.Data.seq #[] }
noncomputable def oa205 (P : Params) : Obj := { cls := PySem.Value.none, data := PySem.Data.fields #[] }
noncomputable def oa206 (P : Params) : Obj := { cls := PySem.Value.type "tuple", data := PySem.Data.seq #[PySem.Value.str (PySem.Str.ofString "self") 522] }
noncomputable def oa207 (P : Params) : Obj := { cls := PySem.Value.type "tuple", data := PySem.Data.seq #[] }
noncomputable def oa208 (P : Params) : Obj := { cls := PySem.Value.none, data := PySem.Data.func { name := PySem.Str.ofString "get_opcodes", qualname := PySem.Str.ofString "SequenceMatcher.get_opcodes", params := Mine.argsOf (m5x8), body := PySem.FuncBody.stmts (Mine.kid (m5x8)), scope := Mine.scpOf (m3x9), globals := 0, closure := [], defaults := PySem.Value.none, kwdefaults := PySem.Value.none } }
noncomputable def oa209 (P : Params) : Obj := { cls := PySem.Value.type "code", data := PySem.Data.fields #[PySem.Value.str (PySem.Str.ofString "get_opcodes") 519, PySem.Value.str (PySem.Str.ofString "SequenceMatcher.get_opcodes") 520, PySem.Value.str (PySem.Str.ofString "/claim/cut.py") 521, PySem.Value.int 383 0, PySem.Value.int 1 0, PySem.Value.int 0 0, PySem.Value.int 0 0, PySem.Value.int 3 0, PySem.Value.ref 204, PySem.Value.bool Bool.true, PySem.Value.int 181 0, PySem.Value.ref 205, PySem.Value.none, PySem.Value.ref 206, PySem.Value.ref 207, PySem.Value.ref 208, PySem.Value.int 523 0, PySem.Value.int 383 0, PySem.Value.str (PySem.Str.ofString "/claim/cut.py") 524] }
noncomputable def oa210 (P : Params) : Obj := { cls := PySem.Value.type "function", data := PySem.Data.func { name := PySem.Str.ofString "get_opcodes", qualname := PySem.Str.ofString "SequenceMatcher.get_opcodes", params := Mine.argsOf (m5x8), body := PySem.FuncBody.stmts (Mine.kid (m5x8)), scope := Mine.scpOf (m3x9), globals := 3, closure := [], defaults := PySem.Value.none, kwdefaults := PySem.Value.none, pyModule := PySem.Value.str (PySem.Str.ofString "cpy313.difflib") 194, code := PySem.Value.ref 209 } }
noncomputable def oa211 (P : Params) : Obj := { cls := PySem.Value.type "tuple", data := PySem.Data.seq #[PySem.Value.int 3 526] }
noncomputable def oa212 (P : Params) : Obj := { cls := PySem.Value.type "tuple", data := PySem.Data.seq #[] }
noncomputable def oa213 (P : Params) : Obj := { cls := PySem.Value.none, data := PySem.Data.fields #[] }
noncomputable def oa214 (P : Params) : Obj := { cls := PySem.Value.type "tuple", data := PySem.Data.seq #[PySem.Value.str (PySem.Str.ofString "self") 530, PySem.Value.str (PySem.Str.ofString "n") 531] }
noncomputable def oa215 (P : Params) : Obj := { cls := PySem.Value.type "tuple", data := PySem.Data.seq #[] }
noncomputable def oa216 (P : Params) : Obj := { cls := PySem.Value.none, data := PySem.Data.func { name := PySem.Str.ofString "get_grouped_opcodes", qualname := PySem.Str.ofString "SequenceMatcher.get_grouped_opcodes", params := Mine.argsOf (m5x9), body := PySem.FuncBody.stmts (Mine.kid (m5x9)), scope := Mine.scpOf (m5x9), globals := 0, closure := [], defaults := PySem.Value.none, kwdefaults := PySem.Value.none } }
noncomputable def oa217 (P : Params) : Obj := { cls := PySem.Value.type "code", data := PySem.Data.fields #[PySem.Value.str (PySem.Str.ofString "get_grouped_opcodes") 527, PySem.Value.str (PySem.Str.ofString "SequenceMatcher.get_grouped_opcodes") 528, PySem.Value.str (PySem.Str.ofString "/claim/cut.py") 529, PySem.Value.int 386 0, PySem.Value.int 2 0, PySem.Value.int 0 0, PySem.Value.int 0 0, PySem.Value.int 3 0, PySem.Value.ref 212, PySem.Value.bool Bool.true, PySem.Value.int 181 0, PySem.Value.ref 213, PySem.Value.none, PySem.Value.ref 214, PySem.Value.ref 215, PySem.Value.ref 216, PySem.Value.int 532 0, PySem.Value.int 386 0, PySem.Value.str (PySem.Str.ofString "/claim/cut.py") 533] }
noncomputable def oa218 (P : Params) : Obj := { cls := PySem.Value.type "function", data := PySem.Data.func { name := PySem.Str.ofString "get_grouped_opcodes", qualname := PySem.Str.ofString "SequenceMatcher.get_grouped_opcodes", params := Mine.argsOf (m5x9), body := PySem.FuncBody.stmts (Mine.kid (m5x9)), scope := Mine.scpOf (m5x9), globals := 3, closure := [], defaults := PySem.Value.ref 211, kwdefaults := PySem.Value.none, pyModule := PySem.Value.str (PySem.Str.ofString "cpy313.difflib") 194, code := PySem.Value.ref 217 } }
noncomputable def oa219 (P : Params) : Obj := { cls := PySem.Value.type "tuple", data := PySem.Data.seq #[] }
noncomputable def oa220 (P : Params) : Obj := { cls := PySem.Value.none, data := PySem.Data.fields #[] }
noncomputable def oa221 (P : Params) : Obj := { cls := PySem.Value.type "tuple", data := PySem.Data.seq #[PySem.Value.str (PySem.Str.ofString "self") 538, PySem.Value.str (PySem.Str.ofString "matches") 539] }
noncomputable def oa222 (P : Params) : Obj := { cls := PySem.Value.type "tuple", data := PySem.Data.seq #[] }
noncomputable def oa223 (P : Params) : Obj := { cls := PySem.Value.none, data := PySem.Data.func { name := PySem.Str.ofString "ratio", qualname := PySem.Str.ofString "SequenceMatcher.ratio", params := Mine.argsOf (m5x10), body := PySem.FuncBody.stmts (Mine.kid (m5x10)), scope := Mine.scpOf (m5x10), globals := 0, closure := [], defaults := PySem.Value.none, kwdefaults := PySem.Value.none } }
noncomputable def oa224 (P : Params) : Obj := { cls := PySem.Value.type "code", data := PySem.Data.fields #[PySem.Value.str (PySem.Str.ofString "ratio") 535, PySem.Value.str (PySem.Str.ofString "SequenceMatcher.ratio") 536, PySem.Value.str (PySem.Str.ofString "/claim/cut.py") 537, PySem.Value.int 389 0, PySem.Value.int 1 0, PySem.Value.int 0 0, PySem.Value.int 0 0, PySem.Value.int 3 0, PySem.Value.ref 219, PySem.Value.bool Bool.true, PySem.Value.int 181 0, PySem.Value.ref 220, PySem.Value.none, PySem.Value.ref 221, PySem.Value.ref 222, PySem.Value.ref 223, PySem.Value.int 540 0, PySem.Value.int 389 0, PySem.Value.str (PySem.Str.ofString "/claim/cut.py") 541] }
noncomputable def oa225 (P : Params) : Obj := { cls := PySem.Value.type "function", data := PySem.Data.func { name := PySem.Str.ofString "ratio", qualname := PySem.Str.ofString "SequenceMatcher.ratio", params := Mine.argsOf (m5x10), body := PySem.FuncBody.stmts (Mine.kid (m5x10)), scope := Mine.scpOf (m5x10), globals := 3, closure := [], defaults := PySem.Value.none, kwdefaults := PySem.Value.none, doc := PySem.Value.str (Mine.dcOf (Mine.kid (m5x10))) 542, pyModule := PySem.Value.str (PySem.Str.ofString "cpy313.difflib") 194, code := PySem.Value.ref 224 } }
noncomputable def oa226 (P : Params) : Obj := { cls := PySem.Value.type "tuple", data := PySem.Data.seq #[] }
noncomputable def oa227 (P : Params) : Obj := { cls := PySem.Value.none, data := PySem.Data.fields #[] }
noncomputable def oa228 (P : Params) : Obj := { cls := PySem.Value.type "tuple", data := PySem.Data.seq #[PySem.Value.str (PySem.Str.ofString "self") 547] }
noncomputable def oa229 (P : Params) : Obj := { cls := PySem.Value.type "tuple", data := PySem.Data.seq #[] }
noncomputable def oa230 (P : Params) : Obj := { cls := PySem.Value.none, data := PySem.Data.func { name := PySem.Str.ofString "quick_ratio", qualname := PySem.Str.ofString "SequenceMatcher.quick_ratio", params := Mine.argsOf (m5x11), body := PySem.FuncBody.stmts (Mine.kid (m5x11)), scope := Mine.scpOf (m3x9), globals := 0, closure := [], defaults := PySem.Value.none, kwdefaults := PySem.Value.none } }
noncomputable def oa231 (P : Params) : Obj := { cls := PySem.Value.type "code", data := PySem.Data.fields #[PySem.Value.str (PySem.Str.ofString "quick_ratio") 544, PySem.Value.str (PySem.Str.ofString "SequenceMatcher.quick_ratio") 545, PySem.Value.str (PySem.Str.ofString "/claim/cut.py") 546, PySem.Value.int 413 0, PySem.Value.int 1 0, PySem.Value.int 0 0, PySem.Value.int 0 0, PySem.Value.int 3 0, PySem.Value.ref 226, PySem.Value.bool Bool.true, PySem.Value.int 181 0, PySem.Value.ref 227, PySem.Value.none, PySem.Value.ref 228, PySem.Value.ref 229, PySem.Value.ref 230, PySem.Value.int 548 0, PySem.Value.int 413 0, PySem.Value.str (PySem.Str.ofString "/claim/cut.py") 549] }
noncomputable def oa232 (P : Params) : Obj := { cls := PySem.Value.type "function", data := PySem.Data.func { name := PySem.Str.ofString "quick_ratio", qualname := PySem.Str.ofString "SequenceMatcher.quick_ratio", params := Mine.argsOf (m5x11), body := PySem.FuncBody.stmts (Mine.kid (m5x11)), scope := Mine.scpOf (m3x9), globals := 3, closure := [], defaults := PySem.Value.none, kwdefaults := PySem.Value.none, pyModule := PySem.Value.str (PySem.Str.ofString "cpy313.difflib") 194, code := PySem.Value.ref 231 } }
noncomputable def oa233 (P : Params) : Obj := { cls := PySem.Value.type "tuple", data := PySem.Data.seq #[] }
noncomputable def oa234 (P : Params) : Obj := { cls := PySem.Value.none, data := PySem.Data.fields #[] }
noncomputable def oa235 (P : Params) : Obj := { cls := PySem.Value.type "tuple", data := PySem.Data.seq #[PySem.Value.str (PySem.Str.ofString "self") 554] }
noncomputable def oa236 (P : Params) : Obj := { cls := PySem.Value.type "tuple", data := PySem.Data.seq #[] }
noncomputable def oa237 (P : Params) : Obj := { cls := PySem.Value.none, data := PySem.Data.func { name := PySem.Str.ofString "real_quick_ratio", qualname := PySem.Str.ofString "SequenceMatcher.real_quick_ratio", params := Mine.argsOf (m5x12), body := PySem.FuncBody.stmts (Mine.kid (m5x12)), scope := Mine.scpOf (m3x9), globals := 0, closure := [], defaults := PySem.Value.none, kwdefaults := PySem.Value.none } }
noncomputable def oa238 (P : Params) : Obj := { cls := PySem.Value.type "code", data := PySem.Data.fields #[PySem.Value.str (PySem.Str.ofString "real_quick_ratio") 551, PySem.Value.str (PySem.Str.ofString "SequenceMatcher.real_quick_ratio") 552, PySem.Value.str (PySem.Str.ofString "/claim/cut.py") 553, PySem.Value.int 416 0, PySem.Value.int 1 0, PySem.Value.int 0 0, PySem.Value.int 0 0, PySem.Value.int 3 0, PySem.Value.ref 233, PySem.Value.bool Bool.true, PySem.Value.int 181 0, PySem.Value.ref 234, PySem.Value.none, PySem.Value.ref 235, PySem.Value.ref 236, PySem.Value.ref 237, PySem.Value.int 555 0, PySem.Value.int 416 0, PySem.Value.str (PySem.Str.ofString "/claim/cut.py") 556] }
noncomputable def oa239 (P : Params) : Obj := { cls := PySem.Value.type "function", data := PySem.Data.func { name := PySem.Str.ofString "real_quick_ratio", qualname := PySem.Str.ofString "SequenceMatcher.real_quick_ratio", params := Mine.argsOf (m5x12), body := PySem.FuncBody.stmts (Mine.kid (m5x12)), scope := Mine.scpOf (m3x9), globals := 3, closure := [], defaults := PySem.Value.none, kwdefaults := PySem.Value.none, pyModule := PySem.Value.str (PySem.Str.ofString "cpy313.difflib") 194, code := PySem.Value.ref 238 } }
noncomputable def oa240 (P : Params) : Obj := { cls := PySem.Value.type "tuple", data := PySem.Data.seq #[PySem.Value.str (PySem.Str.ofString "a") 558, PySem.Value.str (PySem.Str.ofString "autojunk") 559, PySem.Value.str (PySem.Str.ofString "b") 560, PySem.Value.str (PySem.Str.ofString "b2j") 561, PySem.Value.str (PySem.Str.ofString "bjunk") 562, PySem.Value.str (PySem.Str.ofString "bpopular") 563, PySem.Value.str (PySem.Str.ofString "fullbcount") 564, PySem.Value.str (PySem.Str.ofString "isjunk") 565, PySem.Value.str (PySem.Str.ofString "matching_blocks") 566, PySem.Value.str (PySem.Str.ofString "opcodes") 567] }
noncomputable def oa241 (P : Params) : Obj := { cls := PySem.Value.type "dict", data := PySem.Data.dict #[{ hash := PySem.PyData.keyHash P (PySem.Str.ofString "__module__"), key := PySem.Value.str (PySem.Str.ofString "__module__") 396, val := PySem.Value.str (PySem.Str.ofString "cpy313.difflib") 194 }, { hash := PySem.PyData.keyHash P (PySem.Str.ofString "__firstlineno__"), key := PySem.Value.str (PySem.Str.ofString "__firstlineno__") 400, val := PySem.Value.int 70 399 }, { hash := PySem.PyData.keyHash P (PySem.Str.ofString "__doc__"), key := PySem.Value.str (PySem.Str.ofString "__doc__") 402, val := PySem.Value.str (Mine.dcOf (Mine.kid (tS5))) 401 }, { hash := PySem.PyData.keyHash P (PySem.Str.ofString "__init__"), key := PySem.Value.str (PySem.Str.ofString "__init__") 417, val := PySem.Value.ref 160 }, { hash := PySem.PyData.keyHash P (PySem.Str.ofString "set_seqs"), key := PySem.Value.str (PySem.Str.ofString "set_seqs") 427, val := PySem.Value.ref 167 }, { hash := PySem.PyData.keyHash P (PySem.Str.ofString "set_seq1"), key := PySem.Value.str (PySem.Str.ofString "set_seq1") 436, val := PySem.Value.ref 174 }, { hash := PySem.PyData.keyHash P (PySem.Str.ofString "set_seq2"), key := PySem.Value.str (PySem.Str.ofString "set_seq2") 445, val := PySem.Value.ref 181 }, { hash := PySem.PyData.keyHash P (PySem.Str.ofString "_SequenceMatcher__chain_b"), key := PySem.Value.str (PySem.Str.ofString "_SequenceMatcher__chain_b") 463, val := PySem.Value.ref 188 }, { hash := PySem.PyData.keyHash P (PySem.Str.ofString "find_longest_match"), key := PySem.Value.str (PySem.Str.ofString "find_longest_match") 491, val := PySem.Value.ref 196 }, { hash := PySem.PyData.keyHash P (PySem.Str.ofString "get_matching_blocks"), key := PySem.Value.str (PySem.Str.ofString "get_matching_blocks") 518, val := PySem.Value.ref 203 }, { hash := PySem.PyData.keyHash P (PySem.Str.ofString "get_opcodes"), key := PySem.Value.str (PySem.Str.ofString "get_opcodes") 525, val := PySem.Value.ref 210 }, { hash := PySem.PyData.keyHash P (PySem.Str.ofString "get_grouped_opcodes"), key := PySem.Value.str (PySem.Str.ofString "get_grouped_opcodes") 534, val := PySem.Value.ref 218 }, { hash := PySem.PyData.keyHash P (PySem.Str.ofString "ratio"), key := PySem.Value.str (PySem.Str.ofString "ratio") 543, val := PySem.Value.ref 225 }, { hash := PySem.PyData.keyHash P (PySem.Str.ofString "quick_ratio"), key := PySem.Value.str (PySem.Str.ofString "quick_ratio") 550, val := PySem.Value.ref 232 }, { hash := PySem.PyData.keyHash P (PySem.Str.ofString "real_quick_ratio"), key := PySem.Value.str (PySem.Str.ofString "real_quick_ratio") 557, val := PySem.Value.ref 239 }, { hash := PySem.PyData.keyHash P (PySem.Str.ofString "__static_attributes__"), key := PySem.Value.str (PySem.Str.ofString "__static_attributes__") 568, val := PySem.Value.ref 240 }, { hash := PySem.PyData.keyHash P (PySem.Str.ofString "__dict__"), key := PySem.Value.str (PySem.Str.ofString "__dict__") 570, val := PySem.Value.ref 243 }, { hash := PySem.PyData.keyHash P (PySem.Str.ofString "__weakref__"), key := PySem.Value.str (PySem.Str.ofString "__weakref__") 572, val := PySem.Value.ref 244 }] 3 }
noncomputable def oa242 (P : Params) : Obj := { cls := PySem.Value.type "type", data := PySem.Data.cls { name := PySem.Str.ofString "SequenceMatcher", bases := [PySem.Value.type "object"], mro := [PySem.Value.ref 242, PySem.Value.type "object"], ns := 241, qualname := PySem.Str.ofString "SequenceMatcher" }, slots := #[Option.none, Option.none, Option.some (PySem.Value.str (PySem.Str.ofString "SequenceMatcher") 389), Option.some (PySem.Value.str (PySem.Str.ofString "SequenceMatcher") 397), Option.some (PySem.Value.builtin "object.__new__"), Option.some (PySem.Value.bool Bool.true)] }
noncomputable def oa243 (P : Params) : Obj := { cls := PySem.Value.type "getset_descriptor", data := PySem.Data.fields #[PySem.Value.str (PySem.Str.ofString "__dict__") 569, PySem.Value.ref 242, PySem.Value.builtin "function.__dict__", PySem.Value.builtin "function.__dict__#set"] }
noncomputable def oa244 (P : Params) : Obj := { cls := PySem.Value.type "getset_descriptor", data := PySem.Data.fields #[PySem.Value.str (PySem.Str.ofString "__weakref__") 571, PySem.Value.ref 242, PySem.Value.builtin "ExceptionGroup.__weakref__", PySem.Value.none] }
noncomputable def oa245 (P : Params) : Obj := { cls := PySem.Value.type "super", data := PySem.Data.fields #[PySem.Value.ref 242, PySem.Value.ref 242, PySem.Value.ref 242] }
noncomputable def oa246 (P : Params) : Obj := { cls := PySem.Value.type "builtin_function_or_method", data := PySem.Data.fields #[PySem.Value.builtin "object.__init_subclass__", PySem.Value.ref 242] }
noncomputable def treeAk6x63 (P : Params) : BT := (.node (od63 P) (.node (oe127 P) .nil .nil) (.node (oa191 P) .nil .nil))
noncomputable def treeAk6x95 (P : Params) : BT := (.node (oe95 P) (.node (oa159 P) .nil .nil) (.node (oa223 P) .nil .nil))
noncomputable def treeAk6x79 (P : Params) : BT := (.node (oe79 P) (.node (oe143 P) .nil .nil) (.node (oa207 P) .nil .nil))
noncomputable def treeAk6x111 (P : Params) : BT := (.node (oe111 P) (.node (oa175 P) .nil .nil) (.node (oa239 P) .nil .nil))
noncomputable def treeAk6x71 (P : Params) : BT := (.node (oe71 P) (.node (oe135 P) .nil .nil) (.node (oa199 P) .nil .nil))
noncomputable def treeAk6x103 (P : Params) : BT := (.node (oe103 P) (.node (oa167 P) .nil .nil) (.node (oa231 P) .nil .nil))
noncomputable def treeAk6x87 (P : Params) : BT := (.node (oe87 P) (.node (oa151 P) .nil .nil) (.node (oa215 P) .nil .nil))
noncomputable def treeAk6x119 (P : Params) : BT := (.node (oe119 P) (.node (oa183 P) .nil .nil) .nil)
noncomputable def treeAk3x7 (P : Params) : BT := (.node (PySem.W.boot_o_7 P) (.node (od15 P) (.node (od31 P) (treeAk6x63 P) (treeAk6x95 P)) (.node (od47 P) (treeAk6x79 P) (treeAk6x111 P))) (.node (od23 P) (.node (od39 P) (treeAk6x71 P) (treeAk6x103 P)) (.node (od55 P) (treeAk6x87 P) (treeAk6x119 P))))
noncomputable def treeAk6x67 (P : Params) : BT := (.node (oe67 P) (.node (oe131 P) .nil .nil) (.node (oa195 P) .nil .nil))
noncomputable def treeAk6x99 (P : Params) : BT := (.node (oe99 P) (.node (oa163 P) .nil .nil) (.node (oa227 P) .nil .nil))
noncomputable def treeAk6x83 (P : Params) : BT := (.node (oe83 P) (.node (oa147 P) .nil .nil) (.node (oa211 P) .nil .nil))
noncomputable def treeAk6x115 (P : Params) : BT := (.node (oe115 P) (.node (oa179 P) .nil .nil) (.node (oa243 P) .nil .nil))
noncomputable def treeAk6x75 (P : Params) : BT := (.node (oe75 P) (.node (oe139 P) .nil .nil) (.node (oa203 P) .nil .nil))
noncomputable def treeAk6x107 (P : Params) : BT := (.node (oe107 P) (.node (oa171 P) .nil .nil) (.node (oa235 P) .nil .nil))
noncomputable def treeAk6x91 (P : Params) : BT := (.node (oe91 P) (.node (oa155 P) .nil .nil) (.node (oa219 P) .nil .nil))
noncomputable def treeAk6x123 (P : Params) : BT := (.node (oe123 P) (.node (oa187 P) .nil .nil) .nil)
noncomputable def treeAk3x11 (P : Params) : BT := (.node (oc11 P) (.node (od19 P) (.node (od35 P) (treeAk6x67 P) (treeAk6x99 P)) (.node (od51 P) (treeAk6x83 P) (treeAk6x115 P))) (.node (od27 P) (.node (od43 P) (treeAk6x75 P) (treeAk6x107 P)) (.node (od59 P) (treeAk6x91 P) (treeAk6x123 P))))
noncomputable def treeAk6x65 (P : Params) : BT := (.node (oe65 P) (.node (oe129 P) .nil .nil) (.node (oa193 P) .nil .nil))
noncomputable def treeAk6x97 (P : Params) : BT := (.node (oe97 P) (.node (oa161 P) .nil .nil) (.node (oa225 P) .nil .nil))
noncomputable def treeAk6x81 (P : Params) : BT := (.node (oe81 P) (.node (oe145 P) .nil .nil) (.node (oa209 P) .nil .nil))
noncomputable def treeAk6x113 (P : Params) : BT := (.node (oe113 P) (.node (oa177 P) .nil .nil) (.node (oa241 P) .nil .nil))
noncomputable def treeAk6x73 (P : Params) : BT := (.node (oe73 P) (.node (oe137 P) .nil .nil) (.node (oa201 P) .nil .nil))
noncomputable def treeAk6x105 (P : Params) : BT := (.node (oe105 P) (.node (oa169 P) .nil .nil) (.node (oa233 P) .nil .nil))
noncomputable def treeAk6x89 (P : Params) : BT := (.node (oe89 P) (.node (oa153 P) .nil .nil) (.node (oa217 P) .nil .nil))
noncomputable def treeAk6x121 (P : Params) : BT := (.node (oe121 P) (.node (oa185 P) .nil .nil) .nil)
noncomputable def treeAk3x9 (P : Params) : BT := (.node (PySem.W.boot_o_9 P) (.node (od17 P) (.node (od33 P) (treeAk6x65 P) (treeAk6x97 P)) (.node (od49 P) (treeAk6x81 P) (treeAk6x113 P))) (.node (od25 P) (.node (od41 P) (treeAk6x73 P) (treeAk6x105 P)) (.node (od57 P) (treeAk6x89 P) (treeAk6x121 P))))
noncomputable def treeAk6x69 (P : Params) : BT := (.node (oe69 P) (.node (oe133 P) .nil .nil) (.node (oa197 P) .nil .nil))
noncomputable def treeAk6x101 (P : Params) : BT := (.node (oe101 P) (.node (oa165 P) .nil .nil) (.node (oa229 P) .nil .nil))
noncomputable def treeAk6x85 (P : Params) : BT := (.node (oe85 P) (.node (oa149 P) .nil .nil) (.node (oa213 P) .nil .nil))
noncomputable def treeAk6x117 (P : Params) : BT := (.node (oe117 P) (.node (oa181 P) .nil .nil) (.node (oa245 P) .nil .nil))
noncomputable def treeAk6x77 (P : Params) : BT := (.node (oe77 P) (.node (oe141 P) .nil .nil) (.node (oa205 P) .nil .nil))
noncomputable def treeAk6x109 (P : Params) : BT := (.node (oe109 P) (.node (oa173 P) .nil .nil) (.node (oa237 P) .nil .nil))
noncomputable def treeAk6x93 (P : Params) : BT := (.node (oe93 P) (.node (oa157 P) .nil .nil) (.node (oa221 P) .nil .nil))
noncomputable def treeAk6x125 (P : Params) : BT := (.node (oe125 P) (.node (oa189 P) .nil .nil) .nil)
noncomputable def treeAk3x13 (P : Params) : BT := (.node (oc13 P) (.node (od21 P) (.node (od37 P) (treeAk6x69 P) (treeAk6x101 P)) (.node (od53 P) (treeAk6x85 P) (treeAk6x117 P))) (.node (od29 P) (.node (od45 P) (treeAk6x77 P) (treeAk6x109 P)) (.node (od61 P) (treeAk6x93 P) (treeAk6x125 P))))
noncomputable def treeAk6x64 (P : Params) : BT := (.node (od64 P) (.node (oe128 P) .nil .nil) (.node (oa192 P) .nil .nil))
noncomputable def treeAk6x96 (P : Params) : BT := (.node (oe96 P) (.node (oa160 P) .nil .nil) (.node (oa224 P) .nil .nil))
noncomputable def treeAk6x80 (P : Params) : BT := (.node (oe80 P) (.node (oe144 P) .nil .nil) (.node (oa208 P) .nil .nil))
noncomputable def treeAk6x112 (P : Params) : BT := (.node (oe112 P) (.node (oa176 P) .nil .nil) (.node (oa240 P) .nil .nil))
noncomputable def treeAk6x72 (P : Params) : BT := (.node (oe72 P) (.node (oe136 P) .nil .nil) (.node (oa200 P) .nil .nil))
noncomputable def treeAk6x104 (P : Params) : BT := (.node (oe104 P) (.node (oa168 P) .nil .nil) (.node (oa232 P) .nil .nil))
noncomputable def treeAk6x88 (P : Params) : BT := (.node (oe88 P) (.node (oa152 P) .nil .nil) (.node (oa216 P) .nil .nil))
noncomputable def treeAk6x120 (P : Params) : BT := (.node (oe120 P) (.node (oa184 P) .nil .nil) .nil)
noncomputable def treeAk3x8 (P : Params) : BT := (.node (PySem.W.boot_o_8 P) (.node (od16 P) (.node (od32 P) (treeAk6x64 P) (treeAk6x96 P)) (.node (od48 P) (treeAk6x80 P) (treeAk6x112 P))) (.node (od24 P) (.node (od40 P) (treeAk6x72 P) (treeAk6x104 P)) (.node (od56 P) (treeAk6x88 P) (treeAk6x120 P))))
noncomputable def treeAk6x68 (P : Params) : BT := (.node (oe68 P) (.node (oe132 P) .nil .nil) (.node (oa196 P) .nil .nil))
noncomputable def treeAk6x100 (P : Params) : BT := (.node (oe100 P) (.node (oa164 P) .nil .nil) (.node (oa228 P) .nil .nil))
noncomputable def treeAk6x84 (P : Params) : BT := (.node (oe84 P) (.node (oa148 P) .nil .nil) (.node (oa212 P) .nil .nil))
noncomputable def treeAk6x116 (P : Params) : BT := (.node (oe116 P) (.node (oa180 P) .nil .nil) (.node (oa244 P) .nil .nil))
noncomputable def treeAk6x76 (P : Params) : BT := (.node (oe76 P) (.node (oe140 P) .nil .nil) (.node (oa204 P) .nil .nil))
noncomputable def treeAk6x108 (P : Params) : BT := (.node (oe108 P) (.node (oa172 P) .nil .nil) (.node (oa236 P) .nil .nil))
noncomputable def treeAk6x92 (P : Params) : BT := (.node (oe92 P) (.node (oa156 P) .nil .nil) (.node (oa220 P) .nil .nil))
noncomputable def treeAk6x124 (P : Params) : BT := (.node (oe124 P) (.node (oa188 P) .nil .nil) .nil)
noncomputable def treeAk3x12 (P : Params) : BT := (.node (oa12 P) (.node (od20 P) (.node (od36 P) (treeAk6x68 P) (treeAk6x100 P)) (.node (od52 P) (treeAk6x84 P) (treeAk6x116 P))) (.node (od28 P) (.node (od44 P) (treeAk6x76 P) (treeAk6x108 P)) (.node (od60 P) (treeAk6x92 P) (treeAk6x124 P))))
noncomputable def treeAk6x66 (P : Params) : BT := (.node (oe66 P) (.node (oe130 P) .nil .nil) (.node (oa194 P) .nil .nil))
noncomputable def treeAk6x98 (P : Params) : BT := (.node (oe98 P) (.node (oa162 P) .nil .nil) (.node (oa226 P) .nil .nil))
noncomputable def treeAk6x82 (P : Params) : BT := (.node (oe82 P) (.node (oa146 P) .nil .nil) (.node (oa210 P) .nil .nil))
noncomputable def treeAk6x114 (P : Params) : BT := (.node (oe114 P) (.node (oa178 P) .nil .nil) (.node (oa242 P) .nil .nil))
noncomputable def treeAk6x74 (P : Params) : BT := (.node (oe74 P) (.node (oe138 P) .nil .nil) (.node (oa202 P) .nil .nil))
noncomputable def treeAk6x106 (P : Params) : BT := (.node (oe106 P) (.node (oa170 P) .nil .nil) (.node (oa234 P) .nil .nil))
noncomputable def treeAk6x90 (P : Params) : BT := (.node (oe90 P) (.node (oa154 P) .nil .nil) (.node (oa218 P) .nil .nil))
noncomputable def treeAk6x122 (P : Params) : BT := (.node (oe122 P) (.node (oa186 P) .nil .nil) .nil)
noncomputable def treeAk3x10 (P : Params) : BT := (.node (PySem.W.boot_o_10 P) (.node (od18 P) (.node (od34 P) (treeAk6x66 P) (treeAk6x98 P)) (.node (od50 P) (treeAk6x82 P) (treeAk6x114 P))) (.node (od26 P) (.node (od42 P) (treeAk6x74 P) (treeAk6x106 P)) (.node (od58 P) (treeAk6x90 P) (treeAk6x122 P))))
noncomputable def treeAk6x70 (P : Params) : BT := (.node (oe70 P) (.node (oe134 P) .nil .nil) (.node (oa198 P) .nil .nil))
noncomputable def treeAk6x102 (P : Params) : BT := (.node (oe102 P) (.node (oa166 P) .nil .nil) (.node (oa230 P) .nil .nil))
noncomputable def treeAk6x86 (P : Params) : BT := (.node (oe86 P) (.node (oa150 P) .nil .nil) (.node (oa214 P) .nil .nil))
noncomputable def treeAk6x118 (P : Params) : BT := (.node (oe118 P) (.node (oa182 P) .nil .nil) (.node (oa246 P) .nil .nil))
noncomputable def treeAk6x78 (P : Params) : BT := (.node (oe78 P) (.node (oe142 P) .nil .nil) (.node (oa206 P) .nil .nil))
noncomputable def treeAk6x110 (P : Params) : BT := (.node (oe110 P) (.node (oa174 P) .nil .nil) (.node (oa238 P) .nil .nil))
noncomputable def treeAk6x94 (P : Params) : BT := (.node (oe94 P) (.node (oa158 P) .nil .nil) (.node (oa222 P) .nil .nil))
noncomputable def treeAk6x126 (P : Params) : BT := (.node (oe126 P) (.node (oa190 P) .nil .nil) .nil)
noncomputable def treeAk3x14 (P : Params) : BT := (.node (oc14 P) (.node (od22 P) (.node (od38 P) (treeAk6x70 P) (treeAk6x102 P)) (.node (od54 P) (treeAk6x86 P) (treeAk6x118 P))) (.node (od30 P) (.node (od46 P) (treeAk6x78 P) (treeAk6x110 P)) (.node (od62 P) (treeAk6x94 P) (treeAk6x126 P))))
noncomputable def treeA (P : Params) : BT := (.node (PySem.W.boot_o_0 P) (.node (PySem.W.boot_o_1 P) (.node (oa3 P) (treeAk3x7 P) (treeAk3x11 P)) (.node (PySem.W.boot_o_5 P) (treeAk3x9 P) (treeAk3x13 P))) (.node (PySem.W.boot_o_2 P) (.node (PySem.W.boot_o_4 P) (treeAk3x8 P) (treeAk3x12 P)) (.node (PySem.W.boot_o_6 P) (treeAk3x10 P) (treeAk3x14 P))))
noncomputable def ob3 (P : Params) : Obj := { cls := PySem.Value.type "dict", data := PySem.Data.dict #[{ hash := PySem.PyData.keyHash P (PySem.Str.ofString "__name__"), key := PySem.Value.str (PySem.Str.ofString "__name__") 165, val := PySem.Value.str (PySem.Str.ofString "law_nq0313_01") 631 }, { hash := PySem.PyData.keyHash P (PySem.Str.ofString "__doc__"), key := PySem.Value.str (PySem.Str.ofString "__doc__") 166, val := PySem.Value.none }, { hash := PySem.PyData.keyHash P (PySem.Str.ofString "__package__"), key := PySem.Value.str (PySem.Str.ofString "__package__") 167, val := PySem.Value.none }, { hash := PySem.PyData.keyHash P (PySem.Str.ofString "__loader__"), key := PySem.Value.str (PySem.Str.ofString "__loader__") 168, val := PySem.Value.builtin "__main__.__loader__#opaque" }, { hash := PySem.PyData.keyHash P (PySem.Str.ofString "__spec__"), key := PySem.Value.str (PySem.Str.ofString "__spec__") 169, val := PySem.Value.none }, { hash := PySem.PyData.keyHash P (PySem.Str.ofString "__annotations__"), key := PySem.Value.str (PySem.Str.ofString "__annotations__") 170, val := PySem.Value.ref 6 }, { hash := PySem.PyData.keyHash P (PySem.Str.ofString "__builtins__"), key := PySem.Value.str (PySem.Str.ofString "__builtins__") 171, val := PySem.Value.ref 4 }, { hash := PySem.PyData.keyHash P (PySem.Str.ofString "__file__"), key := PySem.Value.str (PySem.Str.ofString "__file__") 173, val := PySem.Value.str (PySem.Str.ofString "/claim/cut.py") 172 }, { hash := PySem.PyData.keyHash P (PySem.Str.ofString "__cached__"), key := PySem.Value.str (PySem.Str.ofString "__cached__") 174, val := PySem.Value.none }, { hash := PySem.PyData.keyHash P (PySem.Str.ofString "_wall"), key := PySem.Value.str (PySem.Str.ofString "_wall") 193, val := PySem.Value.ref 21 }, { hash := PySem.PyData.keyHash P (PySem.Str.ofString "_tuplegetter"), key := PySem.Value.str (PySem.Str.ofString "_tuplegetter") 252, val := PySem.Value.ref 60 }, { hash := PySem.PyData.keyHash P (PySem.Str.ofString "Match"), key := PySem.Value.str (PySem.Str.ofString "Match") 380, val := PySem.Value.ref 135 }, { hash := PySem.PyData.keyHash P (PySem.Str.ofString "_calculate_ratio"), key := PySem.Value.str (PySem.Str.ofString "_calculate_ratio") 388, val := PySem.Value.ref 145 }, { hash := PySem.PyData.keyHash P (PySem.Str.ofString "SequenceMatcher"), key := PySem.Value.str (PySem.Str.ofString "SequenceMatcher") 574, val := PySem.Value.ref 242 }, { hash := PySem.PyData.keyHash P (PySem.Str.ofString "heappush"), key := PySem.Value.str (PySem.Str.ofString "heappush") 585, val := PySem.Value.ref 253 }, { hash := PySem.PyData.keyHash P (PySem.Str.ofString "heappop"), key := PySem.Value.str (PySem.Str.ofString "heappop") 595, val := PySem.Value.ref 260 }, { hash := PySem.PyData.keyHash P (PySem.Str.ofString "heapreplace"), key := PySem.Value.str (PySem.Str.ofString "heapreplace") 605, val := PySem.Value.ref 267 }, { hash := PySem.PyData.keyHash P (PySem.Str.ofString "_siftdown"), key := PySem.Value.str (PySem.Str.ofString "_siftdown") 617, val := PySem.Value.ref 274 }, { hash := PySem.PyData.keyHash P (PySem.Str.ofString "_siftup"), key := PySem.Value.str (PySem.Str.ofString "_siftup") 630, val := PySem.Value.ref 281 }, { hash := PySem.PyData.keyHash P (PySem.Str.ofString "_law_rows"), key := PySem.Value.str (PySem.Str.ofString "_law_rows") 644, val := PySem.Value.ref 288 }, { hash := PySem.PyData.keyHash P (PySem.Str.ofString "_law_cheapest"), key := PySem.Value.str (PySem.Str.ofString "_law_cheapest") 660, val := PySem.Value.ref 295 }, { hash := PySem.PyData.keyHash P (PySem.Str.ofString "law"), key := PySem.Value.str (PySem.Str.ofString "law") 680, val := PySem.Value.ref 302 }] 22 }
noncomputable def ob12 (P : Params) : Obj := { cls := PySem.Value.none, data := PySem.Data.fields #[PySem.Value.int 1 0, PySem.Value.int 0 0, PySem.Value.ref 20, PySem.Value.int 5 0, PySem.Value.int 0 0, PySem.Value.ref 27, PySem.Value.int 23 0, PySem.Value.int 0 0, PySem.Value.ref 71, PySem.Value.int 66 0, PySem.Value.int 0 0, PySem.Value.ref 144, PySem.Value.int 70 0, PySem.Value.int 0 0, PySem.Value.ref 151, PySem.Value.int 419 0, PySem.Value.int 0 0, PySem.Value.ref 252, PySem.Value.int 423 0, PySem.Value.int 0 0, PySem.Value.ref 259, PySem.Value.int 432 0, PySem.Value.int 0 0, PySem.Value.ref 266, PySem.Value.int 447 0, PySem.Value.int 0 0, PySem.Value.ref 273, PySem.Value.int 458 0, PySem.Value.int 0 0, PySem.Value.ref 280, PySem.Value.int 473 0, PySem.Value.int 0 0, PySem.Value.ref 287, PySem.Value.int 480 0, PySem.Value.int 0 0, PySem.Value.ref 294, PySem.Value.int 493 0, PySem.Value.int 0 0, PySem.Value.ref 301] }
noncomputable def ob247 (P : Params) : Obj := { cls := PySem.Value.type "tuple", data := PySem.Data.seq #[] }
noncomputable def ob248 (P : Params) : Obj := { cls := PySem.Value.none, data := PySem.Data.fields #[] }
noncomputable def ob249 (P : Params) : Obj := { cls := PySem.Value.type "tuple", data := PySem.Data.seq #[PySem.Value.str (PySem.Str.ofString "heap") 580, PySem.Value.str (PySem.Str.ofString "item") 581] }
noncomputable def ob250 (P : Params) : Obj := { cls := PySem.Value.type "tuple", data := PySem.Data.seq #[] }
noncomputable def ob251 (P : Params) : Obj := { cls := PySem.Value.none, data := PySem.Data.func { name := PySem.Str.ofString "heappush", qualname := PySem.Str.ofString "heappush", params := Mine.argsOf (tS7), body := PySem.FuncBody.stmts (Mine.kid (tS7)), scope := Mine.scpOf (tS7), globals := 0, closure := [], defaults := PySem.Value.none, kwdefaults := PySem.Value.none } }
noncomputable def ob252 (P : Params) : Obj := { cls := PySem.Value.type "code", data := PySem.Data.fields #[PySem.Value.str (PySem.Str.ofString "heappush") 577, PySem.Value.str (PySem.Str.ofString "heappush") 578, PySem.Value.str (PySem.Str.ofString "/claim/cut.py") 579, PySem.Value.int 419 0, PySem.Value.int 2 0, PySem.Value.int 0 0, PySem.Value.int 0 0, PySem.Value.int 3 0, PySem.Value.ref 247, PySem.Value.bool Bool.true, PySem.Value.int 181 0, PySem.Value.ref 248, PySem.Value.none, PySem.Value.ref 249, PySem.Value.ref 250, PySem.Value.ref 251, PySem.Value.int 582 0, PySem.Value.int 419 0, PySem.Value.str (PySem.Str.ofString "/claim/cut.py") 583] }
noncomputable def ob253 (P : Params) : Obj := { cls := PySem.Value.type "function", data := PySem.Data.func { name := PySem.Str.ofString "heappush", qualname := PySem.Str.ofString "heappush", params := Mine.argsOf (tS7), body := PySem.FuncBody.stmts (Mine.kid (tS7)), scope := Mine.scpOf (tS7), globals := 3, closure := [], defaults := PySem.Value.none, kwdefaults := PySem.Value.none, doc := PySem.Value.str (Mine.dcOf (Mine.kid (tS7))) 584, pyModule := PySem.Value.str (PySem.Str.ofString "cpy313.heapq") 575, code := PySem.Value.ref 252 } }
noncomputable def ob254 (P : Params) : Obj := { cls := PySem.Value.type "tuple", data := PySem.Data.seq #[] }
noncomputable def ob255 (P : Params) : Obj := { cls := PySem.Value.none, data := PySem.Data.fields #[] }
noncomputable def ob256 (P : Params) : Obj := { cls := PySem.Value.type "tuple", data := PySem.Data.seq #[PySem.Value.str (PySem.Str.ofString "heap") 589, PySem.Value.str (PySem.Str.ofString "lastelt") 590, PySem.Value.str (PySem.Str.ofString "returnitem") 591] }
noncomputable def ob257 (P : Params) : Obj := { cls := PySem.Value.type "tuple", data := PySem.Data.seq #[] }
noncomputable def ob258 (P : Params) : Obj := { cls := PySem.Value.none, data := PySem.Data.func { name := PySem.Str.ofString "heappop", qualname := PySem.Str.ofString "heappop", params := Mine.argsOf (tS8), body := PySem.FuncBody.stmts (Mine.kid (tS8)), scope := Mine.scpOf (tS8), globals := 0, closure := [], defaults := PySem.Value.none, kwdefaults := PySem.Value.none } }
noncomputable def ob259 (P : Params) : Obj := { cls := PySem.Value.type "code", data := PySem.Data.fields #[PySem.Value.str (PySem.Str.ofString "heappop") 586, PySem.Value.str (PySem.Str.ofString "heappop") 587, PySem.Value.str (PySem.Str.ofString "/claim/cut.py") 588, PySem.Value.int 423 0, PySem.Value.int 1 0, PySem.Value.int 0 0, PySem.Value.int 0 0, PySem.Value.int 3 0, PySem.Value.ref 254, PySem.Value.bool Bool.true, PySem.Value.int 181 0, PySem.Value.ref 255, PySem.Value.none, PySem.Value.ref 256, PySem.Value.ref 257, PySem.Value.ref 258, PySem.Value.int 592 0, PySem.Value.int 423 0, PySem.Value.str (PySem.Str.ofString "/claim/cut.py") 593] }
noncomputable def ob260 (P : Params) : Obj := { cls := PySem.Value.type "function", data := PySem.Data.func { name := PySem.Str.ofString "heappop", qualname := PySem.Str.ofString "heappop", params := Mine.argsOf (tS8), body := PySem.FuncBody.stmts (Mine.kid (tS8)), scope := Mine.scpOf (tS8), globals := 3, closure := [], defaults := PySem.Value.none, kwdefaults := PySem.Value.none, doc := PySem.Value.str (Mine.dcOf (Mine.kid (tS8))) 594, pyModule := PySem.Value.str (PySem.Str.ofString "cpy313.heapq") 575, code := PySem.Value.ref 259 } }
noncomputable def ob261 (P : Params) : Obj := { cls := PySem.Value.type "tuple", data := PySem.Data.seq #[] }
noncomputable def ob262 (P : Params) : Obj := { cls := PySem.Value.none, data := PySem.Data.fields #[] }
noncomputable def ob263 (P : Params) : Obj := { cls := PySem.Value.type "tuple", data := PySem.Data.seq #[PySem.Value.str (PySem.Str.ofString "heap") 599, PySem.Value.str (PySem.Str.ofString "item") 600, PySem.Value.str (PySem.Str.ofString "returnitem") 601] }
noncomputable def ob264 (P : Params) : Obj := { cls := PySem.Value.type "tuple", data := PySem.Data.seq #[] }
noncomputable def ob265 (P : Params) : Obj := { cls := PySem.Value.none, data := PySem.Data.func { name := PySem.Str.ofString "heapreplace", qualname := PySem.Str.ofString "heapreplace", params := Mine.argsOf (tS9), body := PySem.FuncBody.stmts (Mine.kid (tS9)), scope := Mine.scpOf (tS9), globals := 0, closure := [], defaults := PySem.Value.none, kwdefaults := PySem.Value.none } }
noncomputable def ob266 (P : Params) : Obj := { cls := PySem.Value.type "code", data := PySem.Data.fields #[PySem.Value.str (PySem.Str.ofString "heapreplace") 596, PySem.Value.str (PySem.Str.ofString "heapreplace") 597, PySem.Value.str (PySem.Str.ofString "/claim/cut.py") 598, PySem.Value.int 432 0, PySem.Value.int 2 0, PySem.Value.int 0 0, PySem.Value.int 0 0, PySem.Value.int 3 0, PySem.Value.ref 261, PySem.Value.bool Bool.true, PySem.Value.int 181 0, PySem.Value.ref 262, PySem.Value.none, PySem.Value.ref 263, PySem.Value.ref 264, PySem.Value.ref 265, PySem.Value.int 602 0, PySem.Value.int 432 0, PySem.Value.str (PySem.Str.ofString "/claim/cut.py") 603] }
noncomputable def ob267 (P : Params) : Obj := { cls := PySem.Value.type "function", data := PySem.Data.func { name := PySem.Str.ofString "heapreplace", qualname := PySem.Str.ofString "heapreplace", params := Mine.argsOf (tS9), body := PySem.FuncBody.stmts (Mine.kid (tS9)), scope := Mine.scpOf (tS9), globals := 3, closure := [], defaults := PySem.Value.none, kwdefaults := PySem.Value.none, doc := PySem.Value.str (Mine.dcOf (Mine.kid (tS9))) 604, pyModule := PySem.Value.str (PySem.Str.ofString "cpy313.heapq") 575, code := PySem.Value.ref 266 } }
noncomputable def ob268 (P : Params) : Obj := { cls := PySem.Value.type "tuple", data := PySem.Data.seq #[] }
noncomputable def ob269 (P : Params) : Obj := { cls := PySem.Value.none, data := PySem.Data.fields #[] }
noncomputable def ob270 (P : Params) : Obj := { cls := PySem.Value.type "tuple", data := PySem.Data.seq #[PySem.Value.str (PySem.Str.ofString "heap") 609, PySem.Value.str (PySem.Str.ofString "startpos") 610, PySem.Value.str (PySem.Str.ofString "pos") 611, PySem.Value.str (PySem.Str.ofString "newitem") 612, PySem.Value.str (PySem.Str.ofString "parentpos") 613, PySem.Value.str (PySem.Str.ofString "parent") 614] }
noncomputable def ob271 (P : Params) : Obj := { cls := PySem.Value.type "tuple", data := PySem.Data.seq #[] }
noncomputable def ob272 (P : Params) : Obj := { cls := PySem.Value.none, data := PySem.Data.func { name := PySem.Str.ofString "_siftdown", qualname := PySem.Str.ofString "_siftdown", params := Mine.argsOf (tS10), body := PySem.FuncBody.stmts (Mine.kid (tS10)), scope := Mine.scpOf (tS10), globals := 0, closure := [], defaults := PySem.Value.none, kwdefaults := PySem.Value.none } }
noncomputable def ob273 (P : Params) : Obj := { cls := PySem.Value.type "code", data := PySem.Data.fields #[PySem.Value.str (PySem.Str.ofString "_siftdown") 606, PySem.Value.str (PySem.Str.ofString "_siftdown") 607, PySem.Value.str (PySem.Str.ofString "/claim/cut.py") 608, PySem.Value.int 447 0, PySem.Value.int 3 0, PySem.Value.int 0 0, PySem.Value.int 0 0, PySem.Value.int 3 0, PySem.Value.ref 268, PySem.Value.bool Bool.true, PySem.Value.int 181 0, PySem.Value.ref 269, PySem.Value.none, PySem.Value.ref 270, PySem.Value.ref 271, PySem.Value.ref 272, PySem.Value.int 615 0, PySem.Value.int 447 0, PySem.Value.str (PySem.Str.ofString "/claim/cut.py") 616] }
noncomputable def ob274 (P : Params) : Obj := { cls := PySem.Value.type "function", data := PySem.Data.func { name := PySem.Str.ofString "_siftdown", qualname := PySem.Str.ofString "_siftdown", params := Mine.argsOf (tS10), body := PySem.FuncBody.stmts (Mine.kid (tS10)), scope := Mine.scpOf (tS10), globals := 3, closure := [], defaults := PySem.Value.none, kwdefaults := PySem.Value.none, pyModule := PySem.Value.str (PySem.Str.ofString "cpy313.heapq") 575, code := PySem.Value.ref 273 } }
noncomputable def ob275 (P : Params) : Obj := { cls := PySem.Value.type "tuple", data := PySem.Data.seq #[] }
noncomputable def ob276 (P : Params) : Obj := { cls := PySem.Value.none, data := PySem.Data.fields #[] }
noncomputable def ob277 (P : Params) : Obj := { cls := PySem.Value.type "tuple", data := PySem.Data.seq #[PySem.Value.str (PySem.Str.ofString "heap") 621, PySem.Value.str (PySem.Str.ofString "pos") 622, PySem.Value.str (PySem.Str.ofString "endpos") 623, PySem.Value.str (PySem.Str.ofString "startpos") 624, PySem.Value.str (PySem.Str.ofString "newitem") 625, PySem.Value.str (PySem.Str.ofString "childpos") 626, PySem.Value.str (PySem.Str.ofString "rightpos") 627] }
noncomputable def ob278 (P : Params) : Obj := { cls := PySem.Value.type "tuple", data := PySem.Data.seq #[] }
noncomputable def ob279 (P : Params) : Obj := { cls := PySem.Value.none, data := PySem.Data.func { name := PySem.Str.ofString "_siftup", qualname := PySem.Str.ofString "_siftup", params := Mine.argsOf (tS11), body := PySem.FuncBody.stmts (Mine.kid (tS11)), scope := Mine.scpOf (tS11), globals := 0, closure := [], defaults := PySem.Value.none, kwdefaults := PySem.Value.none } }
noncomputable def ob280 (P : Params) : Obj := { cls := PySem.Value.type "code", data := PySem.Data.fields #[PySem.Value.str (PySem.Str.ofString "_siftup") 618, PySem.Value.str (PySem.Str.ofString "_siftup") 619, PySem.Value.str (PySem.Str.ofString "/claim/cut.py") 620, PySem.Value.int 458 0, PySem.Value.int 2 0, PySem.Value.int 0 0, PySem.Value.int 0 0, PySem.Value.int 3 0, PySem.Value.ref 275, PySem.Value.bool Bool.true, PySem.Value.int 181 0, PySem.Value.ref 276, PySem.Value.none, PySem.Value.ref 277, PySem.Value.ref 278, PySem.Value.ref 279, PySem.Value.int 628 0, PySem.Value.int 458 0, PySem.Value.str (PySem.Str.ofString "/claim/cut.py") 629] }
noncomputable def ob281 (P : Params) : Obj := { cls := PySem.Value.type "function", data := PySem.Data.func { name := PySem.Str.ofString "_siftup", qualname := PySem.Str.ofString "_siftup", params := Mine.argsOf (tS11), body := PySem.FuncBody.stmts (Mine.kid (tS11)), scope := Mine.scpOf (tS11), globals := 3, closure := [], defaults := PySem.Value.none, kwdefaults := PySem.Value.none, pyModule := PySem.Value.str (PySem.Str.ofString "cpy313.heapq") 575, code := PySem.Value.ref 280 } }
noncomputable def ob282 (P : Params) : Obj := { cls := PySem.Value.type "tuple", data := PySem.Data.seq #[] }
noncomputable def ob283 (P : Params) : Obj := { cls := PySem.Value.none, data := PySem.Data.fields #[] }
noncomputable def ob284 (P : Params) : Obj := { cls := PySem.Value.type "tuple", data := PySem.Data.seq #[PySem.Value.str (PySem.Str.ofString "script") 636, PySem.Value.str (PySem.Str.ofString "kind") 637, PySem.Value.str (PySem.Str.ofString "numbers") 638, PySem.Value.str (PySem.Str.ofString "rows") 639, PySem.Value.str (PySem.Str.ofString "k") 640, PySem.Value.str (PySem.Str.ofString "x") 641] }
noncomputable def ob285 (P : Params) : Obj := { cls := PySem.Value.type "tuple", data := PySem.Data.seq #[] }
noncomputable def ob286 (P : Params) : Obj := { cls := PySem.Value.none, data := PySem.Data.func { name := PySem.Str.ofString "_law_rows", qualname := PySem.Str.ofString "_law_rows", params := Mine.argsOf (tS13), body := PySem.FuncBody.stmts (Mine.kid (tS13)), scope := Mine.scpOf (tS13), globals := 0, closure := [], defaults := PySem.Value.none, kwdefaults := PySem.Value.none } }
noncomputable def ob287 (P : Params) : Obj := { cls := PySem.Value.type "code", data := PySem.Data.fields #[PySem.Value.str (PySem.Str.ofString "_law_rows") 633, PySem.Value.str (PySem.Str.ofString "_law_rows") 634, PySem.Value.str (PySem.Str.ofString "/claim/cut.py") 635, PySem.Value.int 473 0, PySem.Value.int 1 0, PySem.Value.int 0 0, PySem.Value.int 0 0, PySem.Value.int 3 0, PySem.Value.ref 282, PySem.Value.bool Bool.true, PySem.Value.int 181 0, PySem.Value.ref 283, PySem.Value.none, PySem.Value.ref 284, PySem.Value.ref 285, PySem.Value.ref 286, PySem.Value.int 642 0, PySem.Value.int 473 0, PySem.Value.str (PySem.Str.ofString "/claim/cut.py") 643] }
noncomputable def ob288 (P : Params) : Obj := { cls := PySem.Value.type "function", data := PySem.Data.func { name := PySem.Str.ofString "_law_rows", qualname := PySem.Str.ofString "_law_rows", params := Mine.argsOf (tS13), body := PySem.FuncBody.stmts (Mine.kid (tS13)), scope := Mine.scpOf (tS13), globals := 3, closure := [], defaults := PySem.Value.none, kwdefaults := PySem.Value.none, pyModule := PySem.Value.str (PySem.Str.ofString "law_nq0313_01") 631, code := PySem.Value.ref 287 } }
noncomputable def ob289 (P : Params) : Obj := { cls := PySem.Value.type "tuple", data := PySem.Data.seq #[] }
noncomputable def ob290 (P : Params) : Obj := { cls := PySem.Value.none, data := PySem.Data.fields #[] }
noncomputable def ob291 (P : Params) : Obj := { cls := PySem.Value.type "tuple", data := PySem.Data.seq #[PySem.Value.str (PySem.Str.ofString "new") 648, PySem.Value.str (PySem.Str.ofString "old") 649, PySem.Value.str (PySem.Str.ofString "fee") 650, PySem.Value.str (PySem.Str.ofString "ways") 651, PySem.Value.str (PySem.Str.ofString "end") 652, PySem.Value.str (PySem.Str.ofString "here") 653, PySem.Value.str (PySem.Str.ofString "begin") 654, PySem.Value.str (PySem.Str.ofString "cost") 655, PySem.Value.str (PySem.Str.ofString "pieces") 656, PySem.Value.str (PySem.Str.ofString "j") 657] }
noncomputable def ob292 (P : Params) : Obj := { cls := PySem.Value.type "tuple", data := PySem.Data.seq #[] }
noncomputable def ob293 (P : Params) : Obj := { cls := PySem.Value.none, data := PySem.Data.func { name := PySem.Str.ofString "_law_cheapest", qualname := PySem.Str.ofString "_law_cheapest", params := Mine.argsOf (tS14), body := PySem.FuncBody.stmts (Mine.kid (tS14)), scope := Mine.scpOf (tS14), globals := 0, closure := [], defaults := PySem.Value.none, kwdefaults := PySem.Value.none } }
noncomputable def ob294 (P : Params) : Obj := { cls := PySem.Value.type "code", data := PySem.Data.fields #[PySem.Value.str (PySem.Str.ofString "_law_cheapest") 645, PySem.Value.str (PySem.Str.ofString "_law_cheapest") 646, PySem.Value.str (PySem.Str.ofString "/claim/cut.py") 647, PySem.Value.int 480 0, PySem.Value.int 3 0, PySem.Value.int 0 0, PySem.Value.int 0 0, PySem.Value.int 3 0, PySem.Value.ref 289, PySem.Value.bool Bool.true, PySem.Value.int 181 0, PySem.Value.ref 290, PySem.Value.none, PySem.Value.ref 291, PySem.Value.ref 292, PySem.Value.ref 293, PySem.Value.int 658 0, PySem.Value.int 480 0, PySem.Value.str (PySem.Str.ofString "/claim/cut.py") 659] }
noncomputable def ob295 (P : Params) : Obj := { cls := PySem.Value.type "function", data := PySem.Data.func { name := PySem.Str.ofString "_law_cheapest", qualname := PySem.Str.ofString "_law_cheapest", params := Mine.argsOf (tS14), body := PySem.FuncBody.stmts (Mine.kid (tS14)), scope := Mine.scpOf (tS14), globals := 3, closure := [], defaults := PySem.Value.none, kwdefaults := PySem.Value.none, pyModule := PySem.Value.str (PySem.Str.ofString "law_nq0313_01") 631, code := PySem.Value.ref 294 } }
noncomputable def ob296 (P : Params) : Obj := { cls := PySem.Value.type "tuple", data := PySem.Data.seq #[] }
noncomputable def ob297 (P : Params) : Obj := { cls := PySem.Value.none, data := PySem.Data.fields #[] }
noncomputable def ob298 (P : Params) : Obj := { cls := PySem.Value.type "tuple", data := PySem.Data.seq #[PySem.Value.str (PySem.Str.ofString "script") 664, PySem.Value.str (PySem.Str.ofString "new") 665, PySem.Value.str (PySem.Str.ofString "old") 666, PySem.Value.str (PySem.Str.ofString "fee") 667, PySem.Value.str (PySem.Str.ofString "matcher") 668, PySem.Value.str (PySem.Str.ofString "heap") 669, PySem.Value.str (PySem.Str.ofString "done") 670, PySem.Value.str (PySem.Str.ofString "cost") 671, PySem.Value.str (PySem.Str.ofString "pieces") 672, PySem.Value.str (PySem.Str.ofString "begin") 673, PySem.Value.str (PySem.Str.ofString "end") 674, PySem.Value.str (PySem.Str.ofString "i") 675, PySem.Value.str (PySem.Str.ofString "j") 676, PySem.Value.str (PySem.Str.ofString "size") 677] }
noncomputable def ob299 (P : Params) : Obj := { cls := PySem.Value.type "tuple", data := PySem.Data.seq #[] }
noncomputable def ob300 (P : Params) : Obj := { cls := PySem.Value.none, data := PySem.Data.func { name := PySem.Str.ofString "law", qualname := PySem.Str.ofString "law", params := Mine.argsOf (tS15), body := PySem.FuncBody.stmts (Mine.kid (tS15)), scope := Mine.scpOf (tS15), globals := 0, closure := [], defaults := PySem.Value.none, kwdefaults := PySem.Value.none } }
noncomputable def ob301 (P : Params) : Obj := { cls := PySem.Value.type "code", data := PySem.Data.fields #[PySem.Value.str (PySem.Str.ofString "law") 661, PySem.Value.str (PySem.Str.ofString "law") 662, PySem.Value.str (PySem.Str.ofString "/claim/cut.py") 663, PySem.Value.int 493 0, PySem.Value.int 1 0, PySem.Value.int 0 0, PySem.Value.int 0 0, PySem.Value.int 3 0, PySem.Value.ref 296, PySem.Value.bool Bool.true, PySem.Value.int 181 0, PySem.Value.ref 297, PySem.Value.none, PySem.Value.ref 298, PySem.Value.ref 299, PySem.Value.ref 300, PySem.Value.int 678 0, PySem.Value.int 493 0, PySem.Value.str (PySem.Str.ofString "/claim/cut.py") 679] }
noncomputable def ob302 (P : Params) : Obj := { cls := PySem.Value.type "function", data := PySem.Data.func { name := PySem.Str.ofString "law", qualname := PySem.Str.ofString "law", params := Mine.argsOf (tS15), body := PySem.FuncBody.stmts (Mine.kid (tS15)), scope := Mine.scpOf (tS15), globals := 3, closure := [], defaults := PySem.Value.none, kwdefaults := PySem.Value.none, pyModule := PySem.Value.str (PySem.Str.ofString "law_nq0313_01") 631, code := PySem.Value.ref 301 } }
noncomputable def treeBk6x63 (P : Params) : BT := (.node (od63 P) (.node (oe127 P) (.node (ob255 P) .nil .nil) .nil) (.node (oa191 P) .nil .nil))
noncomputable def treeBk6x95 (P : Params) : BT := (.node (oe95 P) (.node (oa159 P) (.node (ob287 P) .nil .nil) .nil) (.node (oa223 P) .nil .nil))
noncomputable def treeBk6x79 (P : Params) : BT := (.node (oe79 P) (.node (oe143 P) (.node (ob271 P) .nil .nil) .nil) (.node (oa207 P) .nil .nil))
noncomputable def treeBk6x111 (P : Params) : BT := (.node (oe111 P) (.node (oa175 P) .nil .nil) (.node (oa239 P) .nil .nil))
noncomputable def treeBk6x71 (P : Params) : BT := (.node (oe71 P) (.node (oe135 P) (.node (ob263 P) .nil .nil) .nil) (.node (oa199 P) .nil .nil))
noncomputable def treeBk6x103 (P : Params) : BT := (.node (oe103 P) (.node (oa167 P) (.node (ob295 P) .nil .nil) .nil) (.node (oa231 P) .nil .nil))
noncomputable def treeBk6x87 (P : Params) : BT := (.node (oe87 P) (.node (oa151 P) (.node (ob279 P) .nil .nil) .nil) (.node (oa215 P) .nil .nil))
noncomputable def treeBk6x119 (P : Params) : BT := (.node (oe119 P) (.node (oa183 P) .nil .nil) (.node (ob247 P) .nil .nil))
noncomputable def treeBk3x7 (P : Params) : BT := (.node (PySem.W.boot_o_7 P) (.node (od15 P) (.node (od31 P) (treeBk6x63 P) (treeBk6x95 P)) (.node (od47 P) (treeBk6x79 P) (treeBk6x111 P))) (.node (od23 P) (.node (od39 P) (treeBk6x71 P) (treeBk6x103 P)) (.node (od55 P) (treeBk6x87 P) (treeBk6x119 P))))
noncomputable def treeBk6x67 (P : Params) : BT := (.node (oe67 P) (.node (oe131 P) (.node (ob259 P) .nil .nil) .nil) (.node (oa195 P) .nil .nil))
noncomputable def treeBk6x99 (P : Params) : BT := (.node (oe99 P) (.node (oa163 P) (.node (ob291 P) .nil .nil) .nil) (.node (oa227 P) .nil .nil))
noncomputable def treeBk6x83 (P : Params) : BT := (.node (oe83 P) (.node (oa147 P) (.node (ob275 P) .nil .nil) .nil) (.node (oa211 P) .nil .nil))
noncomputable def treeBk6x115 (P : Params) : BT := (.node (oe115 P) (.node (oa179 P) .nil .nil) (.node (oa243 P) .nil .nil))
noncomputable def treeBk6x75 (P : Params) : BT := (.node (oe75 P) (.node (oe139 P) (.node (ob267 P) .nil .nil) .nil) (.node (oa203 P) .nil .nil))
noncomputable def treeBk6x107 (P : Params) : BT := (.node (oe107 P) (.node (oa171 P) (.node (ob299 P) .nil .nil) .nil) (.node (oa235 P) .nil .nil))
noncomputable def treeBk6x91 (P : Params) : BT := (.node (oe91 P) (.node (oa155 P) (.node (ob283 P) .nil .nil) .nil) (.node (oa219 P) .nil .nil))
noncomputable def treeBk6x123 (P : Params) : BT := (.node (oe123 P) (.node (oa187 P) .nil .nil) (.node (ob251 P) .nil .nil))
noncomputable def treeBk3x11 (P : Params) : BT := (.node (oc11 P) (.node (od19 P) (.node (od35 P) (treeBk6x67 P) (treeBk6x99 P)) (.node (od51 P) (treeBk6x83 P) (treeBk6x115 P))) (.node (od27 P) (.node (od43 P) (treeBk6x75 P) (treeBk6x107 P)) (.node (od59 P) (treeBk6x91 P) (treeBk6x123 P))))
noncomputable def treeBk6x65 (P : Params) : BT := (.node (oe65 P) (.node (oe129 P) (.node (ob257 P) .nil .nil) .nil) (.node (oa193 P) .nil .nil))
noncomputable def treeBk6x97 (P : Params) : BT := (.node (oe97 P) (.node (oa161 P) (.node (ob289 P) .nil .nil) .nil) (.node (oa225 P) .nil .nil))
noncomputable def treeBk6x81 (P : Params) : BT := (.node (oe81 P) (.node (oe145 P) (.node (ob273 P) .nil .nil) .nil) (.node (oa209 P) .nil .nil))
noncomputable def treeBk6x113 (P : Params) : BT := (.node (oe113 P) (.node (oa177 P) .nil .nil) (.node (oa241 P) .nil .nil))
noncomputable def treeBk6x73 (P : Params) : BT := (.node (oe73 P) (.node (oe137 P) (.node (ob265 P) .nil .nil) .nil) (.node (oa201 P) .nil .nil))
noncomputable def treeBk6x105 (P : Params) : BT := (.node (oe105 P) (.node (oa169 P) (.node (ob297 P) .nil .nil) .nil) (.node (oa233 P) .nil .nil))
noncomputable def treeBk6x89 (P : Params) : BT := (.node (oe89 P) (.node (oa153 P) (.node (ob281 P) .nil .nil) .nil) (.node (oa217 P) .nil .nil))
noncomputable def treeBk6x121 (P : Params) : BT := (.node (oe121 P) (.node (oa185 P) .nil .nil) (.node (ob249 P) .nil .nil))
noncomputable def treeBk3x9 (P : Params) : BT := (.node (PySem.W.boot_o_9 P) (.node (od17 P) (.node (od33 P) (treeBk6x65 P) (treeBk6x97 P)) (.node (od49 P) (treeBk6x81 P) (treeBk6x113 P))) (.node (od25 P) (.node (od41 P) (treeBk6x73 P) (treeBk6x105 P)) (.node (od57 P) (treeBk6x89 P) (treeBk6x121 P))))
noncomputable def treeBk6x69 (P : Params) : BT := (.node (oe69 P) (.node (oe133 P) (.node (ob261 P) .nil .nil) .nil) (.node (oa197 P) .nil .nil))
noncomputable def treeBk6x101 (P : Params) : BT := (.node (oe101 P) (.node (oa165 P) (.node (ob293 P) .nil .nil) .nil) (.node (oa229 P) .nil .nil))
noncomputable def treeBk6x85 (P : Params) : BT := (.node (oe85 P) (.node (oa149 P) (.node (ob277 P) .nil .nil) .nil) (.node (oa213 P) .nil .nil))
noncomputable def treeBk6x117 (P : Params) : BT := (.node (oe117 P) (.node (oa181 P) .nil .nil) (.node (oa245 P) .nil .nil))
noncomputable def treeBk6x77 (P : Params) : BT := (.node (oe77 P) (.node (oe141 P) (.node (ob269 P) .nil .nil) .nil) (.node (oa205 P) .nil .nil))
noncomputable def treeBk6x109 (P : Params) : BT := (.node (oe109 P) (.node (oa173 P) (.node (ob301 P) .nil .nil) .nil) (.node (oa237 P) .nil .nil))
noncomputable def treeBk6x93 (P : Params) : BT := (.node (oe93 P) (.node (oa157 P) (.node (ob285 P) .nil .nil) .nil) (.node (oa221 P) .nil .nil))
noncomputable def treeBk6x125 (P : Params) : BT := (.node (oe125 P) (.node (oa189 P) .nil .nil) (.node (ob253 P) .nil .nil))
noncomputable def treeBk3x13 (P : Params) : BT := (.node (oc13 P) (.node (od21 P) (.node (od37 P) (treeBk6x69 P) (treeBk6x101 P)) (.node (od53 P) (treeBk6x85 P) (treeBk6x117 P))) (.node (od29 P) (.node (od45 P) (treeBk6x77 P) (treeBk6x109 P)) (.node (od61 P) (treeBk6x93 P) (treeBk6x125 P))))
noncomputable def treeBk6x64 (P : Params) : BT := (.node (od64 P) (.node (oe128 P) (.node (ob256 P) .nil .nil) .nil) (.node (oa192 P) .nil .nil))
noncomputable def treeBk6x96 (P : Params) : BT := (.node (oe96 P) (.node (oa160 P) (.node (ob288 P) .nil .nil) .nil) (.node (oa224 P) .nil .nil))
noncomputable def treeBk6x80 (P : Params) : BT := (.node (oe80 P) (.node (oe144 P) (.node (ob272 P) .nil .nil) .nil) (.node (oa208 P) .nil .nil))
noncomputable def treeBk6x112 (P : Params) : BT := (.node (oe112 P) (.node (oa176 P) .nil .nil) (.node (oa240 P) .nil .nil))
noncomputable def treeBk6x72 (P : Params) : BT := (.node (oe72 P) (.node (oe136 P) (.node (ob264 P) .nil .nil) .nil) (.node (oa200 P) .nil .nil))
noncomputable def treeBk6x104 (P : Params) : BT := (.node (oe104 P) (.node (oa168 P) (.node (ob296 P) .nil .nil) .nil) (.node (oa232 P) .nil .nil))
noncomputable def treeBk6x88 (P : Params) : BT := (.node (oe88 P) (.node (oa152 P) (.node (ob280 P) .nil .nil) .nil) (.node (oa216 P) .nil .nil))
noncomputable def treeBk6x120 (P : Params) : BT := (.node (oe120 P) (.node (oa184 P) .nil .nil) (.node (ob248 P) .nil .nil))
noncomputable def treeBk3x8 (P : Params) : BT := (.node (PySem.W.boot_o_8 P) (.node (od16 P) (.node (od32 P) (treeBk6x64 P) (treeBk6x96 P)) (.node (od48 P) (treeBk6x80 P) (treeBk6x112 P))) (.node (od24 P) (.node (od40 P) (treeBk6x72 P) (treeBk6x104 P)) (.node (od56 P) (treeBk6x88 P) (treeBk6x120 P))))
noncomputable def treeBk6x68 (P : Params) : BT := (.node (oe68 P) (.node (oe132 P) (.node (ob260 P) .nil .nil) .nil) (.node (oa196 P) .nil .nil))
noncomputable def treeBk6x100 (P : Params) : BT := (.node (oe100 P) (.node (oa164 P) (.node (ob292 P) .nil .nil) .nil) (.node (oa228 P) .nil .nil))
noncomputable def treeBk6x84 (P : Params) : BT := (.node (oe84 P) (.node (oa148 P) (.node (ob276 P) .nil .nil) .nil) (.node (oa212 P) .nil .nil))
noncomputable def treeBk6x116 (P : Params) : BT := (.node (oe116 P) (.node (oa180 P) .nil .nil) (.node (oa244 P) .nil .nil))
noncomputable def treeBk6x76 (P : Params) : BT := (.node (oe76 P) (.node (oe140 P) (.node (ob268 P) .nil .nil) .nil) (.node (oa204 P) .nil .nil))
noncomputable def treeBk6x108 (P : Params) : BT := (.node (oe108 P) (.node (oa172 P) (.node (ob300 P) .nil .nil) .nil) (.node (oa236 P) .nil .nil))
noncomputable def treeBk6x92 (P : Params) : BT := (.node (oe92 P) (.node (oa156 P) (.node (ob284 P) .nil .nil) .nil) (.node (oa220 P) .nil .nil))
noncomputable def treeBk6x124 (P : Params) : BT := (.node (oe124 P) (.node (oa188 P) .nil .nil) (.node (ob252 P) .nil .nil))
noncomputable def treeBk3x12 (P : Params) : BT := (.node (ob12 P) (.node (od20 P) (.node (od36 P) (treeBk6x68 P) (treeBk6x100 P)) (.node (od52 P) (treeBk6x84 P) (treeBk6x116 P))) (.node (od28 P) (.node (od44 P) (treeBk6x76 P) (treeBk6x108 P)) (.node (od60 P) (treeBk6x92 P) (treeBk6x124 P))))
noncomputable def treeBk6x66 (P : Params) : BT := (.node (oe66 P) (.node (oe130 P) (.node (ob258 P) .nil .nil) .nil) (.node (oa194 P) .nil .nil))
noncomputable def treeBk6x98 (P : Params) : BT := (.node (oe98 P) (.node (oa162 P) (.node (ob290 P) .nil .nil) .nil) (.node (oa226 P) .nil .nil))
noncomputable def treeBk6x82 (P : Params) : BT := (.node (oe82 P) (.node (oa146 P) (.node (ob274 P) .nil .nil) .nil) (.node (oa210 P) .nil .nil))
noncomputable def treeBk6x114 (P : Params) : BT := (.node (oe114 P) (.node (oa178 P) .nil .nil) (.node (oa242 P) .nil .nil))
noncomputable def treeBk6x74 (P : Params) : BT := (.node (oe74 P) (.node (oe138 P) (.node (ob266 P) .nil .nil) .nil) (.node (oa202 P) .nil .nil))
noncomputable def treeBk6x106 (P : Params) : BT := (.node (oe106 P) (.node (oa170 P) (.node (ob298 P) .nil .nil) .nil) (.node (oa234 P) .nil .nil))
noncomputable def treeBk6x90 (P : Params) : BT := (.node (oe90 P) (.node (oa154 P) (.node (ob282 P) .nil .nil) .nil) (.node (oa218 P) .nil .nil))
noncomputable def treeBk6x122 (P : Params) : BT := (.node (oe122 P) (.node (oa186 P) .nil .nil) (.node (ob250 P) .nil .nil))
noncomputable def treeBk3x10 (P : Params) : BT := (.node (PySem.W.boot_o_10 P) (.node (od18 P) (.node (od34 P) (treeBk6x66 P) (treeBk6x98 P)) (.node (od50 P) (treeBk6x82 P) (treeBk6x114 P))) (.node (od26 P) (.node (od42 P) (treeBk6x74 P) (treeBk6x106 P)) (.node (od58 P) (treeBk6x90 P) (treeBk6x122 P))))
noncomputable def treeBk6x70 (P : Params) : BT := (.node (oe70 P) (.node (oe134 P) (.node (ob262 P) .nil .nil) .nil) (.node (oa198 P) .nil .nil))
noncomputable def treeBk6x102 (P : Params) : BT := (.node (oe102 P) (.node (oa166 P) (.node (ob294 P) .nil .nil) .nil) (.node (oa230 P) .nil .nil))
noncomputable def treeBk6x86 (P : Params) : BT := (.node (oe86 P) (.node (oa150 P) (.node (ob278 P) .nil .nil) .nil) (.node (oa214 P) .nil .nil))
noncomputable def treeBk6x118 (P : Params) : BT := (.node (oe118 P) (.node (oa182 P) .nil .nil) (.node (oa246 P) .nil .nil))
noncomputable def treeBk6x78 (P : Params) : BT := (.node (oe78 P) (.node (oe142 P) (.node (ob270 P) .nil .nil) .nil) (.node (oa206 P) .nil .nil))
noncomputable def treeBk6x110 (P : Params) : BT := (.node (oe110 P) (.node (oa174 P) (.node (ob302 P) .nil .nil) .nil) (.node (oa238 P) .nil .nil))
noncomputable def treeBk6x94 (P : Params) : BT := (.node (oe94 P) (.node (oa158 P) (.node (ob286 P) .nil .nil) .nil) (.node (oa222 P) .nil .nil))
noncomputable def treeBk6x126 (P : Params) : BT := (.node (oe126 P) (.node (oa190 P) .nil .nil) (.node (ob254 P) .nil .nil))
noncomputable def treeBk3x14 (P : Params) : BT := (.node (oc14 P) (.node (od22 P) (.node (od38 P) (treeBk6x70 P) (treeBk6x102 P)) (.node (od54 P) (treeBk6x86 P) (treeBk6x118 P))) (.node (od30 P) (.node (od46 P) (treeBk6x78 P) (treeBk6x110 P)) (.node (od62 P) (treeBk6x94 P) (treeBk6x126 P))))
noncomputable def treeB (P : Params) : BT := (.node (PySem.W.boot_o_0 P) (.node (PySem.W.boot_o_1 P) (.node (ob3 P) (treeBk3x7 P) (treeBk3x11 P)) (.node (PySem.W.boot_o_5 P) (treeBk3x9 P) (treeBk3x13 P))) (.node (PySem.W.boot_o_2 P) (.node (PySem.W.boot_o_4 P) (treeBk3x8 P) (treeBk3x12 P)) (.node (PySem.W.boot_o_6 P) (treeBk3x10 P) (treeBk3x14 P))))
noncomputable def hl0 (P : Params) (r : List Obj) : List Obj := PySem.W.boot_o_0 P :: PySem.W.boot_o_1 P :: PySem.W.boot_o_2 P :: ob3 P :: PySem.W.boot_o_4 P :: PySem.W.boot_o_5 P :: PySem.W.boot_o_6 P :: r
noncomputable def hl1 (P : Params) (r : List Obj) : List Obj := PySem.W.boot_o_7 P :: PySem.W.boot_o_8 P :: PySem.W.boot_o_9 P :: PySem.W.boot_o_10 P :: oc11 P :: ob12 P :: oc13 P :: r
noncomputable def hl2 (P : Params) (r : List Obj) : List Obj := oc14 P :: od15 P :: od16 P :: od17 P :: od18 P :: od19 P :: od20 P :: r
noncomputable def hl3 (P : Params) (r : List Obj) : List Obj := od21 P :: od22 P :: od23 P :: od24 P :: od25 P :: od26 P :: od27 P :: r
noncomputable def hl4 (P : Params) (r : List Obj) : List Obj := od28 P :: od29 P :: od30 P :: od31 P :: od32 P :: od33 P :: od34 P :: r
noncomputable def hl5 (P : Params) (r : List Obj) : List Obj := od35 P :: od36 P :: od37 P :: od38 P :: od39 P :: od40 P :: od41 P :: r
noncomputable def hl6 (P : Params) (r : List Obj) : List Obj := od42 P :: od43 P :: od44 P :: od45 P :: od46 P :: od47 P :: od48 P :: r
noncomputable def hl7 (P : Params) (r : List Obj) : List Obj := od49 P :: od50 P :: od51 P :: od52 P :: od53 P :: od54 P :: od55 P :: r
noncomputable def hl8 (P : Params) (r : List Obj) : List Obj := od56 P :: od57 P :: od58 P :: od59 P :: od60 P :: od61 P :: od62 P :: r
noncomputable def hl9 (P : Params) (r : List Obj) : List Obj := od63 P :: od64 P :: oe65 P :: oe66 P :: oe67 P :: oe68 P :: oe69 P :: r
noncomputable def hl10 (P : Params) (r : List Obj) : List Obj := oe70 P :: oe71 P :: oe72 P :: oe73 P :: oe74 P :: oe75 P :: oe76 P :: r
noncomputable def hl11 (P : Params) (r : List Obj) : List Obj := oe77 P :: oe78 P :: oe79 P :: oe80 P :: oe81 P :: oe82 P :: oe83 P :: r
noncomputable def hl12 (P : Params) (r : List Obj) : List Obj := oe84 P :: oe85 P :: oe86 P :: oe87 P :: oe88 P :: oe89 P :: oe90 P :: r
noncomputable def hl13 (P : Params) (r : List Obj) : List Obj := oe91 P :: oe92 P :: oe93 P :: oe94 P :: oe95 P :: oe96 P :: oe97 P :: r
noncomputable def hl14 (P : Params) (r : List Obj) : List Obj := oe98 P :: oe99 P :: oe100 P :: oe101 P :: oe102 P :: oe103 P :: oe104 P :: r
noncomputable def hl15 (P : Params) (r : List Obj) : List Obj := oe105 P :: oe106 P :: oe107 P :: oe108 P :: oe109 P :: oe110 P :: oe111 P :: r
noncomputable def hl16 (P : Params) (r : List Obj) : List Obj := oe112 P :: oe113 P :: oe114 P :: oe115 P :: oe116 P :: oe117 P :: oe118 P :: r
noncomputable def hl17 (P : Params) (r : List Obj) : List Obj := oe119 P :: oe120 P :: oe121 P :: oe122 P :: oe123 P :: oe124 P :: oe125 P :: r
noncomputable def hl18 (P : Params) (r : List Obj) : List Obj := oe126 P :: oe127 P :: oe128 P :: oe129 P :: oe130 P :: oe131 P :: oe132 P :: r
noncomputable def hl19 (P : Params) (r : List Obj) : List Obj := oe133 P :: oe134 P :: oe135 P :: oe136 P :: oe137 P :: oe138 P :: oe139 P :: r
noncomputable def hl20 (P : Params) (r : List Obj) : List Obj := oe140 P :: oe141 P :: oe142 P :: oe143 P :: oe144 P :: oe145 P :: oa146 P :: r
noncomputable def hl21 (P : Params) (r : List Obj) : List Obj := oa147 P :: oa148 P :: oa149 P :: oa150 P :: oa151 P :: oa152 P :: oa153 P :: r
noncomputable def hl22 (P : Params) (r : List Obj) : List Obj := oa154 P :: oa155 P :: oa156 P :: oa157 P :: oa158 P :: oa159 P :: oa160 P :: r
noncomputable def hl23 (P : Params) (r : List Obj) : List Obj := oa161 P :: oa162 P :: oa163 P :: oa164 P :: oa165 P :: oa166 P :: oa167 P :: r
noncomputable def hl24 (P : Params) (r : List Obj) : List Obj := oa168 P :: oa169 P :: oa170 P :: oa171 P :: oa172 P :: oa173 P :: oa174 P :: r
noncomputable def hl25 (P : Params) (r : List Obj) : List Obj := oa175 P :: oa176 P :: oa177 P :: oa178 P :: oa179 P :: oa180 P :: oa181 P :: r
noncomputable def hl26 (P : Params) (r : List Obj) : List Obj := oa182 P :: oa183 P :: oa184 P :: oa185 P :: oa186 P :: oa187 P :: oa188 P :: r
noncomputable def hl27 (P : Params) (r : List Obj) : List Obj := oa189 P :: oa190 P :: oa191 P :: oa192 P :: oa193 P :: oa194 P :: oa195 P :: r
noncomputable def hl28 (P : Params) (r : List Obj) : List Obj := oa196 P :: oa197 P :: oa198 P :: oa199 P :: oa200 P :: oa201 P :: oa202 P :: r
noncomputable def hl29 (P : Params) (r : List Obj) : List Obj := oa203 P :: oa204 P :: oa205 P :: oa206 P :: oa207 P :: oa208 P :: oa209 P :: r
noncomputable def hl30 (P : Params) (r : List Obj) : List Obj := oa210 P :: oa211 P :: oa212 P :: oa213 P :: oa214 P :: oa215 P :: oa216 P :: r
noncomputable def hl31 (P : Params) (r : List Obj) : List Obj := oa217 P :: oa218 P :: oa219 P :: oa220 P :: oa221 P :: oa222 P :: oa223 P :: r
noncomputable def hl32 (P : Params) (r : List Obj) : List Obj := oa224 P :: oa225 P :: oa226 P :: oa227 P :: oa228 P :: oa229 P :: oa230 P :: r
noncomputable def hl33 (P : Params) (r : List Obj) : List Obj := oa231 P :: oa232 P :: oa233 P :: oa234 P :: oa235 P :: oa236 P :: oa237 P :: r
noncomputable def hl34 (P : Params) (r : List Obj) : List Obj := oa238 P :: oa239 P :: oa240 P :: oa241 P :: oa242 P :: oa243 P :: oa244 P :: r
noncomputable def hl35 (P : Params) (r : List Obj) : List Obj := oa245 P :: oa246 P :: ob247 P :: ob248 P :: ob249 P :: ob250 P :: ob251 P :: r
noncomputable def hl36 (P : Params) (r : List Obj) : List Obj := ob252 P :: ob253 P :: ob254 P :: ob255 P :: ob256 P :: ob257 P :: ob258 P :: r
noncomputable def hl37 (P : Params) (r : List Obj) : List Obj := ob259 P :: ob260 P :: ob261 P :: ob262 P :: ob263 P :: ob264 P :: ob265 P :: r
noncomputable def hl38 (P : Params) (r : List Obj) : List Obj := ob266 P :: ob267 P :: ob268 P :: ob269 P :: ob270 P :: ob271 P :: ob272 P :: r
noncomputable def hl39 (P : Params) (r : List Obj) : List Obj := ob273 P :: ob274 P :: ob275 P :: ob276 P :: ob277 P :: ob278 P :: ob279 P :: r
noncomputable def hl40 (P : Params) (r : List Obj) : List Obj := ob280 P :: ob281 P :: ob282 P :: ob283 P :: ob284 P :: ob285 P :: ob286 P :: r
noncomputable def hl41 (P : Params) (r : List Obj) : List Obj := ob287 P :: ob288 P :: ob289 P :: ob290 P :: ob291 P :: ob292 P :: ob293 P :: r
noncomputable def hl42 (P : Params) (r : List Obj) : List Obj := ob294 P :: ob295 P :: ob296 P :: ob297 P :: ob298 P :: ob299 P :: ob300 P :: r
noncomputable def hl43 (P : Params) (r : List Obj) : List Obj := ob301 P :: ob302 P :: r
noncomputable def hg0 (P : Params) (r : List Obj) : List Obj := hl0 P (hl1 P (hl2 P (hl3 P (hl4 P (hl5 P (hl6 P (r)))))))
noncomputable def hg1 (P : Params) (r : List Obj) : List Obj := hl7 P (hl8 P (hl9 P (hl10 P (hl11 P (hl12 P (hl13 P (r)))))))
noncomputable def hg2 (P : Params) (r : List Obj) : List Obj := hl14 P (hl15 P (hl16 P (hl17 P (hl18 P (hl19 P (hl20 P (r)))))))
noncomputable def hg3 (P : Params) (r : List Obj) : List Obj := hl21 P (hl22 P (hl23 P (hl24 P (hl25 P (hl26 P (hl27 P (r)))))))
noncomputable def hg4 (P : Params) (r : List Obj) : List Obj := hl28 P (hl29 P (hl30 P (hl31 P (hl32 P (hl33 P (hl34 P (r)))))))
noncomputable def hg5 (P : Params) (r : List Obj) : List Obj := hl35 P (hl36 P (hl37 P (hl38 P (hl39 P (hl40 P (hl41 P (r)))))))
noncomputable def hg6 (P : Params) (r : List Obj) : List Obj := hl42 P (hl43 P (r))
noncomputable def heapF (P : Params) : Heap := ⟨⟨hg0 P (hg1 P (hg2 P (hg3 P (hg4 P (hg5 P (hg6 P ([])))))))⟩, { }⟩
noncomputable def ka21 (P : Params) : Obj := litFn (A := ⟨_, _, _, _, _, _, _⟩) (b := _ :: _) (sc := ⟨_, _, _, _, _⟩) (tS0) Same.mk Same.mk Same.mk (PySem.Str.ofString "_wall") (PySem.Str.ofString "_wall") (3) ([]) (PySem.Value.none) (PySem.Value.none) (PySem.Value.none) (PySem.Value.str (PySem.Str.ofString "__main__") 164) (Option.none) (PySem.Value.ref 20) (PySem.Value.none) (0) (Option.none)
noncomputable def ka35 (P : Params) : Obj := litFn (A := ⟨_, _, _, _, _, _, _⟩) (b := _ :: _) (sc := ⟨_, _, _, _, _⟩) (m2x0) Same.mk Same.mk Same.mk (PySem.Str.ofString "__init__") (PySem.Str.ofString "_tuplegetter.__init__") (3) ([]) (PySem.Value.none) (PySem.Value.none) (PySem.Value.none) (PySem.Value.str (PySem.Str.ofString "cpy313.difflib") 194) (Option.none) (PySem.Value.ref 34) (PySem.Value.none) (0) (Option.none)
noncomputable def ka43 (P : Params) : Obj := litFn (A := ⟨_, _, _, _, _, _, _⟩) (b := _ :: _) (sc := ⟨_, _, _, _, _⟩) (m2x1) Same.mk Same.mk Same.mk (PySem.Str.ofString "__get__") (PySem.Str.ofString "_tuplegetter.__get__") (3) ([]) (PySem.Value.ref 36) (PySem.Value.none) (PySem.Value.none) (PySem.Value.str (PySem.Str.ofString "cpy313.difflib") 194) (Option.none) (PySem.Value.ref 42) (PySem.Value.none) (0) (Option.none)
noncomputable def ka50 (P : Params) : Obj := litFn (A := ⟨_, _, _, _, _, _, _⟩) (b := _ :: _) (sc := ⟨_, _, _, _, _⟩) (m2x2) Same.mk Same.mk Same.mk (PySem.Str.ofString "__set__") (PySem.Str.ofString "_tuplegetter.__set__") (3) ([]) (PySem.Value.none) (PySem.Value.none) (PySem.Value.none) (PySem.Value.str (PySem.Str.ofString "cpy313.difflib") 194) (Option.none) (PySem.Value.ref 49) (PySem.Value.none) (0) (Option.none)
noncomputable def ka57 (P : Params) : Obj := litFn (A := ⟨_, _, _, _, _, _, _⟩) (b := _ :: _) (sc := ⟨_, _, _, _, _⟩) (m2x3) Same.mk Same.mk Same.mk (PySem.Str.ofString "__delete__") (PySem.Str.ofString "_tuplegetter.__delete__") (3) ([]) (PySem.Value.none) (PySem.Value.none) (PySem.Value.none) (PySem.Value.str (PySem.Str.ofString "cpy313.difflib") 194) (Option.none) (PySem.Value.ref 56) (PySem.Value.none) (0) (Option.none)
noncomputable def ka82 (P : Params) : Obj := litFn (A := ⟨_, _, _, _, _, _, _⟩) (b := _ :: _) (sc := ⟨_, _, _, _, _⟩) (m3x4) Same.mk Same.mk Same.mk (PySem.Str.ofString "__new__") (PySem.Str.ofString "Match.__new__") (3) ([]) (PySem.Value.none) (PySem.Value.none) (PySem.Value.str (Mine.dcOf (Mine.kid (m3x4))) 283) (PySem.Value.str (PySem.Str.ofString "cpy313.difflib") 194) (Option.none) (PySem.Value.ref 81) (PySem.Value.none) (0) (Option.none)
noncomputable def ka89 (P : Params) : Obj := litFn (A := ⟨_, _, _, _, _, _, _⟩) (b := _ :: _) (sc := ⟨_, _, _, _, _⟩) (m3x5) Same.mk Same.mk Same.mk (PySem.Str.ofString "_make") (PySem.Str.ofString "Match._make") (3) ([]) (PySem.Value.none) (PySem.Value.none) (PySem.Value.str (Mine.dcOf (Mine.kid (m3x5))) 293) (PySem.Value.str (PySem.Str.ofString "cpy313.difflib") 194) (Option.some 92) (PySem.Value.ref 88) (PySem.Value.none) (0) (Option.none)
noncomputable def ka100 (P : Params) : Obj := litFn (A := ⟨_, _, _, _, _, _, _⟩) (b := _ :: _) (sc := ⟨_, _, _, _, _⟩) (m3x6) Same.mk Same.mk Same.mk (PySem.Str.ofString "_replace") (PySem.Str.ofString "Match._replace") (3) ([(PySem.Str.ofString "__class__", 68)]) (PySem.Value.none) (PySem.Value.none) (PySem.Value.str (Mine.dcOf (Mine.kid (m3x6))) 316) (PySem.Value.str (PySem.Str.ofString "cpy313.difflib") 194) (Option.none) (PySem.Value.ref 99) (PySem.Value.ref 93) (0) (Option.none)
noncomputable def ka107 (P : Params) : Obj := litFn (A := ⟨_, _, _, _, _, _, _⟩) (b := _ :: _) (sc := ⟨_, _, _, _, _⟩) (m3x8) Same.mk Same.mk Same.mk (PySem.Str.ofString "__repr__") (PySem.Str.ofString "Match.__repr__") (3) ([]) (PySem.Value.none) (PySem.Value.none) (PySem.Value.str (Mine.dcOf (Mine.kid (m3x8))) 325) (PySem.Value.str (PySem.Str.ofString "cpy313.difflib") 194) (Option.none) (PySem.Value.ref 106) (PySem.Value.none) (0) (Option.none)
noncomputable def ka114 (P : Params) : Obj := litFn (A := ⟨_, _, _, _, _, _, _⟩) (b := _ :: _) (sc := ⟨_, _, _, _, _⟩) (m3x9) Same.mk Same.mk Same.mk (PySem.Str.ofString "_asdict") (PySem.Str.ofString "Match._asdict") (3) ([]) (PySem.Value.none) (PySem.Value.none) (PySem.Value.none) (PySem.Value.str (PySem.Str.ofString "cpy313.difflib") 194) (Option.none) (PySem.Value.ref 113) (PySem.Value.none) (0) (Option.none)
noncomputable def ka121 (P : Params) : Obj := litFn (A := ⟨_, _, _, _, _, _, _⟩) (b := _ :: _) (sc := ⟨_, _, _, _, _⟩) (m3x10) Same.mk Same.mk Same.mk (PySem.Str.ofString "__getnewargs__") (PySem.Str.ofString "Match.__getnewargs__") (3) ([]) (PySem.Value.none) (PySem.Value.none) (PySem.Value.str (Mine.dcOf (Mine.kid (m3x10))) 340) (PySem.Value.str (PySem.Str.ofString "cpy313.difflib") 194) (Option.none) (PySem.Value.ref 120) (PySem.Value.none) (0) (Option.none)
noncomputable def ka145 (P : Params) : Obj := litFn (A := ⟨_, _, _, _, _, _, _⟩) (b := _ :: _) (sc := ⟨_, _, _, _, _⟩) (tS4) Same.mk Same.mk Same.mk (PySem.Str.ofString "_calculate_ratio") (PySem.Str.ofString "_calculate_ratio") (3) ([]) (PySem.Value.none) (PySem.Value.none) (PySem.Value.none) (PySem.Value.str (PySem.Str.ofString "cpy313.difflib") 194) (Option.none) (PySem.Value.ref 144) (PySem.Value.none) (0) (Option.none)
noncomputable def ka160 (P : Params) : Obj := litFn (A := ⟨_, _, _, _, _, _, _⟩) (b := _ :: _) (sc := ⟨_, _, _, _, _⟩) (m5x1) Same.mk Same.mk Same.mk (PySem.Str.ofString "__init__") (PySem.Str.ofString "SequenceMatcher.__init__") (3) ([]) (PySem.Value.ref 153) (PySem.Value.none) (PySem.Value.str (Mine.dcOf (Mine.kid (m5x1))) 416) (PySem.Value.str (PySem.Str.ofString "cpy313.difflib") 194) (Option.none) (PySem.Value.ref 159) (PySem.Value.none) (0) (Option.none)
noncomputable def ka167 (P : Params) : Obj := litFn (A := ⟨_, _, _, _, _, _, _⟩) (b := _ :: _) (sc := ⟨_, _, _, _, _⟩) (m5x2) Same.mk Same.mk Same.mk (PySem.Str.ofString "set_seqs") (PySem.Str.ofString "SequenceMatcher.set_seqs") (3) ([]) (PySem.Value.none) (PySem.Value.none) (PySem.Value.str (Mine.dcOf (Mine.kid (m5x2))) 426) (PySem.Value.str (PySem.Str.ofString "cpy313.difflib") 194) (Option.none) (PySem.Value.ref 166) (PySem.Value.none) (0) (Option.none)
noncomputable def ka174 (P : Params) : Obj := litFn (A := ⟨_, _, _, _, _, _, _⟩) (b := _ :: _) (sc := ⟨_, _, _, _, _⟩) (m5x3) Same.mk Same.mk Same.mk (PySem.Str.ofString "set_seq1") (PySem.Str.ofString "SequenceMatcher.set_seq1") (3) ([]) (PySem.Value.none) (PySem.Value.none) (PySem.Value.str (Mine.dcOf (Mine.kid (m5x3))) 435) (PySem.Value.str (PySem.Str.ofString "cpy313.difflib") 194) (Option.none) (PySem.Value.ref 173) (PySem.Value.none) (0) (Option.none)
noncomputable def ka181 (P : Params) : Obj := litFn (A := ⟨_, _, _, _, _, _, _⟩) (b := _ :: _) (sc := ⟨_, _, _, _, _⟩) (m5x4) Same.mk Same.mk Same.mk (PySem.Str.ofString "set_seq2") (PySem.Str.ofString "SequenceMatcher.set_seq2") (3) ([]) (PySem.Value.none) (PySem.Value.none) (PySem.Value.str (Mine.dcOf (Mine.kid (m5x4))) 444) (PySem.Value.str (PySem.Str.ofString "cpy313.difflib") 194) (Option.none) (PySem.Value.ref 180) (PySem.Value.none) (0) (Option.none)
noncomputable def ka188 (P : Params) : Obj := litFn (A := ⟨_, _, _, _, _, _, _⟩) (b := _ :: _) (sc := ⟨_, _, _, _, _⟩) (m5x5) Same.mk Same.mk Same.mk (PySem.Str.ofString "__chain_b") (PySem.Str.ofString "SequenceMatcher.__chain_b") (3) ([]) (PySem.Value.none) (PySem.Value.none) (PySem.Value.none) (PySem.Value.str (PySem.Str.ofString "cpy313.difflib") 194) (Option.none) (PySem.Value.ref 187) (PySem.Value.none) (0) (Option.none)
noncomputable def ka196 (P : Params) : Obj := litFn (A := ⟨_, _, _, _, _, _, _⟩) (b := _ :: _) (sc := ⟨_, _, _, _, _⟩) (m5x6) Same.mk Same.mk Same.mk (PySem.Str.ofString "find_longest_match") (PySem.Str.ofString "SequenceMatcher.find_longest_match") (3) ([]) (PySem.Value.ref 189) (PySem.Value.none) (PySem.Value.str (Mine.dcOf (Mine.kid (m5x6))) 490) (PySem.Value.str (PySem.Str.ofString "cpy313.difflib") 194) (Option.none) (PySem.Value.ref 195) (PySem.Value.none) (0) (Option.none)
noncomputable def ka203 (P : Params) : Obj := litFn (A := ⟨_, _, _, _, _, _, _⟩) (b := _ :: _) (sc := ⟨_, _, _, _, _⟩) (m5x7) Same.mk Same.mk Same.mk (PySem.Str.ofString "get_matching_blocks") (PySem.Str.ofString "SequenceMatcher.get_matching_blocks") (3) ([]) (PySem.Value.none) (PySem.Value.none) (PySem.Value.str (Mine.dcOf (Mine.kid (m5x7))) 517) (PySem.Value.str (PySem.Str.ofString "cpy313.difflib") 194) (Option.none) (PySem.Value.ref 202) (PySem.Value.none) (0) (Option.none)
noncomputable def ka210 (P : Params) : Obj := litFn (A := ⟨_, _, _, _, _, _, _⟩) (b := _ :: _) (sc := ⟨_, _, _, _, _⟩) (m5x8) Same.mk Same.mk Same.mk (PySem.Str.ofString "get_opcodes") (PySem.Str.ofString "SequenceMatcher.get_opcodes") (3) ([]) (PySem.Value.none) (PySem.Value.none) (PySem.Value.none) (PySem.Value.str (PySem.Str.ofString "cpy313.difflib") 194) (Option.none) (PySem.Value.ref 209) (PySem.Value.none) (0) (Option.none)
noncomputable def ka218 (P : Params) : Obj := litFn (A := ⟨_, _, _, _, _, _, _⟩) (b := _ :: _) (sc := ⟨_, _, _, _, _⟩) (m5x9) Same.mk Same.mk Same.mk (PySem.Str.ofString "get_grouped_opcodes") (PySem.Str.ofString "SequenceMatcher.get_grouped_opcodes") (3) ([]) (PySem.Value.ref 211) (PySem.Value.none) (PySem.Value.none) (PySem.Value.str (PySem.Str.ofString "cpy313.difflib") 194) (Option.none) (PySem.Value.ref 217) (PySem.Value.none) (0) (Option.none)
noncomputable def ka225 (P : Params) : Obj := litFn (A := ⟨_, _, _, _, _, _, _⟩) (b := _ :: _) (sc := ⟨_, _, _, _, _⟩) (m5x10) Same.mk Same.mk Same.mk (PySem.Str.ofString "ratio") (PySem.Str.ofString "SequenceMatcher.ratio") (3) ([]) (PySem.Value.none) (PySem.Value.none) (PySem.Value.str (Mine.dcOf (Mine.kid (m5x10))) 542) (PySem.Value.str (PySem.Str.ofString "cpy313.difflib") 194) (Option.none) (PySem.Value.ref 224) (PySem.Value.none) (0) (Option.none)
noncomputable def ka232 (P : Params) : Obj := litFn (A := ⟨_, _, _, _, _, _, _⟩) (b := _ :: _) (sc := ⟨_, _, _, _, _⟩) (m5x11) Same.mk Same.mk Same.mk (PySem.Str.ofString "quick_ratio") (PySem.Str.ofString "SequenceMatcher.quick_ratio") (3) ([]) (PySem.Value.none) (PySem.Value.none) (PySem.Value.none) (PySem.Value.str (PySem.Str.ofString "cpy313.difflib") 194) (Option.none) (PySem.Value.ref 231) (PySem.Value.none) (0) (Option.none)
noncomputable def ka239 (P : Params) : Obj := litFn (A := ⟨_, _, _, _, _, _, _⟩) (b := _ :: _) (sc := ⟨_, _, _, _, _⟩) (m5x12) Same.mk Same.mk Same.mk (PySem.Str.ofString "real_quick_ratio") (PySem.Str.ofString "SequenceMatcher.real_quick_ratio") (3) ([]) (PySem.Value.none) (PySem.Value.none) (PySem.Value.none) (PySem.Value.str (PySem.Str.ofString "cpy313.difflib") 194) (Option.none) (PySem.Value.ref 238) (PySem.Value.none) (0) (Option.none)
noncomputable def ka253 (P : Params) : Obj := litFn (A := ⟨_, _, _, _, _, _, _⟩) (b := _ :: _) (sc := ⟨_, _, _, _, _⟩) (tS7) Same.mk Same.mk Same.mk (PySem.Str.ofString "heappush") (PySem.Str.ofString "heappush") (3) ([]) (PySem.Value.none) (PySem.Value.none) (PySem.Value.str (Mine.dcOf (Mine.kid (tS7))) 584) (PySem.Value.str (PySem.Str.ofString "cpy313.heapq") 575) (Option.none) (PySem.Value.ref 252) (PySem.Value.none) (0) (Option.none)
noncomputable def ka260 (P : Params) : Obj := litFn (A := ⟨_, _, _, _, _, _, _⟩) (b := _ :: _) (sc := ⟨_, _, _, _, _⟩) (tS8) Same.mk Same.mk Same.mk (PySem.Str.ofString "heappop") (PySem.Str.ofString "heappop") (3) ([]) (PySem.Value.none) (PySem.Value.none) (PySem.Value.str (Mine.dcOf (Mine.kid (tS8))) 594) (PySem.Value.str (PySem.Str.ofString "cpy313.heapq") 575) (Option.none) (PySem.Value.ref 259) (PySem.Value.none) (0) (Option.none)
noncomputable def ka267 (P : Params) : Obj := litFn (A := ⟨_, _, _, _, _, _, _⟩) (b := _ :: _) (sc := ⟨_, _, _, _, _⟩) (tS9) Same.mk Same.mk Same.mk (PySem.Str.ofString "heapreplace") (PySem.Str.ofString "heapreplace") (3) ([]) (PySem.Value.none) (PySem.Value.none) (PySem.Value.str (Mine.dcOf (Mine.kid (tS9))) 604) (PySem.Value.str (PySem.Str.ofString "cpy313.heapq") 575) (Option.none) (PySem.Value.ref 266) (PySem.Value.none) (0) (Option.none)
noncomputable def ka274 (P : Params) : Obj := litFn (A := ⟨_, _, _, _, _, _, _⟩) (b := _ :: _) (sc := ⟨_, _, _, _, _⟩) (tS10) Same.mk Same.mk Same.mk (PySem.Str.ofString "_siftdown") (PySem.Str.ofString "_siftdown") (3) ([]) (PySem.Value.none) (PySem.Value.none) (PySem.Value.none) (PySem.Value.str (PySem.Str.ofString "cpy313.heapq") 575) (Option.none) (PySem.Value.ref 273) (PySem.Value.none) (0) (Option.none)
noncomputable def ka281 (P : Params) : Obj := litFn (A := ⟨_, _, _, _, _, _, _⟩) (b := _ :: _) (sc := ⟨_, _, _, _, _⟩) (tS11) Same.mk Same.mk Same.mk (PySem.Str.ofString "_siftup") (PySem.Str.ofString "_siftup") (3) ([]) (PySem.Value.none) (PySem.Value.none) (PySem.Value.none) (PySem.Value.str (PySem.Str.ofString "cpy313.heapq") 575) (Option.none) (PySem.Value.ref 280) (PySem.Value.none) (0) (Option.none)
noncomputable def ka288 (P : Params) : Obj := litFn (A := ⟨_, _, _, _, _, _, _⟩) (b := _ :: _) (sc := ⟨_, _, _, _, _⟩) (tS13) Same.mk Same.mk Same.mk (PySem.Str.ofString "_law_rows") (PySem.Str.ofString "_law_rows") (3) ([]) (PySem.Value.none) (PySem.Value.none) (PySem.Value.none) (PySem.Value.str (PySem.Str.ofString "law_nq0313_01") 631) (Option.none) (PySem.Value.ref 287) (PySem.Value.none) (0) (Option.none)
noncomputable def ka295 (P : Params) : Obj := litFn (A := ⟨_, _, _, _, _, _, _⟩) (b := _ :: _) (sc := ⟨_, _, _, _, _⟩) (tS14) Same.mk Same.mk Same.mk (PySem.Str.ofString "_law_cheapest") (PySem.Str.ofString "_law_cheapest") (3) ([]) (PySem.Value.none) (PySem.Value.none) (PySem.Value.none) (PySem.Value.str (PySem.Str.ofString "law_nq0313_01") 631) (Option.none) (PySem.Value.ref 294) (PySem.Value.none) (0) (Option.none)
noncomputable def ka302 (P : Params) : Obj := litFn (A := ⟨_, _, _, _, _, _, _⟩) (b := _ :: _) (sc := ⟨_, _, _, _, _⟩) (tS15) Same.mk Same.mk Same.mk (PySem.Str.ofString "law") (PySem.Str.ofString "law") (3) ([]) (PySem.Value.none) (PySem.Value.none) (PySem.Value.none) (PySem.Value.str (PySem.Str.ofString "law_nq0313_01") 631) (Option.none) (PySem.Value.ref 301) (PySem.Value.none) (0) (Option.none)
noncomputable def K (P : Params) : Frag := (nat_lit 2, PySem.W.boot_o_2 P) :: (nat_lit 3, ob3 P) :: (nat_lit 15, od15 P) :: (nat_lit 17, od17 P) :: (nat_lit 18, od18 P) :: (nat_lit 20, od20 P) :: (nat_lit 21, ka21 P) :: (nat_lit 29, od29 P) :: (nat_lit 31, od31 P) :: (nat_lit 32, od32 P) :: (nat_lit 34, od34 P) :: (nat_lit 35, ka35 P) :: (nat_lit 36, od36 P) :: (nat_lit 37, od37 P) :: (nat_lit 39, od39 P) :: (nat_lit 40, od40 P) :: (nat_lit 42, od42 P) :: (nat_lit 43, ka43 P) :: (nat_lit 44, od44 P) :: (nat_lit 46, od46 P) :: (nat_lit 47, od47 P) :: (nat_lit 49, od49 P) :: (nat_lit 50, ka50 P) :: (nat_lit 51, od51 P) :: (nat_lit 53, od53 P) :: (nat_lit 54, od54 P) :: (nat_lit 56, od56 P) :: (nat_lit 57, ka57 P) :: (nat_lit 58, od58 P) :: (nat_lit 59, od59 P) :: (nat_lit 60, od60 P) :: (nat_lit 61, od61 P) :: (nat_lit 62, od62 P) :: (nat_lit 65, oe65 P) :: (nat_lit 68, oe68 P) :: (nat_lit 73, oe73 P) :: (nat_lit 74, oe74 P) :: (nat_lit 75, oe75 P) :: (nat_lit 76, oe76 P) :: (nat_lit 78, oe78 P) :: (nat_lit 79, oe79 P) :: (nat_lit 81, oe81 P) :: (nat_lit 82, ka82 P) :: (nat_lit 83, oe83 P) :: (nat_lit 85, oe85 P) :: (nat_lit 86, oe86 P) :: (nat_lit 88, oe88 P) :: (nat_lit 89, ka89 P) :: (nat_lit 90, oe90 P) :: (nat_lit 91, oe91 P) :: (nat_lit 92, oe92 P) :: (nat_lit 93, oe93 P) :: (nat_lit 94, oe94 P) :: (nat_lit 96, oe96 P) :: (nat_lit 97, oe97 P) :: (nat_lit 99, oe99 P) :: (nat_lit 100, ka100 P) :: (nat_lit 101, oe101 P) :: (nat_lit 103, oe103 P) :: (nat_lit 104, oe104 P) :: (nat_lit 106, oe106 P) :: (nat_lit 107, ka107 P) :: (nat_lit 108, oe108 P) :: (nat_lit 110, oe110 P) :: (nat_lit 111, oe111 P) :: (nat_lit 113, oe113 P) :: (nat_lit 114, ka114 P) :: (nat_lit 115, oe115 P) :: (nat_lit 117, oe117 P) :: (nat_lit 118, oe118 P) :: (nat_lit 120, oe120 P) :: (nat_lit 121, ka121 P) :: (nat_lit 122, oe122 P) :: (nat_lit 123, oe123 P) :: (nat_lit 124, oe124 P) :: (nat_lit 126, oe126 P) :: (nat_lit 127, oe127 P) :: (nat_lit 129, oe129 P) :: (nat_lit 130, oe130 P) :: (nat_lit 132, oe132 P) :: (nat_lit 134, oe134 P) :: (nat_lit 135, oe135 P) :: (nat_lit 136, oe136 P) :: (nat_lit 139, oe139 P) :: (nat_lit 141, oe141 P) :: (nat_lit 142, oe142 P) :: (nat_lit 144, oe144 P) :: (nat_lit 145, ka145 P) :: (nat_lit 153, oa153 P) :: (nat_lit 154, oa154 P) :: (nat_lit 156, oa156 P) :: (nat_lit 157, oa157 P) :: (nat_lit 159, oa159 P) :: (nat_lit 160, ka160 P) :: (nat_lit 161, oa161 P) :: (nat_lit 163, oa163 P) :: (nat_lit 164, oa164 P) :: (nat_lit 166, oa166 P) :: (nat_lit 167, ka167 P) :: (nat_lit 168, oa168 P) :: (nat_lit 170, oa170 P) :: (nat_lit 171, oa171 P) :: (nat_lit 173, oa173 P) :: (nat_lit 174, ka174 P) :: (nat_lit 175, oa175 P) :: (nat_lit 177, oa177 P) :: (nat_lit 178, oa178 P) :: (nat_lit 180, oa180 P) :: (nat_lit 181, ka181 P) :: (nat_lit 182, oa182 P) :: (nat_lit 184, oa184 P) :: (nat_lit 185, oa185 P) :: (nat_lit 187, oa187 P) :: (nat_lit 188, ka188 P) :: (nat_lit 189, oa189 P) :: (nat_lit 190, oa190 P) :: (nat_lit 192, oa192 P) :: (nat_lit 193, oa193 P) :: (nat_lit 195, oa195 P) :: (nat_lit 196, ka196 P) :: (nat_lit 197, oa197 P) :: (nat_lit 199, oa199 P) :: (nat_lit 200, oa200 P) :: (nat_lit 202, oa202 P) :: (nat_lit 203, ka203 P) :: (nat_lit 204, oa204 P) :: (nat_lit 206, oa206 P) :: (nat_lit 207, oa207 P) :: (nat_lit 209, oa209 P) :: (nat_lit 210, ka210 P) :: (nat_lit 211, oa211 P) :: (nat_lit 212, oa212 P) :: (nat_lit 214, oa214 P) :: (nat_lit 215, oa215 P) :: (nat_lit 217, oa217 P) :: (nat_lit 218, ka218 P) :: (nat_lit 219, oa219 P) :: (nat_lit 221, oa221 P) :: (nat_lit 222, oa222 P) :: (nat_lit 224, oa224 P) :: (nat_lit 225, ka225 P) :: (nat_lit 226, oa226 P) :: (nat_lit 228, oa228 P) :: (nat_lit 229, oa229 P) :: (nat_lit 231, oa231 P) :: (nat_lit 232, ka232 P) :: (nat_lit 233, oa233 P) :: (nat_lit 235, oa235 P) :: (nat_lit 236, oa236 P) :: (nat_lit 238, oa238 P) :: (nat_lit 239, ka239 P) :: (nat_lit 240, oa240 P) :: (nat_lit 241, oa241 P) :: (nat_lit 242, oa242 P) :: (nat_lit 243, oa243 P) :: (nat_lit 244, oa244 P) :: (nat_lit 247, ob247 P) :: (nat_lit 249, ob249 P) :: (nat_lit 250, ob250 P) :: (nat_lit 252, ob252 P) :: (nat_lit 253, ka253 P) :: (nat_lit 254, ob254 P) :: (nat_lit 256, ob256 P) :: (nat_lit 257, ob257 P) :: (nat_lit 259, ob259 P) :: (nat_lit 260, ka260 P) :: (nat_lit 261, ob261 P) :: (nat_lit 263, ob263 P) :: (nat_lit 264, ob264 P) :: (nat_lit 266, ob266 P) :: (nat_lit 267, ka267 P) :: (nat_lit 268, ob268 P) :: (nat_lit 270, ob270 P) :: (nat_lit 271, ob271 P) :: (nat_lit 273, ob273 P) :: (nat_lit 274, ka274 P) :: (nat_lit 275, ob275 P) :: (nat_lit 277, ob277 P) :: (nat_lit 278, ob278 P) :: (nat_lit 280, ob280 P) :: (nat_lit 281, ka281 P) :: (nat_lit 282, ob282 P) :: (nat_lit 284, ob284 P) :: (nat_lit 285, ob285 P) :: (nat_lit 287, ob287 P) :: (nat_lit 288, ka288 P) :: (nat_lit 289, ob289 P) :: (nat_lit 291, ob291 P) :: (nat_lit 292, ob292 P) :: (nat_lit 294, ob294 P) :: (nat_lit 295, ka295 P) :: (nat_lit 296, ob296 P) :: (nat_lit 298, ob298 P) :: (nat_lit 299, ob299 P) :: (nat_lit 301, ob301 P) :: (nat_lit 302, ka302 P) :: []
noncomputable def Kas : List Addr := nat_lit 2 :: nat_lit 3 :: nat_lit 15 :: nat_lit 17 :: nat_lit 18 :: nat_lit 20 :: nat_lit 21 :: nat_lit 29 :: nat_lit 31 :: nat_lit 32 :: nat_lit 34 :: nat_lit 35 :: nat_lit 36 :: nat_lit 37 :: nat_lit 39 :: nat_lit 40 :: nat_lit 42 :: nat_lit 43 :: nat_lit 44 :: nat_lit 46 :: nat_lit 47 :: nat_lit 49 :: nat_lit 50 :: nat_lit 51 :: nat_lit 53 :: nat_lit 54 :: nat_lit 56 :: nat_lit 57 :: nat_lit 58 :: nat_lit 59 :: nat_lit 60 :: nat_lit 61 :: nat_lit 62 :: nat_lit 65 :: nat_lit 68 :: nat_lit 73 :: nat_lit 74 :: nat_lit 75 :: nat_lit 76 :: nat_lit 78 :: nat_lit 79 :: nat_lit 81 :: nat_lit 82 :: nat_lit 83 :: nat_lit 85 :: nat_lit 86 :: nat_lit 88 :: nat_lit 89 :: nat_lit 90 :: nat_lit 91 :: nat_lit 92 :: nat_lit 93 :: nat_lit 94 :: nat_lit 96 :: nat_lit 97 :: nat_lit 99 :: nat_lit 100 :: nat_lit 101 :: nat_lit 103 :: nat_lit 104 :: nat_lit 106 :: nat_lit 107 :: nat_lit 108 :: nat_lit 110 :: nat_lit 111 :: nat_lit 113 :: nat_lit 114 :: nat_lit 115 :: nat_lit 117 :: nat_lit 118 :: nat_lit 120 :: nat_lit 121 :: nat_lit 122 :: nat_lit 123 :: nat_lit 124 :: nat_lit 126 :: nat_lit 127 :: nat_lit 129 :: nat_lit 130 :: nat_lit 132 :: nat_lit 134 :: nat_lit 135 :: nat_lit 136 :: nat_lit 139 :: nat_lit 141 :: nat_lit 142 :: nat_lit 144 :: nat_lit 145 :: nat_lit 153 :: nat_lit 154 :: nat_lit 156 :: nat_lit 157 :: nat_lit 159 :: nat_lit 160 :: nat_lit 161 :: nat_lit 163 :: nat_lit 164 :: nat_lit 166 :: nat_lit 167 :: nat_lit 168 :: nat_lit 170 :: nat_lit 171 :: nat_lit 173 :: nat_lit 174 :: nat_lit 175 :: nat_lit 177 :: nat_lit 178 :: nat_lit 180 :: nat_lit 181 :: nat_lit 182 :: nat_lit 184 :: nat_lit 185 :: nat_lit 187 :: nat_lit 188 :: nat_lit 189 :: nat_lit 190 :: nat_lit 192 :: nat_lit 193 :: nat_lit 195 :: nat_lit 196 :: nat_lit 197 :: nat_lit 199 :: nat_lit 200 :: nat_lit 202 :: nat_lit 203 :: nat_lit 204 :: nat_lit 206 :: nat_lit 207 :: nat_lit 209 :: nat_lit 210 :: nat_lit 211 :: nat_lit 212 :: nat_lit 214 :: nat_lit 215 :: nat_lit 217 :: nat_lit 218 :: nat_lit 219 :: nat_lit 221 :: nat_lit 222 :: nat_lit 224 :: nat_lit 225 :: nat_lit 226 :: nat_lit 228 :: nat_lit 229 :: nat_lit 231 :: nat_lit 232 :: nat_lit 233 :: nat_lit 235 :: nat_lit 236 :: nat_lit 238 :: nat_lit 239 :: nat_lit 240 :: nat_lit 241 :: nat_lit 242 :: nat_lit 243 :: nat_lit 244 :: nat_lit 247 :: nat_lit 249 :: nat_lit 250 :: nat_lit 252 :: nat_lit 253 :: nat_lit 254 :: nat_lit 256 :: nat_lit 257 :: nat_lit 259 :: nat_lit 260 :: nat_lit 261 :: nat_lit 263 :: nat_lit 264 :: nat_lit 266 :: nat_lit 267 :: nat_lit 268 :: nat_lit 270 :: nat_lit 271 :: nat_lit 273 :: nat_lit 274 :: nat_lit 275 :: nat_lit 277 :: nat_lit 278 :: nat_lit 280 :: nat_lit 281 :: nat_lit 282 :: nat_lit 284 :: nat_lit 285 :: nat_lit 287 :: nat_lit 288 :: nat_lit 289 :: nat_lit 291 :: nat_lit 292 :: nat_lit 294 :: nat_lit 295 :: nat_lit 296 :: nat_lit 298 :: nat_lit 299 :: nat_lit 301 :: nat_lit 302 :: []

abbrev pos0 : Pos := ⟨0, 0, 0, 0⟩
noncomputable def env1 : Env := { scope := scX, locals := mainNs, globals := mainNs, cells := [], code := .ref 13, frame := some 14 }
abbrev cdB : Code := Code.body (behindTheImports pwX) env1
noncomputable def sts1 : List Stmt := [tS0, tS1, tS2]
noncomputable def sts2 : List Stmt := [tS3, tS4]
noncomputable def sts6 : List Stmt := [tS5]
noncomputable def sts7 : List Stmt := [tS6, tS7, tS8, tS9, tS10, tS11, tS12, tS13, tS14, tS15]
set_option maxHeartbeats 0
noncomputable def lhs1 : Program → List Stmt → World → OsState → Option (Flow × SharedT × Code × Pos) := fun v b w os => segRunT treeTable v w 11 (some (.ref 6)) 1 362 ⟨treeX w.params, 15, {}, ⟨[]⟩, {}, 187, os⟩ (piecesOf sts1 env1 (Code.body b env1) ⟨0, 0, 0, 0⟩ [topFrame pos0])
noncomputable def rhs1 : Program → List Stmt → World → OsState → Option (Flow × SharedT × Code × Pos) := fun _ b _w os => some (.next, ⟨treeY _w.params, 65, {}, ⟨[]⟩, {}, 253, os⟩, Code.body b env1, ⟨5, 0, 22, 54⟩)
theorem lhs1_r : lhs1 = lhs1 := rfl
theorem rhs1_r : rhs1 = rhs1 := rfl
name_quick Mine.ql1 for Mine.lhs1 by Mine.lhs1_r
name_quick Mine.qr1 for Mine.rhs1 by Mine.rhs1_r
theorem q1 : PySem.W.Fast.Mine.ql1 = PySem.W.Fast.Mine.qr1 := by kernel_rfl
theorem piece1 : lhs1 = rhs1 := PySem.W.Fast.Mine.ql1_eq.trans (q1.trans PySem.W.Fast.Mine.qr1_eq.symm)
noncomputable def lhs2 : Program → List Stmt → World → OsState → Option (Flow × SharedT × Code × Pos) := fun v b w os => segRunT treeTable v w 11 (some (.ref 6)) 1 1077 ⟨treeY w.params, 65, {}, ⟨[]⟩, {}, 253, os⟩ (piecesOf sts2 env1 (Code.body b env1) ⟨5, 0, 22, 54⟩ [topFrame pos0])
noncomputable def rhs2 : Program → List Stmt → World → OsState → Option (Flow × SharedT × Code × Pos) := fun _ b _w os => some (.next, ⟨treeZ _w.params, 146, {}, ⟨[]⟩, {}, 389, os⟩, Code.body b env1, ⟨66, 0, 69, 14⟩)
theorem lhs2_r : lhs2 = lhs2 := rfl
theorem rhs2_r : rhs2 = rhs2 := rfl
name_quick Mine.ql2 for Mine.lhs2 by Mine.lhs2_r
name_quick Mine.qr2 for Mine.rhs2 by Mine.rhs2_r
theorem q2 : PySem.W.Fast.Mine.ql2 = PySem.W.Fast.Mine.qr2 := by kernel_rfl
theorem piece2 : lhs2 = rhs2 := PySem.W.Fast.Mine.ql2_eq.trans (q2.trans PySem.W.Fast.Mine.qr2_eq.symm)
noncomputable def lhs6 : Program → List Stmt → World → OsState → Option (Flow × SharedT × Code × Pos) := fun v b w os => segRunT tabX v w 11 (some (.ref 6)) 1 649 ⟨treeZ w.params, 146, {}, ⟨[]⟩, {}, 389, os⟩ (piecesOf sts6 env1 (Code.body b env1) ⟨66, 0, 69, 14⟩ [topFrame pos0])
noncomputable def rhs6 : Program → List Stmt → World → OsState → Option (Flow × SharedT × Code × Pos) := fun _ b _w os => some (.next, ⟨treeA _w.params, 247, {}, ⟨[]⟩, {}, 575, os⟩, Code.body b env1, ⟨70, 0, 417, 16⟩)
theorem lhs6_r : lhs6 = lhs6 := rfl
theorem rhs6_r : rhs6 = rhs6 := rfl
name_quick Mine.ql6 for Mine.lhs6 by Mine.lhs6_r
name_quick Mine.qr6 for Mine.rhs6 by Mine.rhs6_r
theorem q6 : PySem.W.Fast.Mine.ql6 = PySem.W.Fast.Mine.qr6 := by kernel_rfl
theorem piece6 : lhs6 = rhs6 := PySem.W.Fast.Mine.ql6_eq.trans (q6.trans PySem.W.Fast.Mine.qr6_eq.symm)
noncomputable def lhs7 : Program → List Stmt → World → OsState → Option (Flow × SharedT × Code × Pos) := fun v b w os => segRunT treeTable v w 11 (some (.ref 6)) 1 297 ⟨treeA w.params, 247, {}, ⟨[]⟩, {}, 575, os⟩ (piecesOf sts7 env1 (Code.body b env1) ⟨70, 0, 417, 16⟩ [topFrame pos0])
noncomputable def rhs7 : Program → List Stmt → World → OsState → Option (Flow × SharedT × Code × Pos) := fun _ b _w os => some (.next, ⟨treeB _w.params, 303, {}, ⟨[]⟩, {}, 681, os⟩, Code.body b env1, ⟨493, 0, 511, 54⟩)
theorem lhs7_r : lhs7 = lhs7 := rfl
theorem rhs7_r : rhs7 = rhs7 := rfl
name_quick Mine.ql7 for Mine.lhs7 by Mine.lhs7_r
name_quick Mine.qr7 for Mine.rhs7 by Mine.rhs7_r
theorem q7 : PySem.W.Fast.Mine.ql7 = PySem.W.Fast.Mine.qr7 := by kernel_rfl
theorem piece7 : lhs7 = rhs7 := PySem.W.Fast.Mine.ql7_eq.trans (q7.trans PySem.W.Fast.Mine.qr7_eq.symm)

abbrev Bf : List Frame := [topFrame pos0]
abbrev S0 (w : World) (os : OsState) : Shared := ⟨boot_heap w.params, ⟨[]⟩, boot_drawn, boot_toks, os⟩
abbrev SB (w : World) (os : OsState) : SharedT := ⟨treeX w.params, 15, {}, ⟨[]⟩, {}, 187, os⟩
abbrev S1 (w : World) (os : OsState) : SharedT := ⟨treeY w.params, 65, {}, ⟨[]⟩, {}, 253, os⟩
abbrev S2 (w : World) (os : OsState) : SharedT := ⟨treeZ w.params, 146, {}, ⟨[]⟩, {}, 389, os⟩
abbrev S6 (w : World) (os : OsState) : SharedT := ⟨treeA w.params, 247, {}, ⟨[]⟩, {}, 575, os⟩
abbrev S7 (w : World) (os : OsState) : SharedT := ⟨treeB w.params, 303, {}, ⟨[]⟩, {}, 681, os⟩
abbrev SF (w : World) (os : OsState) : Shared := ⟨heapF w.params, ⟨[]⟩, {}, 681, os⟩
noncomputable def lhsP : World → OsState → Option (Shared × Thread) := fun w os => topGo treeTable pwX w 11 (some (.ref 6)) 12 (S0 w os) (topStub pwX)
noncomputable def rhsP : World → OsState → Option (Shared × Thread) := fun w os => some ((SB w os).abs, ⟨denote treeTable cdB, cdB, pos0, Bf⟩)
noncomputable def lhsB : World → OsState → Option (Flow × Shared × Code × Pos) := fun w os => segRun treeTable pwX w 11 (some (.ref 6)) 1 1 (SB w os).abs (blockOf (behindTheImports pwX) env1 cdB pos0 Bf)
noncomputable def rhsB : World → OsState → Option (Flow × Shared × Code × Pos) := fun w os => some (.next, (SB w os).abs, cdB, pos0)
noncomputable def lhsF : World → OsState → Option Shared := fun w os => topRun treeTable pwX w 11 (some (.ref 6)) 2 (S7 w os).abs ⟨doneF .next, cdB, ⟨493, 0, 511, 54⟩, Bf⟩
noncomputable def rhsF : World → OsState → Option Shared := fun w os => some (SF w os)
theorem lhsP_r : lhsP = lhsP := rfl
name_quick Mine.qlP for Mine.lhsP by Mine.lhsP_r
theorem rhsP_r : rhsP = rhsP := rfl
name_quick Mine.qrP for Mine.rhsP by Mine.rhsP_r
theorem qP : PySem.W.Fast.Mine.qlP = PySem.W.Fast.Mine.qrP := by kernel_rfl
theorem pieceP : lhsP = rhsP := PySem.W.Fast.Mine.qlP_eq.trans (qP.trans PySem.W.Fast.Mine.qrP_eq.symm)
theorem lhsB_r : lhsB = lhsB := rfl
name_quick Mine.qlB for Mine.lhsB by Mine.lhsB_r
theorem rhsB_r : rhsB = rhsB := rfl
name_quick Mine.qrB for Mine.rhsB by Mine.rhsB_r
theorem qB : PySem.W.Fast.Mine.qlB = PySem.W.Fast.Mine.qrB := by kernel_rfl
theorem pieceB : lhsB = rhsB := PySem.W.Fast.Mine.qlB_eq.trans (qB.trans PySem.W.Fast.Mine.qrB_eq.symm)
theorem lhsF_r : lhsF = lhsF := rfl
name_quick Mine.qlF for Mine.lhsF by Mine.lhsF_r
theorem rhsF_r : rhsF = rhsF := rfl
name_quick Mine.qrF for Mine.rhsF by Mine.rhsF_r
theorem qF : PySem.W.Fast.Mine.qlF = PySem.W.Fast.Mine.qrF := by kernel_rfl
theorem pieceF : lhsF = rhsF := PySem.W.Fast.Mine.qlF_eq.trans (qF.trans PySem.W.Fast.Mine.qrF_eq.symm)

theorem body_parts : behindTheImports pwX = (sts1 ++ (sts2 ++ (sts6 ++ (sts7 ++ [])))) := by kernel_rfl
theorem p1 (v : Program) (b : List Stmt) (w : World) (os : OsState) : segRun treeTable v w 11 (some (.ref 6)) 1 362 (SB w os).abs (piecesOf sts1 env1 (Code.body b env1) ⟨0, 0, 0, 0⟩ Bf) = some (.next, (S1 w os).abs, Code.body b env1, ⟨5, 0, 22, 54⟩) :=
  segRun_of (congrFun (congrFun (congrFun (congrFun piece1 v) b) w) os)
theorem p2 (v : Program) (b : List Stmt) (w : World) (os : OsState) : segRun treeTable v w 11 (some (.ref 6)) 1 1077 (S1 w os).abs (piecesOf sts2 env1 (Code.body b env1) ⟨5, 0, 22, 54⟩ Bf) = some (.next, (S2 w os).abs, Code.body b env1, ⟨66, 0, 69, 14⟩) :=
  segRun_of (congrFun (congrFun (congrFun (congrFun piece2 v) b) w) os)
theorem p6 (v : Program) (b : List Stmt) (w : World) (os : OsState) : segRun treeTable v w 11 (some (.ref 6)) 1 649 (S2 w os).abs (piecesOf sts6 env1 (Code.body b env1) ⟨66, 0, 69, 14⟩ Bf) = some (.next, (S6 w os).abs, Code.body b env1, ⟨70, 0, 417, 16⟩) := by
  rw [tabX_eq]
  exact segRun_of (congrFun (congrFun (congrFun (congrFun piece6 v) b) w) os)
theorem p7 (v : Program) (b : List Stmt) (w : World) (os : OsState) : segRun treeTable v w 11 (some (.ref 6)) 1 297 (S6 w os).abs (piecesOf sts7 env1 (Code.body b env1) ⟨70, 0, 417, 16⟩ Bf) = some (.next, (S7 w os).abs, Code.body b env1, ⟨493, 0, 511, 54⟩) :=
  segRun_of (congrFun (congrFun (congrFun (congrFun piece7 v) b) w) os)
theorem pF (w : World) (os : OsState) : topRun treeTable pwX w 11 (some (.ref 6)) 2 (S7 w os).abs ⟨doneF .next, cdB, ⟨493, 0, 511, 54⟩, Bf⟩ = some (SF w os) := congrFun (congrFun pieceF w) os
theorem runC (w : World) (os : OsState) : topRun treeTable pwX w 11 (some (.ref 6)) (Nat.add 362 (Nat.add 1077 (649 + (297 + 2)))) (SB w os).abs (restOf (sts1 ++ (sts2 ++ (sts6 ++ (sts7 ++ [])))) env1 cdB pos0 Bf) = some (SF w os) :=
  piece_app (p1 _ _ w os) (piece_app (p2 _ _ w os) (piece_app (p6 _ _ w os) (piece_app (p7 _ _ w os) (piece_nil (pF w os)))))
theorem runB (w : World) (os : OsState) : topRun treeTable pwX w 11 (some (.ref 6)) (Nat.add 362 (Nat.add 1077 (649 + (297 + 2)))) (SB w os).abs (restOf (behindTheImports pwX) env1 cdB pos0 Bf) = some (SF w os) :=
  (congrArg (fun l => topRun treeTable pwX w 11 (some (.ref 6)) (Nat.add 362 (Nat.add 1077 (649 + (297 + 2)))) (SB w os).abs (restOf l env1 cdB pos0 Bf)) body_parts).trans (runC w os)
theorem runAll (w : World) (os : OsState) : topRun treeTable pwX w 11 (some (.ref 6)) (12 + (1 + (Nat.add 362 (Nat.add 1077 (649 + (297 + 2)))))) (S0 w os) (topStub pwX) = some (SF w os) :=
  go_top (congrFun (congrFun pieceP w) os) (piece_block (congrFun (congrFun pieceB w) os) (runB w os))
noncomputable def qvX : Program := { pwX with main := { pwX.main with body := [tS0, tS1, tS4, tS6, tS7, tS8, tS9, tS10, tS11, tS12, tS13, tS14, tS15] } }
noncomputable def looseL : List Str := [Str.ofString "_tuplegetter", Str.ofString "Match", Str.ofString "SequenceMatcher"]
abbrev rowL : RowW := OpenRow.toRowW PySem.Challenge.rw_nq0313_01.row
abbrev XtF (s : Shared) : Bool := xlAt qvX [] s && recOk [] s
noncomputable def HK : Hook := kHook K Kas (fun _ => by kernel_rfl)
noncomputable def lhsL := fun (w : World) (os : OsState) => ((staticsOk (importedModules pwX.main.body) (boot_heap w.params) (heapF w.params) && namesBound pwX (heapF w.params) && gensDone (SF w os) && laidKept (boot_heap w.params) (heapF w.params)), openSeen qvX looseL (importedModules pwX.main.body) XtF true (SF w os))
noncomputable def rhsL := fun (w : World) (os : OsState) => (true, openGood qvX looseL)
theorem lhsL_r : lhsL = lhsL := rfl
theorem rhsL_r : rhsL = rhsL := rfl
name_quick Mine.qlL for Mine.lhsL by Mine.lhsL_r
name_quick Mine.qrL for Mine.rhsL by Mine.rhsL_r
theorem qL : PySem.W.Fast.Mine.qlL = PySem.W.Fast.Mine.qrL := by kernel_rfl
theorem pieceL : lhsL = rhsL := PySem.W.Fast.Mine.qlL_eq.trans (qL.trans PySem.W.Fast.Mine.qrL_eq.symm)
theorem pieceY : (fun (w : World) (os : OsState) => HK.obs (SF w os)) = fun w _ => HK.val w := by kernel_rfl
theorem sizeL : ∀ w : World, ((boot_heap w.params).isNs mainGlobals && (⟨[]⟩ : Array GenState).size == 0, (boot_heap w.params).objs.size, (boot_heap w.params).nsMap mainGlobals "__annotations__") = (true, 11, some (Value.ref 6)) := by
  intro w; kernel_rfl
theorem leftX : LeftO pwX qvX looseL XtF HK.obs HK.val 4888 := by
  refine LeftO.of_pieces (H₀ := boot_heap) (H₁ := heapF) (gs₀ := ⟨[]⟩) (gs₁ := ⟨[]⟩) (d₀ := boot_drawn) (d₁ := {}) (k₀ := boot_toks) (k₁ := 681) (m₀ := 11) (ann := some (.ref 6)) (M := 12 + (1 + (Nat.add 362 (Nat.add 1077 (649 + (297 + 2))))))
    (boot_open (by kernel_rfl) (by decide) (fun s => by kernel_rfl)) sizeL runAll (by decide +kernel) (fun w => funext fun os => ?_)
  have h1 := congrFun (congrFun pieceL w) os
  have h2 := congrFun (congrFun pieceY w) os
  exact looks_pair (Prod.mk.inj h1).1 (looks_pair (Prod.mk.inj h1).2 h2)
theorem left : LeftO PySem.Challenge.pw_nq0313_01 qvX looseL XtF HK.obs HK.val 4888 := pwX_eq ▸ leftX
noncomputable def lawF (p : Program) : OpenLaw := by
  apply (?g : (x1 : _) → (x2 : _) → (x3 : _) → (x4 : _) → (x5 : _) → (x6 : _) → Same (⟨PySem.Challenge.pw_nq0313_01, x1, x2, x3, x4, x5, x6⟩ : OpenLaw) PySem.Challenge.rw_nq0313_01 → OpenLaw)
  case g => exact fun x1 x2 x3 x4 x5 x6 _ => ⟨p, x1, x2, x3, x4, x5, x6⟩
  exact (Same.mk : Same (⟨PySem.Challenge.pw_nq0313_01, _, _, _, _, _, _⟩ : OpenLaw) PySem.Challenge.rw_nq0313_01)
noncomputable def lawX : OpenLaw := lawF pwX
theorem lawX_eq : PySem.Challenge.rw_nq0313_01 = lawX := congrArg lawF pwX_eq
theorem holdsX (h : PySem.Challenge.rw_nq0313_01.row.wellSaid = true → PySem.Challenge.rw_nq0313_01.row.Holds) : PySem.Challenge.rw_nq0313_01.Holds := by
  rw [lawX_eq] at h ⊢
  o_law
  exact h (by assumption)
end
end Mine
end
section
open PySem PySem.W PyProof.Rows PySem.Spec PySem.Calls
set_option maxRecDepth 100000
namespace Mine
noncomputable abbrev Led := List (Addr × Obj)
/-- the value reads as the datum in every heap that bears the ledger -/
noncomputable def Rd (R : Led) (v : Value) (d : PyData) : Prop := ∀ h : Heap, (∀ p ∈ R, h.get? p.1 = some p.2) → ∃ as, Reads h v d as
theorem Rd.mono {R R' : Led} {v : Value} {d : PyData} (x : Rd R v d) (hs : ∀ p ∈ R, p ∈ R') : Rd R' v d := fun h k => x h fun p hp => k p (hs p hp)

noncomputable def triD (t : Tri) : PyData := .tuple [.int t.1, .int t.2.1, .int t.2.2]
noncomputable def trisD (l : List Tri) : PyData := .tuple (l.map triD)
noncomputable def enD (x : En) : PyData := .tuple [.int x.1, trisD x.2.1, .int x.2.2]

theorem eqv_int (a b : Int) : PyData.eqv (.int a) (.int b) = decide (a = b) := by
  simp [PyData.eqv]; try rfl
theorem eqv_tri (s t : Tri) : PyData.eqv (triD s) (triD t) = decide (s = t) := by
  obtain ⟨a, b, c⟩ := s; obtain ⟨d, e, f⟩ := t
  simp only [triD, PyData.eqv, PyData.eqvAll, eqv_int]
  by_cases h1 : a = d <;> by_cases h2 : b = e <;> by_cases h3 : c = f <;> simp [h1, h2, h3]
theorem eqvAll_tris : ∀ l k : List Tri, PyData.eqvAll (l.map triD) (k.map triD) = decide (l = k)
  | [], [] => by simp [PyData.eqvAll]
  | [], _ :: _ => by simp [PyData.eqvAll]
  | _ :: _, [] => by simp [PyData.eqvAll]
  | x :: xs, y :: ys => by
    simp only [List.map_cons, PyData.eqvAll, eqv_tri, eqvAll_tris xs ys]
    by_cases h1 : x = y <;> by_cases h2 : xs = ys <;> simp [h1, h2]
theorem eqv_tris (l k : List Tri) : PyData.eqv (trisD l) (trisD k) = decide (l = k) := by
  simp only [trisD, PyData.eqv]; exact eqvAll_tris l k
theorem dLt_tri (s t : Tri) : dLt (triD s) (triD t) = triLt s t := by
  obtain ⟨a, b, c⟩ := s; obtain ⟨d, e, f⟩ := t
  simp only [triD, dLt, dLtAll, eqv_int, triLt, lex2, iLt]
  by_cases h1 : a = d <;> by_cases h2 : b = e <;> by_cases h3 : c = f <;> simp [h1, h2, h3]
theorem dLtAll_tris : ∀ l k : List Tri, dLtAll (l.map triD) (k.map triD) = lexL triLt l k
  | [], [] => by simp [dLtAll, lexL]
  | [], _ :: _ => by simp [dLtAll, lexL]
  | _ :: _, [] => by simp [dLtAll, lexL]
  | x :: xs, y :: ys => by
    simp only [List.map_cons, dLtAll, eqv_tri, dLtAll_tris xs ys, dLt_tri, lexL, decide_eq_true_eq]
theorem dLt_en (x y : En) : dLt (enD x) (enD y) = eLt x y := by
  obtain ⟨a, b, c⟩ := x; obtain ⟨d, e, f⟩ := y
  have e1 : dLt (trisD b) (trisD e) = lexL triLt b e := by simp only [trisD, dLt]; exact dLtAll_tris b e
  simp only [enD, dLt, dLtAll, eqv_int, eqv_tris, e1, eLt, lex2, iLt, decide_eq_true_eq]
  by_cases h1 : a = d <;> by_cases h2 : b = e <;> by_cases h3 : c = f <;> simp [h1, h2, h3]
theorem lay_tris : ∀ l : List Tri, PyData.canLayAll0 (l.map triD) = true ∧ PyData.depthAll (l.map triD) ≤ 2
  | [] => by simp [PyData.canLayAll0, PyData.depthAll]
  | x :: xs => by
    have := lay_tris xs
    simp only [List.map_cons, PyData.canLayAll0, PyData.depthAll, triD, PyData.canLay0, PyData.depth, this.1, Bool.and_self, true_and]
    have := this.2
    omega
theorem lay_en (x : En) : (enD x).canLay0 = true ∧ (enD x).depth ≤ 5 := by
  have := lay_tris x.2.1
  simp only [enD, trisD, PyData.canLay0, PyData.canLayAll0, PyData.depth, PyData.depthAll, this.1, Bool.and_self, true_and]
  have := this.2
  omega
theorem cmp_tris : ∀ l k : List Tri, cmpOkAll (l.map triD) (k.map triD) = true
  | [], _ => by simp [cmpOkAll]
  | _ :: _, [] => by simp [cmpOkAll]
  | x :: xs, y :: ys => by simp [cmpOkAll, cmpOk, triD, cmp_tris xs ys]
theorem cmp_en (x y : En) : cmpOk (enD x) (enD y) = true := by
  simp [enD, trisD, cmpOk, cmpOkAll, cmp_tris]

theorem filled : PySem.Challenge.rw_nq0313_01.prog = PySem.Challenge.rw_nq0313_01.prog ∧ K = K := by
  k_fill
  exact ⟨rfl, rfl⟩
/-- a call's contract -/
noncomputable def CallOk (w : World) (f : Addr) (vs : List Value) (news : Led) (dd uu : Nat) (Post : Value → Led → Prop) : Prop :=
  ∀ (prog p : Program) (loose : List Str) (mean : ExcName → Option Value) (mg mb : Str → Option Value) (dp un : Nat) (gd : Option (List Code)) (cn : Str) (cs : Scope) (a : Addr) (ccd : Value) (cl : List (Str × Addr)) (outer : List Env) (A₀ : Around) (base h₀ : Heap) (L : Addr) (m : Str → Option Value) (s : Shared)
    (Q E : Value → Shared → Prop),
    Below A₀ base outer h₀ → Fr h₀ L s.heap m → (K w.params).In h₀ → News h₀ L s.heap news → Top p loose mean mg mb h₀ → cs.kind = .function → dp + dd < recursionLimit → un + uu < cLine →
    (∀ r news' h' tk', Fr h₀ L h' m → News h₀ L h' news' → Post r news' → Q r { s with heap := h', toks := tk' }) →
    wpAny (model prog w) (ktrTop dp un gd cn cs L a ccd cl outer) (call (.ref f) vs) Q E s

section
variable {prog : Program} {w : World} {A : Around} {E : Value → Shared → Prop} {s : Shared} {h₀ : Heap} {L : Addr} {m : Str → Option Value} {news R : Led} {a : Addr} {vs : List Value} {n p : Nat} {k : Int} {t u : Tok} {v x : Value}
theorem item_nat {value slice : PySem.Expr} {Q : Value → Shared → Prop} (N : News h₀ L s.heap news) (hm : (a, listOf vs.toArray n) ∈ news) (hk : k = (p : Int)) (hx : vs[p]? = some x) (hfit : vs.length < 2 ^ 62) (h : Q x s)
    (hs : subscripted slice false (.ref a) (.int k u) = operate [.ref a, .int k u] (getItem (.ref a) (.int k u)) := by with_unfolding_all rfl) (hg : ∀ r, letTemporaryGo value (.ref a) r = pure () := by intro _; with_unfolding_all rfl) :
    wpAny (model prog w) A (subscriptTail value slice (.ref a) (.int k u)) Q E s := by
  have hp : p < vs.length := by
    rcases Nat.lt_or_ge p vs.length with q | q
    · exact q
    · rw [List.getElem?_eq_none q] at hx; cases hx
  exact kim_list N hm rfl rfl (by omega) (by omega) (by subst hk; simpa using hx) h hs hg
theorem set_nat {Q : Unit → Shared → Prop} (F : Fr h₀ L s.heap m) (N : News h₀ L s.heap ((a, listOf vs.toArray n) :: R)) (hR : ∀ q ∈ R, q.1 ≠ a) (hk : k = (p : Int)) (hp : p < vs.length) (hfit : vs.length < 2 ^ 62)
    (h : ∀ h', Fr h₀ L h' m → News h₀ L h' ((a, listOf (vs.set p v).toArray n) :: R) → Q () { s with heap := h' }) :
    wpAny (model prog w) A (setItem (.ref a) (.int k t) v) Q E s := by
  have z := N (a, listOf vs.toArray n) (.head _)
  subst hk
  refine ki_setAt z.1 (by omega) (by omega) (by rw [List.size_toArray]; omega) (h _ (F.change (Heap.SameBut.update ..) z.2.1 z.2.2) (ki_turn (pre := []) _ N (fun _ q => nomatch q) hR ?_ ?_))
  · apply Array.toList_inj.mp
    simp
  · simp
theorem lt_rd {x y : En} {va vb : Value} {Q : Value → Shared → Prop} (N : News h₀ L s.heap news) (sub : ∀ p ∈ R, p ∈ news) (ra : Rd R va (enD x)) (rb : Rd R vb (enD y)) (hu : A.units + 8 < cLine) (h : Q (.bool (eLt x y)) s) :
    wpAny (model prog w) A (compareOp .Lt va vb) Q E s := by
  obtain ⟨as, qa⟩ := ra s.heap fun p hp => (N p (sub p hp)).1
  obtain ⟨bs, qb⟩ := rb s.heap fun p hp => (N p (sub p hp)).1
  have l1 := lay_en x
  have l2 := lay_en y
  refine compareLt_reads qa qb l1.1 l2.1 (cmp_en x y) (by omega) ?_
  rw [dLt_en]
  exact h
end
end Mine
end
section
open PySem PySem.W PyProof.Rows PySem.Spec PySem.Calls
set_option maxRecDepth 100000
namespace Mine
noncomputable def Held (P : Prop) : Prop := P
theorem hold {P : Prop} (h : Held P) : P := h
noncomputable def EnsAre (R : Led) (vs : List Value) (H : List En) : Prop := vs.length = H.length ∧ ∀ (i : Nat) v x, vs[i]? = some v → H[i]? = some x → Rd R v (enD x)
section
variable {R : Led} {vs : List Value} {H : List En} {v : Value} {x : En}
theorem EnsAre.get (h : EnsAre R vs H) (i : Nat) (hi : i < H.length) : ∃ v, vs[i]? = some v ∧ Rd R v (enD (H[i]'hi)) := by
  have hv : i < vs.length := by rw [h.1]; exact hi
  exact ⟨vs[i], List.getElem?_eq_getElem hv, h.2 i _ _ (List.getElem?_eq_getElem hv) (List.getElem?_eq_getElem hi)⟩
theorem EnsAre.set (h : EnsAre R vs H) (i : Nat) (hx : Rd R v (enD x)) : EnsAre R (vs.set i v) (H.set i x) := by
  refine ⟨by rw [List.length_set, List.length_set]; exact h.1, fun j w y h1 h2 => ?_⟩
  by_cases e : i = j
  · subst e
    rw [List.getElem?_set_self'] at h1 h2
    cases q1 : vs[i]? with
    | none => rw [q1] at h1; simp at h1
    | some _ =>
      cases q2 : H[i]? with
      | none => rw [q2] at h2; simp at h2
      | some _ => rw [q1] at h1; rw [q2] at h2; simp at h1 h2; subst h1 h2; exact hx
  · rw [List.getElem?_set_ne e] at h1 h2
    exact h.2 j w y h1 h2
end

noncomputable def Mid {h₀ : Heap} {L : Addr} {h : Heap} {m : Str → Option Value} (_F : Fr h₀ L h m) (s : Shared) (J : (Str → Option Value) → Led → Prop) (f : Flow) (s' : Shared) : Prop :=
  f = .next ∧ ∃ h' tk' m' news', s' = { s with heap := h', toks := tk' } ∧ Fr h₀ L h' m' ∧ News h₀ L h' news' ∧ J m' news'
theorem Fr.told {h₀ : Heap} {L : Addr} {h : Heap} {m : Str → Option Value} (F : Fr h₀ L h m) {ps : List (Str × Value)} (e : ∀ p ∈ ps, m p.1 = some p.2) : Fr h₀ L h (kstB m ps) := by
  have : kstB m ps = m := by
    funext z
    exact kstB_eq e fun _ => rfl
  rw [this]; exact F

theorem same_of {stored : List Str} {m₀ u : Str → Option Value} {ps : List (Str × Value)} {z : Str} (h : stored.contains z = false) (hp : ∀ p ∈ ps, z ≠ p.1) : kstB (fun z => if stored.contains z then u z else m₀ z) ps z = m₀ z := by
  induction ps with
  | nil => show (if stored.contains z = true then u z else m₀ z) = m₀ z; rw [h]; rfl
  | cons p r ih =>
    show (if z = p.1 then some p.2 else _) = _
    rw [if_neg (hp p (.head _))]
    exact ih fun q hq => hp q (.tail _ hq)

theorem skip_if {z k : Str} {a b c : Option Value} (h : z ≠ k) (e : b = c) : (if z = k then a else b) = c := by rw [if_neg h]; exact e
theorem CallOk.use {w : World} {f : Addr} {vs : List Value} {news : Led} {dd uu : Nat} {Post : Value → Led → Prop} (C : CallOk w f vs news dd uu Post) {prog p : Program} {loose : List Str} {mean : ExcName → Option Value} {mg mb : Str → Option Value} {dp un : Nat} {gd : Option (List Code)} {cn : Str} {cs : Scope} {a : Addr} {ccd : Value} {cl : List (Str × Addr)} {outer : List Env} {A₀ : Around} {base h₀ : Heap} {L : Addr} {m : Str → Option Value} {s : Shared}
    {Q E : Value → Shared → Prop} (B : Below A₀ base outer h₀) (F : Fr h₀ L s.heap m) (X : (K w.params).In h₀) (N : News h₀ L s.heap news) (T : Top p loose mean mg mb h₀) (hk : cs.kind = .function) (hd : dp + dd < recursionLimit) (hu : un + uu < cLine)
    (ret : ∀ r news' h' tk', Fr h₀ L h' m → News h₀ L h' news' → Post r news' → Q r { s with heap := h', toks := tk' }) :
    wpAny (model prog w) (ktrTop dp un gd cn cs L a ccd cl outer) (call (.ref f) vs) Q E s := C _ _ _ _ _ _ _ _ _ _ _ _ _ _ _ _ _ _ _ _ _ _ _ B F X N T hk hd hu ret
theorem len_nat {prog : Program} {w : World} {A : Around} {E : Value → Shared → Prop} {s : Shared} {h₀ : Heap} {L : Addr} {news : Led} {a : Addr} {vs : List Value} {n : Nat} {Q : Value → Shared → Prop} (N : News h₀ L s.heap news) (hm : (a, listOf vs.toArray n) ∈ news) (hz : vs.length < 2 ^ 62)
    (h : Q (.int ((vs.length : Nat) : Int) (s.toks + 1)) { s with toks := s.toks + 1 + 1 }) : wpAny (model prog w) A (call (.builtin "len") [.ref a]) Q E s :=
  len_list (PySem.IsL.isList (n := n) (N _ hm).1) (by rw [List.size_toArray]; omega) (by rw [List.size_toArray]; exact h)
/-- the goal behind a letter -/
theorem hide {X : Prop} (h : ∀ G : Prop, (X → G) → G) : X := h X id
theorem genQ {α : Type} {M : Model} {A : Around} {t : Sem α} {Q : α → Shared → Prop} {E : Value → Shared → Prop} {s : Shared} (h : ∀ X, X = Q → wpAny M A t X E s) : wpAny M A t Q E s := h Q rfl
end Mine
end
section
open PySem PySem.W PyProof.Rows PySem.Spec PySem.Calls PyProof.V
set_option maxRecDepth 100000
namespace Mine
section
variable {prog : Program} {w : World} {A : Around} {E : Value → Shared → Prop} {Q : Flow → Shared → Prop} {s : Shared} {env : Env} {h₀ : Heap} {L : Addr}
/-- the loop's rule with its two posts behind letters -/
theorem ksw_whileG {σ : Type} {test : Expr} {body : List Stmt} {pos : Pos} {m₀ : Str → Option Value} (Led : σ → List (Addr × Obj)) (ps : σ → List (Str × Value)) (Facts : σ → Prop) (stored : List Str) (P : σ → Prop) (μ : σ → Nat) (c₀ : σ)
    (F : Fr h₀ L s.heap m₀) (N : News h₀ L s.heap (Led c₀)) (hf : Facts c₀) (hk : ∀ p ∈ ps c₀, m₀ p.1 = some p.2) (hp : P c₀)
    (turn : ∀ (QX : Shared → Prop) (QQ : σ → Flow → Shared → Prop), (∀ s₂, Q .next s₂ → QX s₂) → (∀ c s₂, Q .next s₂ → QQ c .brk s₂) → (∀ c s₂, KswEnd h₀ L s Led ps Facts stored m₀ P μ c s₂ → QQ c .next s₂) → (∀ c s₂, KswEnd h₀ L s Led ps Facts stored m₀ P μ c s₂ → QQ c .cont s₂) →
      ∀ (c : σ) (u : Str → Option Value) h tk, Facts c → P c → Fr h₀ L h (kstB (fun z => if stored.contains z then u z else m₀ z) (ps c)) → News h₀ L h (Led c) →
      wpAny (model prog w) A (isTrue test env (eval test env)) (fun b s₂ =>
        if b = true then wpAny (model prog w) A (execs body env) (QQ c) E s₂ else QX s₂) E { s with heap := h, toks := tk })
    (hE : PassesOwn (model prog w) A env E := by passes_own) :
    wpAny (model prog w) A (exec (.While test body [] pos) env) Q E s :=
  ksw_while Led ps Facts stored P μ c₀ F N hf hk hp (turn (Q .next) (KswPost h₀ L s Led ps Facts stored m₀ P μ Q) (fun _ x => x) (fun _ _ x => x) (fun _ _ x => x) (fun _ _ x => x)) hE
end
end Mine
end
section
open PySem PySem.W PyProof.Rows PySem.Spec PySem.Calls
namespace Mine
/-- the values bear the entries -/
noncomputable def EnsP (P : Value → En → Prop) (vs : List Value) (H : List En) : Prop := vs.length = H.length ∧ ∀ (i : Nat) v x, vs[i]? = some v → H[i]? = some x → P v x
section
variable {P : Value → En → Prop} {vs : List Value} {H : List En} {v : Value} {x : En}
theorem EnsP.get (h : EnsP P vs H) (i : Nat) (hi : i < H.length) : ∃ v, vs[i]? = some v ∧ P v (H[i]'hi) := by
  have hv : i < vs.length := by rw [h.1]; exact hi
  exact ⟨vs[i], List.getElem?_eq_getElem hv, h.2 i _ _ (List.getElem?_eq_getElem hv) (List.getElem?_eq_getElem hi)⟩
theorem EnsP.set (h : EnsP P vs H) (i : Nat) (hx : P v x) : EnsP P (vs.set i v) (H.set i x) := by
  refine ⟨by rw [List.length_set, List.length_set]; exact h.1, fun j w y h1 h2 => ?_⟩
  by_cases e : i = j
  · subst e
    rw [List.getElem?_set_self'] at h1 h2
    cases q1 : vs[i]? with
    | none => rw [q1] at h1; simp at h1
    | some _ =>
      cases q2 : H[i]? with
      | none => rw [q2] at h2; simp at h2
      | some _ => rw [q1] at h1; rw [q2] at h2; simp at h1 h2; subst h1 h2; exact hx
  · rw [List.getElem?_set_ne e] at h1 h2
    exact h.2 j w y h1 h2
theorem EnsP.append (h : EnsP P vs H) (rv : P v x) : EnsP P (vs ++ [v]) (H ++ [x]) := by
  refine ⟨by simp [h.1], fun i w y h1 h2 => ?_⟩
  rcases Nat.lt_trichotomy i vs.length with q | q | q
  · rw [List.getElem?_append_left q] at h1
    rw [List.getElem?_append_left (by rw [← h.1]; exact q)] at h2
    exact h.2 i w y h1 h2
  · subst q
    rw [List.getElem?_concat_length] at h1
    rw [h.1, List.getElem?_concat_length] at h2
    cases h1; cases h2
    exact rv
  · rw [List.getElem?_eq_none (by rw [List.length_append]; simp; omega)] at h1; cases h1
theorem EnsP.split (h : EnsP P vs H) (h0 : 0 < H.length) : ∃ us v G x, vs = us ++ [v] ∧ H = G ++ [x] ∧ EnsP P us G ∧ P v x := by
  have hv : vs ≠ [] := by intro e; rw [e] at h; have := h.1; simp at this; omega
  have hH : H ≠ [] := by intro e; rw [e] at h0; simp at h0
  have e1 := (List.dropLast_concat_getLast hv).symm
  have e2 := (List.dropLast_concat_getLast hH).symm
  refine ⟨vs.dropLast, vs.getLast hv, H.dropLast, H.getLast hH, e1, e2, ⟨by simp [h.1], fun i w y h1 h2 => ?_⟩, ?_⟩
  · refine h.2 i w y ?_ ?_
    · rw [e1, List.getElem?_append_left]; exact h1
      rcases Nat.lt_or_ge i vs.dropLast.length with q | q
      · exact q
      · rw [List.getElem?_eq_none q] at h1; cases h1
    · rw [e2, List.getElem?_append_left]; exact h2
      rcases Nat.lt_or_ge i H.dropLast.length with q | q
      · exact q
      · rw [List.getElem?_eq_none q] at h2; cases h2
  · refine h.2 (vs.length - 1) _ _ ?_ ?_
    · rw [List.getLast_eq_getElem, List.getElem?_eq_getElem]
    · rw [List.getLast_eq_getElem, h.1, List.getElem?_eq_getElem]
theorem EnsP.mono {P' : Value → En → Prop} (h : EnsP P vs H) (s : ∀ v x, P v x → P' v x) : EnsP P' vs H := ⟨h.1, fun i v x h1 h2 => s _ _ (h.2 i v x h1 h2)⟩
end
end Mine
end
section
open PySem PySem.W PyProof.Rows PySem.Spec PySem.Calls
set_option maxRecDepth 100000
namespace Mine
/-- how an iterator is drawn on -/
structure Iter (prog : Program) (w : World) (A : Around) (it : Addr) (n : Nat) (V : Nat → Value → Prop) (I : Nat → Obj → Prop) (Side : Heap → Prop) : Prop where
  item : ∀ i s (Q : Option Value → Shared → Prop) (E : Value → Shared → Prop) o, i < n → s.heap.get? it = some o → I i o → Side s.heap →
    (∀ v h' tk o', V i v → h'.get? it = some o' → I (i + 1) o' → Heap.SameBut it s.heap h' → Q (some v) { s with heap := h', toks := tk }) → wpAny (model prog w) A (pyNext (.ref it)) Q E s
  done : ∀ s (Q : Option Value → Shared → Prop) (E : Value → Shared → Prop) o, s.heap.get? it = some o → I n o → Side s.heap →
    (∀ h', Heap.ExtBut it s.heap h' → Q none { s with heap := h' }) → wpAny (model prog w) A (pyNext (.ref it)) Q E s

noncomputable def FEnd {σ : Type} (h₀ : Heap) (L : Addr) (s : Shared) (Ld : σ → Led) (ps : σ → List (Str × Value)) (stored : List Str) (m₀ : Str → Option Value) (P : σ → Prop) (its : Led) (s₂ : Shared) : Prop :=
  ∃ (c' : σ) (h' : Heap) (tk : Nat) (m' : Str → Option Value) (news' : Led), s₂ = { s with heap := h', toks := tk } ∧ Fr h₀ L h' m' ∧ News h₀ L h' news' ∧ (∀ q ∈ its, q ∈ news') ∧ (∀ p ∈ Ld c', p ∈ news') ∧ (∀ p ∈ Ld c', ∀ q ∈ its, p.1 ≠ q.1) ∧
    (∀ p ∈ ps c', m' p.1 = some p.2) ∧ (∀ z, (∀ p ∈ ps c', z ≠ p.1) → stored.contains z = false → m' z = m₀ z) ∧ P c'
noncomputable def FPost {σ : Type} (h₀ : Heap) (L : Addr) (s : Shared) (Ld : σ → Led) (ps : σ → List (Str × Value)) (stored : List Str) (m₀ : Str → Option Value) (P : σ → Prop) (its : Led) (Q : Flow → Shared → Prop) (f : Flow) (s₂ : Shared) : Prop :=
  match f with
  | .ret v => Q (.ret v) s₂
  | .brk => Q .next s₂
  | _ => FEnd h₀ L s Ld ps stored m₀ P its s₂

noncomputable def FnI {σ : Type} (h₀ : Heap) (L : Addr) (s : Shared) (Ld : σ → Led) (ps : σ → List (Str × Value)) (stored : List Str) (m₀ : Str → Option Value) (P : Nat → σ → Prop) (I : Nat → Obj → Prop) (it : Addr) (n : Nat) (k : Nat) (s' : Shared) : Prop :=
  ∃ (h' : Heap) (tk : Nat) (m' : Str → Option Value) (c : σ) (i : Nat) (o : Obj), s' = { s with heap := h', toks := tk } ∧ Fr h₀ L h' m' ∧ News h₀ L h' ((it, o) :: Ld c) ∧ I i o ∧ (∀ p ∈ Ld c, p.1 ≠ it) ∧
      (∀ p ∈ ps c, m' p.1 = some p.2) ∧ (∀ z, (∀ p ∈ ps c, z ≠ p.1) → stored.contains z = false → m' z = m₀ z) ∧ P i c ∧ i ≤ n ∧ k = n + 1 - i
noncomputable def EnI {σ : Type} (h₀ : Heap) (L : Addr) (s : Shared) (Ld : σ → Led) (ps : σ → List (Str × Value)) (stored : List Str) (m₀ : Str → Option Value) (P : Nat → σ → Prop) (e it l : Addr) (n : Nat) (k : Nat) (s' : Shared) : Prop :=
  ∃ (h' : Heap) (tk : Nat) (m' : Str → Option Value) (c : σ) (i : Nat) (old : Value) (o : Obj), s' = { s with heap := h', toks := tk } ∧ Fr h₀ L h' m' ∧ News h₀ L h' ((e, { cls := .type "enumerate", dict := none, data := .fields #[.none, .bool false, .ref it, rawInt ((i : Nat) : Int), .none, old], slots := #[] }) :: (it, o) :: Ld c) ∧
      (o.cls = .type "list_iterator" ∧ o.data = .fields #[.ref l, .int ((i : Nat) : Int) 0]) ∧ (∀ p ∈ Ld c, p.1 ≠ e ∧ p.1 ≠ it) ∧
      (∀ p ∈ ps c, m' p.1 = some p.2) ∧ (∀ z, (∀ p ∈ ps c, z ≠ p.1) → stored.contains z = false → m' z = m₀ z) ∧ P i c ∧ i ≤ n ∧ k = n + 1 - i
section
variable {prog : Program} {w : World} {A : Around} {E : Value → Shared → Prop} {Q : Flow → Shared → Prop} {s : Shared} {env : Env} {h₀ : Heap}
theorem for_name {σ : Type} {x : Str} {px : Pos} {body : List Stmt} {it : Addr} {n : Nat} {V : Nat → Value → Prop} {I : Nat → Obj → Prop} {Side : Heap → Prop} {m₀ : Str → Option Value}
    (D : Iter prog w A it n V I Side) (Ld : σ → Led) (ps : σ → List (Str × Value)) (stored : List Str) (P : Nat → σ → Prop) (c₀ : σ) (o₀ : Obj)
    (hx : env.kindOf x = some .local) (hpl : (env.scope.kind == .class || (env.scope.kind == .module && env.locals != env.globals)) = false)
    (F : Fr h₀ env.locals s.heap m₀) (N : News h₀ env.locals s.heap ((it, o₀) :: Ld c₀)) (ho : I 0 o₀) (hne : ∀ p ∈ Ld c₀, p.1 ≠ it) (hk : ∀ p ∈ ps c₀, m₀ p.1 = some p.2) (hp0 : P 0 c₀)
    (side : ∀ c h, News h₀ env.locals h (Ld c) → (∀ b o, h₀.get? b = some o → h.get? b = some o) → Side h)
    (turn : ∀ i v c (u : Str → Option Value) h tk o, V i v → i < n → I (i + 1) o → P i c → (∀ p ∈ Ld c, p.1 ≠ it) →
      Fr h₀ env.locals h (fun y => if y = x then some v else kstB (fun z => if stored.contains z then u z else m₀ z) (ps c) y) → News h₀ env.locals h ((it, o) :: Ld c) →
      wpAny (model prog w) A (execs body env) (FPost h₀ env.locals s Ld ps stored m₀ (P (i + 1)) [(it, o)] Q) E { s with heap := h, toks := tk })
    (done : ∀ c (u : Str → Option Value) h tk, P n c → Fr h₀ env.locals h (kstB (fun z => if stored.contains z then u z else m₀ z) (ps c)) → News h₀ env.locals h (Ld c) → Q .next { s with heap := h, toks := tk })
    (hE : PassesOwn (model prog w) A env E := by passes_own) :
    codeAny (model prog w) A (.forLoop (.Name x px) (.ref it) body [] env) (fun r s' => match r with | .ok f => Q f s' | .error e => cameBackBy (model prog w) A env E e s') s := by
  refine codeAny_forLoop_any (FnI h₀ env.locals s Ld ps stored m₀ P I it n) ?_ (n + 1)
    (by unfold FnI; exact ⟨s.heap, s.toks, m₀, c₀, 0, o₀, rfl, F, N, ho, hne, hk, fun _ _ _ => rfl, hp0, Nat.zero_le _, rfl⟩)
  intro k s' hP9
  refine hide ?_
  intro G9 hG9
  obtain ⟨h', tk, m', c, i, o, es, F', N', hI, hne', hk', hr', hP, hi, ek⟩ := hP9
  refine hG9 ?_
  clear hG9 G9
  subst es
  subst ek
  have hio := N' (it, o) (.head _)
  have sd : Side h' := side c h' (fun p hp => N' p (.tail _ hp)) F'.keep
  rcases Nat.lt_or_ge i n with hlt | hge
  · refine D.item i _ _ _ o hlt hio.1 hI sd fun v h₁ tk₁ o₁ hv hg₁ hI₁ hs₁ => ?_
    show wpAny _ A (pure ()) _ _ _
    refine wpAny_pure ?_
    have F₁ := F'.change hs₁ hio.2.1 hio.2.2
    have N₁ : News h₀ env.locals h₁ ((it, o₁) :: Ld c) := news_set (pre := []) N' (fun _ q => nomatch q) hne' hs₁ hg₁
    refine wpAny_assign_Name (wpAny_storeName_local hx F₁.ns (fun h₂ hn₂ hs₂ => ?_) hpl)
    have F₂ := F₁.set hn₂ hs₂
    have N₂ := N₁.set hs₂
    refine wpAny_passesOwn hE (wpAny_mono (turn i v c m' h₂ _ o₁ hv hlt hI₁ hP hne' (kst_fr hk' (fun z _ h1 h2 => hr' z h1 h2) F₂) N₂) (fun f s₃ hf => ?_) fun _ _ q => q)
    have go : FEnd h₀ env.locals s Ld ps stored m₀ (P (i + 1)) [(it, o₁)] s₃ → ∃ m, m < n + 1 - i ∧ FnI h₀ env.locals s Ld ps stored m₀ P I it n m s₃ := by
      rintro ⟨c', h₄, tk₄, m₄, news₄, rfl, F₄, N₄, hit, hL, hne₄, hk₄, hr₄, hP₄⟩
      refine ⟨n + 1 - (i + 1), by omega, ?_⟩
      unfold FnI
      exact ⟨h₄, tk₄, m₄, c', i + 1, o₁, rfl, F₄, (fun p hp => by rcases List.mem_cons.mp hp with rfl | hp; exact N₄ _ (hit _ (.head _)); exact N₄ _ (hL p hp)), hI₁, (fun p hp => hne₄ p hp _ (.head _)), hk₄, hr₄, hP₄, hlt, rfl⟩
    cases f with
    | ret v => exact hf
    | brk => exact hf
    | next => exact go hf
    | cont => exact go hf
  · have e : i = n := Nat.le_antisymm hi hge
    subst e
    refine D.done _ _ _ o hio.1 hI sd fun h₁ hs₁ => wpAny_execs_nil ?_
    have F₁ : Fr h₀ env.locals h₁ m' := by
      refine ⟨F'.ns.extBut hs₁ (Ne.symm hio.2.1), fun b o' hb => hs₁ b o' (fun e => ?_) (F'.keep b o' hb), F'.above⟩
      subst e
      rw [hio.2.2] at hb; cases hb
    exact done c m' h₁ tk hP (ksw_fr hk' hr' F₁) fun p hp => ⟨hs₁ _ _ (hne' p hp) (N' p (.tail _ hp)).1, (N' p (.tail _ hp)).2⟩

/-- the loop's rule with its post behind a letter -/
theorem for_nameG {σ : Type} {x : Str} {px : Pos} {body : List Stmt} {it : Addr} {n : Nat} {V : Nat → Value → Prop} {I : Nat → Obj → Prop} {Side : Heap → Prop} {m₀ : Str → Option Value}
    (D : Iter prog w A it n V I Side) (Ld : σ → Led) (ps : σ → List (Str × Value)) (stored : List Str) (P : Nat → σ → Prop) (c₀ : σ) (o₀ : Obj)
    (hx : env.kindOf x = some .local) (hpl : (env.scope.kind == .class || (env.scope.kind == .module && env.locals != env.globals)) = false)
    (F : Fr h₀ env.locals s.heap m₀) (N : News h₀ env.locals s.heap ((it, o₀) :: Ld c₀)) (ho : I 0 o₀) (hne : ∀ p ∈ Ld c₀, p.1 ≠ it) (hk : ∀ p ∈ ps c₀, m₀ p.1 = some p.2) (hp0 : P 0 c₀)
    (side : ∀ c h, News h₀ env.locals h (Ld c) → (∀ b o, h₀.get? b = some o → h.get? b = some o) → Side h)
    (turn : ∀ (QQ : Nat → Obj → Flow → Shared → Prop), (∀ i o s₂, Q .next s₂ → QQ i o .brk s₂) → (∀ i o s₂, FEnd h₀ env.locals s Ld ps stored m₀ (P (i + 1)) [(it, o)] s₂ → QQ i o .next s₂) → (∀ i o s₂, FEnd h₀ env.locals s Ld ps stored m₀ (P (i + 1)) [(it, o)] s₂ → QQ i o .cont s₂) →
      ∀ i v c (u : Str → Option Value) h tk o, V i v → i < n → I (i + 1) o → P i c → (∀ p ∈ Ld c, p.1 ≠ it) →
      Fr h₀ env.locals h (fun y => if y = x then some v else kstB (fun z => if stored.contains z then u z else m₀ z) (ps c) y) → News h₀ env.locals h ((it, o) :: Ld c) →
      wpAny (model prog w) A (execs body env) (QQ i o) E { s with heap := h, toks := tk })
    (done : ∀ c (u : Str → Option Value) h tk, P n c → Fr h₀ env.locals h (kstB (fun z => if stored.contains z then u z else m₀ z) (ps c)) → News h₀ env.locals h (Ld c) → Q .next { s with heap := h, toks := tk })
    (hE : PassesOwn (model prog w) A env E := by passes_own) :
    codeAny (model prog w) A (.forLoop (.Name x px) (.ref it) body [] env) (fun r s' => match r with | .ok f => Q f s' | .error e => cameBackBy (model prog w) A env E e s') s :=
  for_name D Ld ps stored P c₀ o₀ hx hpl F N ho hne hk hp0 side (turn (fun i o => FPost h₀ env.locals s Ld ps stored m₀ (P (i + 1)) [(it, o)] Q) (fun _ _ _ x => x) (fun _ _ _ x => x) (fun _ _ _ x => x)) done hE

theorem Iter.list (hh : A.handled = none) (it l : Addr) (vs : List Value) :
    Iter prog w A it vs.length (fun i v => vs[i]? = some v) (fun i o => o.cls = .type "list_iterator" ∧ o.data = .fields #[.ref l, .int i 0]) (fun h => h.IsList l vs.toArray) where
  item := fun i s Q E o hi ho hI hS hQ => by
    have hx : vs[i]? = some vs[i] := List.getElem?_eq_getElem hi
    refine wpAny_pyNext_list_item ⟨o, ho, hI.1, hI.2⟩ hS (x := vs[i]) (by rw [List.getElem?_toArray]; exact hx) fun h' hit hs => ?_
    obtain ⟨o', ho', h1, h2⟩ := hit
    exact hQ _ h' s.toks o' hx ho' ⟨h1, h2⟩ hs
  done := fun s Q E o ho hI hS hQ => wpAny_pyNext_list_end hh ⟨o, ho, hI.1, hI.2⟩ hS (by simp) hQ
theorem Iter.range (hh : A.handled = none) (it : Addr) (a : Int) (n : Nat) :
    Iter prog w A it n (fun i v => ∃ t, v = .int (a + i) t) (fun i o => o = { cls := .type "range_iterator", data := .fields #[rawInt (a + i), rawInt ((n : Int) - i), rawInt 1] }) (fun _ => True) where
  item := fun i s Q E o hi ho hI _ hQ => by
    subst hI
    refine wpAny_pyNext_range_item ho (by omega) fun h' hit hs => ?_
    refine hQ _ h' _ _ ⟨s.toks, rfl⟩ hit ?_ hs
    have e1 : a + (i : Int) + 1 = a + ((i + 1 : Nat) : Int) := by omega
    have e2 : (n : Int) - (i : Int) - 1 = (n : Int) - ((i + 1 : Nat) : Int) := by omega
    rw [e1, e2]
  done := fun s Q E o ho hI _ hQ => by
    subst hI
    exact wpAny_pyNext_range_end hh ho (by omega) hQ

theorem for_enum {σ : Type} {xi xv : Str} {pi pv pt : Pos} {x1 : Nat} {body : List Stmt} {e it l : Addr} {vs : List Value} {m₀ : Str → Option Value}
    (Ld : σ → Led) (ps : σ → List (Str × Value)) (stored : List Str) (P : Nat → σ → Prop) (c₀ : σ) (oi : Obj)
    (hh : A.handled = none) (hxi : env.kindOf xi = some .local) (hxv : env.kindOf xv = some .local) (hpl : (env.scope.kind == .class || (env.scope.kind == .module && env.locals != env.globals)) = false)
    (hei : e ≠ it) (hle : l ≠ e) (hli : l ≠ it)
    (F : Fr h₀ env.locals s.heap m₀) (N : News h₀ env.locals s.heap ((e, { cls := .type "enumerate", dict := none, data := .fields #[.none, .bool false, .ref it, rawInt 0, .none, .none], slots := #[] }) :: (it, oi) :: Ld c₀))
    (hoi : oi.cls = .type "list_iterator" ∧ oi.data = .fields #[.ref l, .int 0 0]) (hne : ∀ p ∈ Ld c₀, p.1 ≠ e ∧ p.1 ≠ it) (hk : ∀ p ∈ ps c₀, m₀ p.1 = some p.2) (hp0 : P 0 c₀)
    (side : ∀ c h, News h₀ env.locals h (Ld c) → (∀ b o, h₀.get? b = some o → h.get? b = some o) → h.IsList l vs.toArray)
    (turn : ∀ i v t c (u : Str → Option Value) h tk oe o, vs[i]? = some v → P i c → (∀ p ∈ Ld c, p.1 ≠ e ∧ p.1 ≠ it) →
      Fr h₀ env.locals h (fun y => if y = xv then some v else if y = xi then some (.int ((i : Nat) : Int) t) else kstB (fun z => if stored.contains z then u z else m₀ z) (ps c) y) → News h₀ env.locals h ((e, oe) :: (it, o) :: Ld c) →
      wpAny (model prog w) A (execs body env) (FPost h₀ env.locals s Ld ps stored m₀ (P (i + 1)) [(e, oe), (it, o)] Q) E { s with heap := h, toks := tk })
    (done : ∀ c (u : Str → Option Value) h tk, P vs.length c → Fr h₀ env.locals h (kstB (fun z => if stored.contains z then u z else m₀ z) (ps c)) → News h₀ env.locals h (Ld c) → Q .next { s with heap := h, toks := tk })
    (hE : PassesOwn (model prog w) A env E := by passes_own) :
    codeAny (model prog w) A (.forLoop (.Tuple [.Name xi pi, .Name xv pv] x1 pt) (.ref e) body [] env) (fun r s' => match r with | .ok f => Q f s' | .error e => cameBackBy (model prog w) A env E e s') s := by
  refine codeAny_forLoop_any (EnI h₀ env.locals s Ld ps stored m₀ P e it l vs.length) ?_ (vs.length + 1)
    (by unfold EnI; exact ⟨s.heap, s.toks, m₀, c₀, 0, .none, oi, rfl, F, N, hoi, hne, hk, fun _ _ _ => rfl, hp0, Nat.zero_le _, rfl⟩)
  intro k s' hP9
  refine hide ?_
  intro G9 hG9
  obtain ⟨h', tk, m', c, i, old, o, es, F', N', hI, hne', hk', hr', hP, hi, ek⟩ := hP9
  refine hG9 ?_
  clear hG9 G9
  subst es
  subst ek
  have heo := N' (e, _) (.head _)
  have hio := N' (it, o) (.tail _ (.head _))
  have sd : h'.IsList l vs.toArray := side c h' (fun p hp => N' p (.tail _ (.tail _ hp))) F'.keep
  have hit : h'.IsListIter it l i := ⟨o, hio.1, hI.1, hI.2⟩
  rcases Nat.lt_or_ge i vs.length with hlt | hge
  · have hx : vs[i]? = some vs[i] := List.getElem?_eq_getElem hlt
    refine wpAny_pyNext_enum_item (x := vs[i]) heo.1 hit sd (by rw [List.getElem?_toArray]; exact hx) hei fun h₁ heo₁ hit₁ ht₁ hz₁ hk₁ => ?_
    refine wpAny_letOwnedTupleGo_enum heo₁ fun h₂ he₂ hs₂ => ?_
    replace hs₂ : Heap.SameBut e h₁ h₂ := hs₂
    have heH : e < h'.objs.size := Heap.lt_size heo.1
    have hLH : env.locals < h'.objs.size := F'.ns.lt
    have ht₂ : h₂.IsTuple h'.objs.size #[.int i tk, vs[i]] := ⟨_, (hs₂.2 _ (Nat.ne_of_gt heH)).trans ht₁, rfl, _, rfl⟩
    have hz₂ : h₂.objs.size = h'.objs.size + 1 := hs₂.1.trans hz₁
    refine wpAny_assign_Tuple hh ht₂ rfl rfl fun h₃ hx₃ => ?_
    replace hx₃ : Heap.ExtBut h₂.objs.size h₂ h₃ := hx₃
    have old₂ : ∀ b o, b ≠ e → b ≠ it → h'.get? b = some o → h₃.get? b = some o := fun b o hbe hbi x => by
      have hb := Heap.lt_size x
      exact hx₃ b o (by rw [hz₂]; exact Nat.ne_of_lt (Nat.lt_succ_of_lt hb)) ((hs₂.2 b hbe).trans (hk₁ b o hbe hbi x))
    obtain ⟨o₁, ho₁, h1, h2⟩ := hit₁
    have hi₃ : h₃.get? it = some o₁ := hx₃ it o₁ (by rw [hz₂]; exact Nat.ne_of_lt (Nat.lt_succ_of_lt (Heap.lt_size hio.1))) ((hs₂.2 it (Ne.symm hei)).trans ho₁)
    have he₃ : h₃.get? e = _ := hx₃ e _ (by rw [hz₂]; exact Nat.ne_of_lt (Nat.lt_succ_of_lt heH)) he₂
    have F₃ : Fr h₀ env.locals h₃ m' := by
      obtain ⟨oL, a1, a2, hL, a3⟩ := F'.ns
      refine ⟨⟨oL, a1, a2, old₂ _ _ (Ne.symm heo.2.1) (Ne.symm hio.2.1) hL, a3⟩, fun b o' hb => old₂ b o' (fun q => ?_) (fun q => ?_) (F'.keep b o' hb), F'.above⟩
      · subst q; have := heo.2.2; simp only at this; rw [this] at hb; cases hb
      · subst q; have := hio.2.2; simp only at this; rw [this] at hb; cases hb
    have N₃ : News h₀ env.locals h₃ ((e, { cls := .type "enumerate", dict := none, data := .fields #[.none, .bool false, .ref it, rawInt ((i : Int) + 1), .none, vs[i]], slots := #[] }) :: (it, o₁) :: Ld c) := by
      intro p hp
      rcases List.mem_cons.mp hp with rfl | hp
      · exact ⟨he₃, heo.2⟩
      rcases List.mem_cons.mp hp with rfl | hp
      · exact ⟨hi₃, hio.2⟩
      · have z := N' p (.tail _ (.tail _ hp))
        exact ⟨old₂ _ _ (hne' p hp).1 (hne' p hp).2 z.1, z.2⟩
    show wpAny _ A (do holding [vs[i]] (assign (.Name xi pi) env (.int i tk)); do holding [] (assign (.Name xv pv) env vs[i]); pure ()) _ _ _
    refine wpAny_bind (wpAny_holding (wpAny_assign_Name (wpAny_storeName_local hxi F₃.ns (fun h₄ hn₄ hs₄ => ?_) hpl)))
    have F₄ := F₃.set hn₄ hs₄
    have N₄ := N₃.set hs₄
    refine wpAny_bind (wpAny_holding (wpAny_assign_Name (wpAny_storeName_local hxv F₄.ns (fun h₅ hn₅ hs₅ => wpAny_pure ?_) hpl)))
    have F₅ := F₄.set hn₅ hs₅
    have N₅ := N₄.set hs₅
    have F₆ : Fr h₀ env.locals h₅ (fun y => if y = xv then some vs[i] else if y = xi then some (.int ((i : Nat) : Int) tk) else kstB (fun z => if stored.contains z then m' z else m₀ z) (ps c) y) := by
      have em : kstB (fun z => if stored.contains z then m' z else m₀ z) (ps c) = m' := by
        funext y
        refine kstB_eq hk' fun hn => ?_
        show (if stored.contains y = true then m' y else m₀ y) = m' y
        cases h3 : stored.contains y with
        | true => simp
        | false => simp only [Bool.false_eq_true, if_false]; exact (hr' y hn h3).symm
      rw [em]; exact F₅
    refine wpAny_passesOwn hE (wpAny_mono (turn i vs[i] tk c m' h₅ _ _ o₁ hx hP hne' F₆ N₅) (fun f s₃ hf => ?_) fun _ _ q => q)
    have hc : ((i : Nat) : Int) + 1 = ((i + 1 : Nat) : Int) := by omega
    have go : FEnd h₀ env.locals s Ld ps stored m₀ (P (i + 1)) [(e, { cls := .type "enumerate", dict := none, data := .fields #[.none, .bool false, .ref it, rawInt ((i : Int) + 1), .none, vs[i]], slots := #[] }), (it, o₁)] s₃ → ∃ m, m < vs.length + 1 - i ∧ EnI h₀ env.locals s Ld ps stored m₀ P e it l vs.length m s₃ := by
      rintro ⟨c', h₇, tk₇, m₇, news₇, rfl, F₇, N₇, hits, hL, hne₇, hk₇, hr₇, hP₇⟩
      refine ⟨vs.length + 1 - (i + 1), by omega, ?_⟩
      unfold EnI
      refine ⟨h₇, tk₇, m₇, c', i + 1, vs[i], o₁, rfl, F₇, ?_, ⟨h1, h2⟩, fun p hp => ⟨hne₇ p hp _ (.head _), hne₇ p hp _ (.tail _ (.head _))⟩, hk₇, hr₇, hP₇, hlt, rfl⟩
      intro p hp
      rcases List.mem_cons.mp hp with rfl | hp
      · have := N₇ _ (hits _ (.head _)); rw [hc] at this; exact this
      rcases List.mem_cons.mp hp with rfl | hp
      · exact N₇ _ (hits _ (.tail _ (.head _)))
      · exact N₇ _ (hL p hp)
    cases f with
    | ret v => exact hf
    | brk => exact hf
    | next => exact go hf
    | cont => exact go hf
  · have ee : i = vs.length := Nat.le_antisymm hi hge
    subst ee
    refine wpAny_pyNext_enum_end hh heo.1 hit sd (by simp) fun h₁ hs₁ => wpAny_execs_nil ?_
    have F₁ : Fr h₀ env.locals h₁ m' := by
      refine ⟨F'.ns.extBut hs₁ (Ne.symm hio.2.1), fun b o' hb => hs₁ b o' (fun q => ?_) (F'.keep b o' hb), F'.above⟩
      subst q
      have := hio.2.2; simp only at this; rw [this] at hb; cases hb
    exact done c m' h₁ tk hP (ksw_fr hk' hr' F₁) fun p hp => ⟨hs₁ _ _ (hne' p hp).2 (N' p (.tail _ (.tail _ hp))).1, (N' p (.tail _ (.tail _ hp))).2⟩

theorem enum_call {L l : Addr} {m : Str → Option Value} {news : Led} {vs : List Value} {n : Nat} {Q : Value → Shared → Prop} (F : Fr h₀ L s.heap m) (N : News h₀ L s.heap news) (hm : (l, listOf vs.toArray n) ∈ news)
    (h : ∀ e it oi h', Fr h₀ L h' m → News h₀ L h' ((e, { cls := .type "enumerate", dict := none, data := .fields #[.none, .bool false, .ref it, rawInt 0, .none, .none], slots := #[] }) :: (it, oi) :: news) →
      (oi.cls = .type "list_iterator" ∧ oi.data = .fields #[.ref l, .int 0 0]) → (∀ p ∈ news, p.1 < it) → it < e → Q (.ref e) { s with heap := h' }) :
    wpAny (model prog w) A (call (.type "enumerate") [.ref l]) Q E s := by
  refine call_enumerate_1 (N _ hm).1 fun h' he hit hz hk => ?_
  obtain ⟨oi, ho, h1, h2⟩ := hit
  have hL : L < s.heap.objs.size := F.ns.lt
  have up : ∀ b, s.heap.objs.size ≤ b → h₀.get? b = none := fun b hb => by
    cases q : h₀.get? b with
    | none => rfl
    | some o => exact absurd (Heap.lt_size (F.keep b o q)) (Nat.not_lt.mpr hb)
  refine h _ _ oi h' ?_ ?_ ⟨h1, h2⟩ (fun p hp => Heap.lt_size (N p hp).1) (Nat.lt_succ_self _)
  · obtain ⟨oL, a1, a2, hLo, a3⟩ := F.ns
    exact ⟨⟨oL, a1, a2, hk _ _ hLo, a3⟩, fun b o e => hk b o (F.keep b o e), F.above⟩
  · intro p hp
    rcases List.mem_cons.mp hp with rfl | hp
    · exact ⟨he, Nat.ne_of_gt (Nat.lt_succ_of_lt hL), up _ (Nat.le_succ _)⟩
    rcases List.mem_cons.mp hp with rfl | hp
    · exact ⟨ho, Nat.ne_of_gt hL, up _ (Nat.le_refl _)⟩
    · exact ⟨hk _ _ (N p hp).1, (N p hp).2⟩
end
end Mine
end
section
open PySem PySem.W PyProof.Rows PySem.Spec PySem.Calls
set_option maxRecDepth 100000
namespace Mine
/-- a dict with int keys, as a function, of at most n pairs -/
noncomputable def IMap (n : Nat) (o : Obj) (f : Int → Option Value) : Prop := ∃ kvs : List (Int × Value), (∀ prog w, o.IsDictOf (intKind prog w) kvs) ∧ (∀ x, valueAt kvs x = f x) ∧ kvs.length ≤ n
theorem isDict_any {prog prog' : Program} {w w' : World} {o : Obj} {kvs : List (Int × Value)} (h : o.IsDictOf (intKind prog w) kvs) : o.IsDictOf (intKind prog' w') kvs := by
  obtain ⟨es, ep, h1, h2, h3, h4, h5⟩ := h
  refine ⟨es, ep, h1, h2, h3, ?_, h5⟩
  clear h5 h3 h2 h1
  generalize es.toList = l at h4
  induction h4 with
  | nil => exact .nil
  | cons a b _ ih => exact .cons a b ih
theorem valueAt_stored (kvs : List (Int × Value)) (x : Int) (v : Value) (y : Int) : valueAt (stored kvs x v) y = if y = x then some v else valueAt kvs y := by
  unfold stored
  split
  · rename_i h
    induction kvs with
    | nil => simp at h
    | cons p r ih =>
      simp only [valueAt, List.map_cons, List.find?_cons] at ih ⊢
      by_cases e : p.1 = x
      · rw [if_pos e]
        by_cases e2 : p.1 = y
        · simp [e2, show y = x by rw [← e2, e]]
        · have e3 : y ≠ x := fun q => e2 (by rw [q, e])
          simp only [e2, decide_false, if_neg e3]
          clear ih h
          induction r with
          | nil => rfl
          | cons q r ih =>
            simp only [List.map_cons, List.find?_cons]
            by_cases e4 : q.1 = x
            · rw [if_pos e4]
              have : ¬ q.1 = y := fun z => e3 (by rw [← z, e4])
              simp only [this, decide_false]; exact ih
            · rw [if_neg e4]
              by_cases e5 : q.1 = y
              · simp [e5]
              · simp only [e5, decide_false]; exact ih
      · rw [if_neg e]
        by_cases e2 : p.1 = y
        · have : y ≠ x := fun q => e (by rw [e2, q])
          simp [e2, this]
        · simp only [e2, decide_false]
          refine ih ?_
          simpa [e] using h
  · rename_i h
    have hn : ∀ p ∈ kvs, p.1 ≠ x := by
      intro p hp e
      exact h (List.any_eq_true.mpr ⟨p, hp, by simpa using e⟩)
    clear h
    induction kvs with
    | nil =>
      simp only [valueAt, List.nil_append, List.find?_cons, List.find?_nil]
      by_cases e : x = y
      · simp [e]
      · simp [e, Ne.symm e]
    | cons p r ih =>
      simp only [valueAt, List.cons_append, List.find?_cons] at ih ⊢
      by_cases e2 : p.1 = y
      · have : y ≠ x := fun q => hn p (.head _) (by rw [e2, q])
        simp [e2, this]
      · simp only [e2, decide_false]
        exact ih fun q hq => hn q (.tail _ hq)
theorem News.at_front {h₀ h : Heap} {L a : Addr} {x : Obj} {led : Led} (N : News h₀ L h led) (hm : (a, x) ∈ led) : News h₀ L h ((a, x) :: led.filter (fun p => p.1 != a)) := by
  intro q hq
  rcases List.mem_cons.mp hq with rfl | hq
  · exact N _ hm
  · exact N q (List.mem_filter.mp hq).1
theorem filter_ne {led : Led} {a : Addr} : ∀ q ∈ led.filter (fun p => p.1 != a), q.1 ≠ a := by
  intro q hq
  simpa using (List.mem_filter.mp hq).2
theorem mem_filter_ne {led : Led} {a : Addr} {q : Addr × Obj} (h : q ∈ led) (e : q.1 ≠ a) : q ∈ led.filter (fun p => p.1 != a) := List.mem_filter.mpr ⟨h, by simpa using e⟩
section
variable {prog : Program} {w : World} {A : Around} {E : Value → Shared → Prop} {s : Shared} {h₀ : Heap} {L d : Addr} {m : Str → Option Value} {news R : Led} {o : Obj} {f : Int → Option Value} {x : Int} {t : Tok} {v dflt : Value} {n : Nat}
theorem IMap.empty {prog : Program} {w : World} (h : o.IsDictOf (intKind prog w) []) : IMap 0 o (fun _ => none) := ⟨[], fun _ _ => isDict_any h, fun _ => rfl, Nat.le_refl _⟩
theorem IMap.le {n' : Nat} (h : IMap n o f) (hn : n ≤ n') : IMap n' o f := let ⟨kvs, a, b, c⟩ := h; ⟨kvs, a, b, Nat.le_trans c hn⟩
theorem imap_get2 {Q : Value → Shared → Prop} (N : News h₀ L s.heap news) (hp : (d, o) ∈ news) (hd : IMap n o f) (lo : (d == sysModules) = false) (h : Q ((f x).getD dflt) { s with toks := s.toks + 1 }) :
    wpAny (model prog w) A (call (.builtin "dict.get") [.ref d, .int x t, dflt]) Q E s := by
  obtain ⟨kvs, hk, hf, _⟩ := hd
  exact kdg_get2 (knd := intKind prog w) (k := x) N hp (hk prog w) lo (intKind_is prog w x t) _ rfl (by rw [hf]; exact h)
theorem imap_setdefault {Q : Value → Shared → Prop} (F : Fr h₀ L s.heap m) (N : News h₀ L s.heap ((d, o) :: R)) (hR : ∀ q ∈ R, q.1 ≠ d) (hd : IMap n o f) (lo : (d == sysModules) = false) (hn : n ≤ 1000000)
    (h1 : ∀ v, f x = some v → Q v { s with toks := s.toks + 1 })
    (h2 : f x = none → ∀ h' o', Fr h₀ L h' m → News h₀ L h' ((d, o') :: R) → IMap (n + 1) o' (fun y => if y = x then some dflt else f y) → Q dflt { s with heap := h', toks := s.toks + 1 }) :
    wpAny (model prog w) A (call (.builtin "dict.setdefault") [.ref d, .int x t, dflt]) Q E s := by
  obtain ⟨kvs, hk, hf, hl⟩ := hd
  have hm := N (d, o) (.head _)
  have hD : s.heap.DictOf (intKind prog w) d kvs := Heap.dictOf_iff.mpr ⟨o, hm.1, hk prog w⟩
  refine call_meetsIn PySem.F.slot_dict_setdefault hD.typeIs PySem.F.entry_dict_setdefault (PySem.F.args_dict_setdefault_3 _ _ _) (kt_meets_setdefault (intKind prog w) d (k := x) (intKind_is prog w x t) lo dflt)
    ⟨kvs, hD, (by rw [sizeLine_eq]; omega), (fun v hv => h1 v (by rw [← hf]; exact hv)), fun hn' h' hmm hs => ?_⟩
  obtain ⟨o', ho', hd'⟩ := Heap.dictOf_iff.mp hmm
  refine h2 (by rw [← hf]; exact hn') h' o' (F.change hs hm.2.1 hm.2.2) (news_set (pre := []) N (fun _ q => nomatch q) hR hs ho') ⟨_, fun _ _ => isDict_any hd', fun y => ?_, ?_⟩
  · rw [valueAt_stored, hf]
  · exact Nat.le_trans (stored_length_le _ _ _) (by omega)
theorem imap_set {Q : Unit → Shared → Prop} (F : Fr h₀ L s.heap m) (N : News h₀ L s.heap ((d, o) :: R)) (hR : ∀ q ∈ R, q.1 ≠ d) (hd : IMap n o f) (hn : n ≤ 1000000)
    (h : ∀ h' o', Fr h₀ L h' m → News h₀ L h' ((d, o') :: R) → IMap (n + 1) o' (fun y => if y = x then some v else f y) → Q () { s with heap := h', toks := s.toks + 1 }) :
    wpAny (model prog w) A (setItem (.ref d) (.int x t) v) Q E s := by
  obtain ⟨kvs, hk, hf, hl⟩ := hd
  have hm := N (d, o) (.head _)
  have hD : s.heap.DictOf (intKind prog w) d kvs := Heap.dictOf_iff.mpr ⟨o, hm.1, hk prog w⟩
  refine wpAny_setItem_pairs (knd := intKind prog w) (k := x) (hsz := by rw [sizeLine_eq]; omega) (intKind_is prog w x t) hD fun h' hmm hs => ?_
  obtain ⟨o', ho', hd'⟩ := Heap.dictOf_iff.mp hmm
  refine h h' o' (F.change hs hm.2.1 hm.2.2) (news_set (pre := []) N (fun _ q => nomatch q) hR hs ho') ⟨_, fun _ _ => isDict_any hd', fun y => ?_, ?_⟩
  · rw [valueAt_stored, hf]
  · exact Nat.le_trans (stored_length_le _ _ _) (by omega)
theorem imap_method {pl : Sem Bool} {Q : Value × List Value → Shared → Prop} (N : News h₀ L s.heap news) (hp : (d, o) ∈ news) (hd : IMap n o f) (h : Q (.builtin "dict.get", [.ref d]) s) : wpAny (model prog w) A (getMethod (.ref d) "get" pl) Q E s := by
  obtain ⟨kvs, hk, hf, hl⟩ := hd
  exact kdg_method (knd := intKind prog w) N hp (hk prog w) h
theorem imap_method_sd {pl : Sem Bool} {Q : Value × List Value → Shared → Prop} (N : News h₀ L s.heap news) (hp : (d, o) ∈ news) (hd : IMap n o f) (h : Q (.builtin "dict.setdefault", [.ref d]) s) : wpAny (model prog w) A (getMethod (.ref d) "setdefault" pl) Q E s := by
  obtain ⟨kvs, hk, hf, hl⟩ := hd
  have hD := kda_dict (knd := intKind prog w) N hp (hk prog w)
  exact getMethod_builtin hD.typeIs PySem.F.plainAttrs_dict PySem.F.slot_dict_setdefault PySem.F.type_dict_setdefault hD.mapOf.noDict h
theorem list_method_app {pl : Sem Bool} {Q : Value × List Value → Shared → Prop} {a : Addr} {vs : List Value} {k : Nat} (N : News h₀ L s.heap news) (hp : (a, listOf vs.toArray k) ∈ news) (h : Q (.builtin "list.append", [.ref a]) s) : wpAny (model prog w) A (getMethod (.ref a) "append" pl) Q E s := by
  have hL := PySem.IsL.isList (n := k) (N _ hp).1
  exact getMethod_builtin hL.typeIs PySem.F.plainAttrs_list PySem.F.slot_list_append PySem.F.type_list_append (fun b e => ⟨_, (by cases e; exact (N _ hp).1), rfl⟩) h
theorem News.sub {h : Heap} {news' : Led} (N : News h₀ L h news) (hs : ∀ q ∈ news', q ∈ news) : News h₀ L h news' := fun q hq => N q (hs q hq)
end
end Mine
end
section
open PySem PySem.W PyProof.Rows PySem.Spec PySem.Calls
set_option maxRecDepth 100000
namespace Mine
/-- the places below i at which x stands, in order -/
noncomputable def posUp (ys : List Int) (i : Nat) (x : Int) : List Int := ((List.range i).filter (fun j => ys[j]? == some x)).map (fun (j : Nat) => (j : Int))
theorem posUp_succ (ys : List Int) (i : Nat) (x : Int) : posUp ys (i + 1) x = posUp ys i x ++ (if ys[i]? = some x then [(i : Int)] else []) := by
  unfold posUp
  rw [List.range_succ, List.filter_append, List.map_append]
  by_cases h : ys[i]? = some x
  · simp [h]
  · simp [h]
theorem posUp_length (ys : List Int) (i : Nat) (x : Int) : (posUp ys i x).length ≤ i := by
  unfold posUp
  rw [List.length_map]
  exact Nat.le_trans (List.length_filter_le _ _) (by simp)
noncomputable abbrev cbLd (d : Addr) (base : Led) (c : Obj × Led) : Led := (d, c.1) :: (c.2 ++ base)
/-- what the table of places tells -/
noncomputable def Tab (ys : List Int) (i : Nat) (f : Int → Option Value) (ls : Led) : Prop := ∀ x, (f x = none ∧ posUp ys i x = []) ∨ ∃ l vs n, f x = some (.ref l) ∧ (l, listOf vs.toArray n) ∈ ls ∧ IntsAre vs (posUp ys i x)
noncomputable def cbP (d : Addr) (ys : List Int) (i : Nat) (c : Obj × Led) : Prop := ∃ f, IMap i c.1 f ∧ Tab ys i f c.2 ∧ (∀ x y l, f x = some (.ref l) → f y = some (.ref l) → x = y) ∧ ∀ p ∈ c.2, d < p.1
theorem cb_append {d : Addr} {ys : List Int} {i : Nat} {o : Obj} {ls : Led} {f : Int → Option Value} {y : Int} {l : Addr} {vs : List Value} {n : Nat} {t : Tok} (hm : IMap (i + 1) o f)
    (ho : ∀ x, x ≠ y → (f x = none ∧ posUp ys i x = []) ∨ ∃ l vs n, f x = some (.ref l) ∧ (l, listOf vs.toArray n) ∈ ls ∧ IntsAre vs (posUp ys i x))
    (hy : f y = some (.ref l)) (hv : IntsAre vs (posUp ys i y)) (hi : ∀ x y l, f x = some (.ref l) → f y = some (.ref l) → x = y) (hd : ∀ p ∈ ls, d < p.1) (hl : d < l) (hyi : ys[i]? = some y) :
    cbP d ys (i + 1) (o, (l, listOf (vs ++ [Value.int (i : Int) t]).toArray (n + 1)) :: ls.filter (fun p => p.1 != l)) := by
  refine ⟨f, hm, fun x => ?_, hi, fun p hp => ?_⟩
  · rw [posUp_succ, hyi]
    by_cases e : x = y
    · subst e
      refine .inr ⟨l, _, _, hy, .head _, ?_⟩
      rw [if_pos rfl]
      exact hv.append (IntsAre.cons _ _ .nil)
    · rw [if_neg (fun q => e (by cases q; rfl)), List.append_nil]
      rcases ho x e with h | ⟨l', vs', n', h1, h2, h3⟩
      · exact .inl h
      · refine .inr ⟨l', vs', n', h1, .tail _ (mem_filter_ne h2 fun q => ?_), h3⟩
        have q' : l' = l := q
        subst q'
        exact e (hi x y _ h1 hy)
  · rcases List.mem_cons.mp hp with rfl | hp
    · exact hl
    · exact hd p (List.mem_filter.mp hp).1
section
variable {h₀ : Heap} {L : Addr} {s : Shared} {h' : Heap} {tk : Nat} {m' m₀ : Str → Option Value} {d e it l : Addr} {base led ls : Led} {oe o o1 new : Obj} {ys : List Int} {i : Nat} {stored : List Str}
theorem cb_fend (F : Fr h₀ L h' m') (N : News h₀ L h' led) (hlm : (l, new) ∈ led) (hits : (e, oe) ∈ led ∧ (it, o) ∈ led) (hsub : ∀ q ∈ cbLd d base (o1, ls), q.1 ≠ l → q ∈ led) (hle : l ≠ e) (hli : l ≠ it) (hdl : d < l) (hb : ∀ p ∈ base, p.1 < d)
    (hne : ∀ p ∈ cbLd d base (o1, ls), p.1 ≠ e ∧ p.1 ≠ it) (hP : cbP d ys (i + 1) (o1, (l, new) :: ls.filter (fun p => p.1 != l))) (hm : ∀ z, stored.contains z = false → m' z = m₀ z) :
    FEnd h₀ L s (cbLd d base) (fun _ => []) stored m₀ (cbP d ys (i + 1)) [(e, oe), (it, o)] { s with heap := h', toks := tk } := by
  have hin : ∀ q ∈ cbLd d base (o1, (l, new) :: ls.filter (fun p => p.1 != l)), q = (l, new) ∨ (q ∈ cbLd d base (o1, ls) ∧ q.1 ≠ l) := by
    intro q hq
    rcases List.mem_cons.mp hq with rfl | hq
    · exact .inr ⟨.head _, Nat.ne_of_lt hdl⟩
    rcases List.mem_append.mp hq with hq | hq
    · rcases List.mem_cons.mp hq with rfl | hq
      · exact .inl rfl
      · exact .inr ⟨.tail _ (List.mem_append.mpr (.inl (List.mem_filter.mp hq).1)), filter_ne q hq⟩
    · exact .inr ⟨.tail _ (List.mem_append.mpr (.inr hq)), Nat.ne_of_lt (Nat.lt_trans (hb q hq) hdl)⟩
  refine ⟨_, h', tk, m', _, rfl, F, N, ?_, ?_, ?_, (fun _ hq => nomatch hq), fun z _ hz => hm z hz, hP⟩
  · intro q hq
    simp only [List.mem_cons, List.not_mem_nil, or_false] at hq
    rcases hq with rfl | rfl
    · exact hits.1
    · exact hits.2
  · intro q hq
    rcases hin q hq with rfl | ⟨h1, h2⟩
    · exact hlm
    · exact hsub q h1 h2
  · intro p hp q hq
    have hpp : p.1 ≠ e ∧ p.1 ≠ it := by
      rcases hin p hp with rfl | ⟨h1, h2⟩
      · exact ⟨hle, hli⟩
      · exact hne p h1
    simp only [List.mem_cons, List.not_mem_nil, or_false] at hq
    rcases hq with rfl | rfl
    · exact hpp.1
    · exact hpp.2
end
end Mine
end
section
open PySem PySem.W PyProof.Rows PySem.Spec PySem.Calls
set_option maxRecDepth 100000
namespace Mine
noncomputable def bnd (id : String) (a : Addr) : Obj := { cls := .type "builtin_function_or_method", data := .fields #[.builtin id, .ref a] }
theorem md_slot : Slot "method_descriptor" "__get__" "method_descriptor.__get__" :=
  .of (owner := "method_descriptor") (n := "__get__") (by rw [typeLookup_type, builtinLookup_eq_fast]; kernel_rfl) (by decide +kernel) (by decide +kernel) (by decide +kernel)
    (by first | exact .inl (by decide +kernel) | exact .inr (by decide +kernel)) (by rw [isSubtype_type]; kernel_rfl)
theorem md_entry : entryFor table "method_descriptor.__get__" = some Builtin.«method_descriptor.__get__» := entryFor_of_tree (by kernel_rfl)
theorem md_args (a b c : Value) : argsOk "method_descriptor.__get__" ⟨[a, b, c], []⟩ := by unfold argsOk; kernel_rfl
theorem md_noset : typeLookup (.type "method_descriptor") "__set__" = pure none := by rw [typeLookup_type, builtinLookup_eq_fast]; kernel_rfl
theorem md_nodel : typeLookup (.type "method_descriptor") "__delete__" = pure none := by rw [typeLookup_type, builtinLookup_eq_fast]; kernel_rfl

theorem md_own_dict_get : ".".intercalate ("dict.get".cutAt '.').dropLast = "dict" := by decide +kernel
theorem md_sub_dict_get : isSubtype (.type "dict") (.type (".".intercalate ("dict.get".cutAt '.').dropLast)) = pure true := by rw [md_own_dict_get, isSubtype_type]; kernel_rfl
section
variable {prog : Program} {w : World} {A : Around} {E : Value → Shared → Prop} {a : Addr} {o : Obj}
theorem md_run_dict_get {s : Shared} {P : PySem.Fin → Shared → Prop} (hx : s.heap.get? a = some o) (hc : o.cls = .type "dict") (h : P (.done (.ret (.ref s.heap.objs.size))) { s with heap := s.heap.push (bnd "dict.get" a) }) :
    wpAny (model prog w) A (Builtin.«method_descriptor.__get__» ⟨[.builtin "dict.get", .ref a, .type "dict"], []⟩) P E s := by
  obtain ⟨hp, g, d, tk, os⟩ := s
  have hT : (⟨hp, g, d, tk, os⟩ : Shared).TypeIs (.ref a) "dict" := ⟨_, hx, hc⟩
  have f8 := md_sub_dict_get
  unfold Builtin.«method_descriptor.__get__»
  repeat (any_goals (first | assumption | wp_step))
  all_goals exact h
theorem ga_dict_get {s : Shared} {tk : Tok} {es : Array DictEntry} {k : Nat} {Q : PySem.Fin → Shared → Prop} (hx : s.heap.get? a = some o) (hc : o.cls = .type "dict") (hdat : o.data = .dict es k) (hd : o.dict = none) (h : Q (.done (.ret (.ref s.heap.objs.size))) { s with heap := s.heap.push (bnd "dict.get" a) }) :
    wpAny (model prog w) A (Builtin.«object.__getattribute__» ⟨[.ref a, .str "get" tk], []⟩) Q E s := by
  obtain ⟨c, dct, dat, sl⟩ := o
  simp only at hc hd hdat
  subst hc hd hdat
  obtain ⟨hp, g, d, tk, os⟩ := s
  have hT : (⟨hp, g, d, tk, os⟩ : Shared).TypeIs (.ref a) "dict" := ⟨_, hx, rfl⟩
  have f1 := PySem.F.slot_dict_get.lookup
  have f2 := PySem.F.type_dict_get
  have f3 := md_slot.lookup
  have f4 := md_noset
  have f5 := md_nodel
  unfold Builtin.«object.__getattribute__»
  have hT5 : (⟨hp, g, d, tk, os⟩ : Shared).TypeIs (.builtin "dict.get") "method_descriptor" := PySem.F.type_dict_get
  repeat (any_goals (first | assumption | wp_step))
  refine codeAny_call_builtin md_slot.plain md_entry (md_slot.check _ _ _ _ _ _ _ _ hT5 (md_args _ _ _) (md_run_dict_get hx rfl ?_))
  repeat (any_goals (first | assumption | wp_step))
theorem getAttr_dict_get {s : Shared} {es : Array DictEntry} {k : Nat} {Q : Value → Shared → Prop} (hx : s.heap.get? a = some o) (hc : o.cls = .type "dict") (hdat : o.data = .dict es k) (hd : o.dict = none) (h : Q (.ref s.heap.objs.size) { s with heap := s.heap.push (bnd "dict.get" a), toks := s.toks + 1 }) :
    wpAny (model prog w) A (getAttr (.ref a) "get" true) Q E s := by
  obtain ⟨c, dct, dat, sl⟩ := o
  simp only at hc hd hdat
  subst hc hd hdat
  obtain ⟨hp, g, d, tk, os⟩ := s
  have hT : ∀ tk', (⟨hp, g, d, tk', os⟩ : Shared).TypeIs (.ref a) "dict" := fun _ => ⟨_, hx, rfl⟩
  have f3 := PySem.F.slot_dict_getattribute.lookup
  have f4 := PySem.F.slot_dict_getattribute.bind (.ref a)
  unfold getAttr getAttrBy
  repeat (any_goals (first | assumption | exact hT _ | ((with_reducible show wpAny _ _ (call (Value.builtin "dict.__getattribute__") _ _) _ _ _); refine wpAny_call_entry PySem.F.slot_dict_getattribute (hT _) am_entry_dict_getattribute (ga_dict_get hx rfl rfl rfl ?_) (PySem.F.args_dict_getattribute_2 _ _)) | wp_step))
  exact ⟨_, rfl, wpAny_pure h⟩
end

theorem md_own_set_contains : ".".intercalate ("set.__contains__".cutAt '.').dropLast = "set" := by decide +kernel
theorem md_sub_set_contains : isSubtype (.type "set") (.type (".".intercalate ("set.__contains__".cutAt '.').dropLast)) = pure true := by rw [md_own_set_contains, isSubtype_type]; kernel_rfl
section
variable {prog : Program} {w : World} {A : Around} {E : Value → Shared → Prop} {a : Addr} {o : Obj}
theorem md_run_set_contains {s : Shared} {P : PySem.Fin → Shared → Prop} (hx : s.heap.get? a = some o) (hc : o.cls = .type "set") (h : P (.done (.ret (.ref s.heap.objs.size))) { s with heap := s.heap.push (bnd "set.__contains__" a) }) :
    wpAny (model prog w) A (Builtin.«method_descriptor.__get__» ⟨[.builtin "set.__contains__", .ref a, .type "set"], []⟩) P E s := by
  obtain ⟨hp, g, d, tk, os⟩ := s
  have hT : (⟨hp, g, d, tk, os⟩ : Shared).TypeIs (.ref a) "set" := ⟨_, hx, hc⟩
  have f8 := md_sub_set_contains
  unfold Builtin.«method_descriptor.__get__»
  repeat (any_goals (first | assumption | wp_step))
  all_goals exact h
theorem ga_set_contains {s : Shared} {tk : Tok} {b1 : Bool} {Q : PySem.Fin → Shared → Prop} (hx : s.heap.get? a = some o) (hc : o.cls = .type "set") (hdat : o.data = .set #[] 0 (SetTable.fresh 0 0 b1)) (hd : o.dict = none) (h : Q (.done (.ret (.ref s.heap.objs.size))) { s with heap := s.heap.push (bnd "set.__contains__" a) }) :
    wpAny (model prog w) A (Builtin.«object.__getattribute__» ⟨[.ref a, .str "__contains__" tk], []⟩) Q E s := by
  obtain ⟨c, dct, dat, sl⟩ := o
  simp only at hc hd hdat
  subst hc hd hdat
  obtain ⟨hp, g, d, tk, os⟩ := s
  have hT : (⟨hp, g, d, tk, os⟩ : Shared).TypeIs (.ref a) "set" := ⟨_, hx, rfl⟩
  have f1 := PySem.F.slot_set_contains.lookup
  have f2 := PySem.F.type_set_contains
  have f3 := md_slot.lookup
  have f4 := md_noset
  have f5 := md_nodel
  unfold Builtin.«object.__getattribute__»
  have hT5 : (⟨hp, g, d, tk, os⟩ : Shared).TypeIs (.builtin "set.__contains__") "method_descriptor" := PySem.F.type_set_contains
  repeat (any_goals (first | assumption | wp_step))
  refine codeAny_call_builtin md_slot.plain md_entry (md_slot.check _ _ _ _ _ _ _ _ hT5 (md_args _ _ _) (md_run_set_contains hx rfl ?_))
  repeat (any_goals (first | assumption | wp_step))
theorem getAttr_set_contains {s : Shared} {b1 : Bool} {Q : Value → Shared → Prop} (hx : s.heap.get? a = some o) (hc : o.cls = .type "set") (hdat : o.data = .set #[] 0 (SetTable.fresh 0 0 b1)) (hd : o.dict = none) (h : Q (.ref s.heap.objs.size) { s with heap := s.heap.push (bnd "set.__contains__" a), toks := s.toks + 1 }) :
    wpAny (model prog w) A (getAttr (.ref a) "__contains__" true) Q E s := by
  obtain ⟨c, dct, dat, sl⟩ := o
  simp only at hc hd hdat
  subst hc hd hdat
  obtain ⟨hp, g, d, tk, os⟩ := s
  have hT : ∀ tk', (⟨hp, g, d, tk', os⟩ : Shared).TypeIs (.ref a) "set" := fun _ => ⟨_, hx, rfl⟩
  have f3 := PySem.F.slot_set_getattribute.lookup
  have f4 := PySem.F.slot_set_getattribute.bind (.ref a)
  unfold getAttr getAttrBy
  repeat (any_goals (first | assumption | exact hT _ | ((with_reducible show wpAny _ _ (call (Value.builtin "set.__getattribute__") _ _) _ _ _); refine wpAny_call_entry PySem.F.slot_set_getattribute (hT _) PySem.F.entry_set_ga (ga_set_contains hx rfl rfl rfl ?_) (PySem.F.args_set_getattribute_2 _ _)) | wp_step))
  exact ⟨_, rfl, wpAny_pure h⟩
end
section
variable {prog : Program} {w : World} {A : Around} {E : Value → Shared → Prop} {s : Shared} {a x : Addr}
theorem call_bnd {id : String} {B : Builtin} {rest : List Value} {v : Value} {s' : Shared} {Q : Value → Shared → Prop} (ho : s.heap.get? x = some (bnd id a))
    (chk : ∀ (A' : Around) (Q' : Unit → Shared → Prop) (E' : Value → Shared → Prop), Q' () s → wpAny (model prog w) A' (checkBoundCall id ⟨.ref a :: rest, []⟩) Q' E' s) (hq : ∀ as, (Code.builtin id as).quiet = true) (entry : entryFor table id = some B)
    (tree : ∀ (A' : Around) (P : PySem.Fin → Shared → Prop) (E' : Value → Shared → Prop), P (.done (.ret v)) s' → wpAny (model prog w) A' (B ⟨.ref a :: rest, []⟩) P E' s) (h : Q v s') :
    wpAny (model prog w) A (call (.ref x) rest) Q E s := by
  refine wpAny_call (codeAny_of_tree ?_)
  show wpAny _ A.in1 (callAny (.ref x) ⟨rest, []⟩) _ _ s
  simp only [callAny]
  refine wpAny_bind (wpAny_load ho ?_)
  simp only [bnd, show (Value.type "builtin_function_or_method" == Value.type "method" || Value.type "builtin_function_or_method" == Value.type "builtin_function_or_method" || Value.type "builtin_function_or_method" == Value.type "method-wrapper") = true by decide, if_true]
  refine KFB.if_so (by decide) ?_
  refine wpAny_bind (chk _ _ _ ?_)
  refine wpAny_bind (wpAny_pure (wpAny_pure ?_))
  exact ⟨hq _, codeAny_builtin entry (tree _ _ _ h)⟩
theorem tree_dict_get {f : Int → Option Value} {k : Int} {key dflt : Value} (hkey : (intKind prog w).is k key = true) (hd : (a == sysModules) = false) (hm : s.heap.MapOf (intKind prog w) a f) (A' : Around) (P : PySem.Fin → Shared → Prop) (E' : Value → Shared → Prop) (h : P (.done (.ret ((f k).getD dflt))) { s with toks := s.toks + 1 }) :
    wpAny (model prog w) A' (Builtin.«dict.get» ⟨[.ref a, key, dflt], []⟩) P E' s := by
  show wpAny _ _ (dictGet a key >>= _) _ _ s
  refine wpAny_bind (wpAny_dictGet_of hkey hm ?_)
  cases hf : f k with
  | some v =>
    rw [hf] at h
    exact wpAny_pure h
  | none =>
    rw [hf] at h
    show wpAny _ _ (Builtin.Dict.missed a key >>= _) _ _ _
    exact wpAny_bind (wpAny_missed_other hd (wpAny_pure h))
theorem sub_dict_module : isSubtype (.type "dict") (.type "module") = pure false := by rw [isSubtype_type]; kernel_rfl
theorem isType_dict_not : isSubtype (.type "dict") (.type "type") = pure false := by rw [isSubtype_type]; kernel_rfl
theorem chk_dict_get {o : Obj} {u v : Value} {es : Array DictEntry} {n : Nat} (hx : s.heap.get? a = some o) (hc : o.cls = .type "dict") (hdat : o.data = .dict es n) (A' : Around) (Q' : Unit → Shared → Prop) (E' : Value → Shared → Prop) (h : Q' () s) : wpAny (model prog w) A' (checkBoundCall "dict.get" ⟨[.ref a, u, v], []⟩) Q' E' s := by
  obtain ⟨hp, g, d, tk, os⟩ := s
  obtain ⟨c, dct, dat, sl⟩ := o
  simp only at hc hdat
  subst hc hdat
  have hT : (⟨hp, g, d, tk, os⟩ : Shared).TypeIs (.ref a) "dict" := ⟨_, hx, rfl⟩
  have f1 := sub_dict_module
  have f2 := isType_dict_not
  unfold checkBoundCall
  repeat (any_goals (first | assumption | wp_step))
theorem sub_set_module : isSubtype (.type "set") (.type "module") = pure false := by rw [isSubtype_type]; kernel_rfl
theorem isType_set_not : isSubtype (.type "set") (.type "type") = pure false := by rw [isSubtype_type]; kernel_rfl
theorem chk_set_contains {o : Obj} {u : Value} {b1 : Bool} (hx : s.heap.get? a = some o) (hc : o.cls = .type "set") (hdat : o.data = .set #[] 0 (SetTable.fresh 0 0 b1)) (A' : Around) (Q' : Unit → Shared → Prop) (E' : Value → Shared → Prop) (h : Q' () s) : wpAny (model prog w) A' (checkBoundCall "set.__contains__" ⟨[.ref a, u], []⟩) Q' E' s := by
  obtain ⟨hp, g, d, tk, os⟩ := s
  obtain ⟨c, dct, dat, sl⟩ := o
  simp only at hc hdat
  subst hc hdat
  have hT : (⟨hp, g, d, tk, os⟩ : Shared).TypeIs (.ref a) "set" := ⟨_, hx, rfl⟩
  have f1 := sub_set_module
  have f2 := isType_set_not
  unfold checkBoundCall
  repeat (any_goals (first | assumption | wp_step))
theorem tree_set_contains {S : Int → Bool} {n : Nat} {k : Int} {key : Value} (hkey : (intKind prog w).is k key = true) (hsc : key.scannable = true) (hS : s.heap.SetOf (intKind prog w) a S n) (A' : Around) (P : PySem.Fin → Shared → Prop) (E' : Value → Shared → Prop) (h : P (.done (.ret (.bool (S k)))) { s with toks := s.toks + 1 }) :
    wpAny (model prog w) A' (Builtin.«frozenset.__contains__» ⟨[.ref a, key], []⟩) P E' s := by
  unfold Builtin.«frozenset.__contains__» Builtin.Frozenset.oneOther
  simp only [List.isEmpty_nil, bind_assoc]
  unfold Builtin.Frozenset.addrOf Builtin.Frozenset.withSetAsKey setContains
  refine wpAny_bind (wpAny_pure ?_)
  try dsimp only
  refine wpAny_bind (wpAny_pure ?_)
  try dsimp only
  refine wpAny_bind (wpAny_tryCatch ?_)
  refine wpAny_holding ?_
  refine wpAny_bind ((intKind prog w).pyHash hkey ?_)
  refine wpAny_bind (wpAny_setFind_of (s := { s with toks := s.toks + 1 }) hkey hsc hS fun r hr => ?_)
  refine wpAny_pure ?_
  show wpAny _ _ (ret (Value.bool r.isSome)) _ _ _
  rw [hr]
  exact wpAny_pure h
end
section
variable {prog : Program} {w : World} {A : Around} {E : Value → Shared → Prop} {s : Shared} {h₀ : Heap} {L a x : Addr} {m : Str → Option Value} {news : Led} {o : Obj} {f : Int → Option Value} {n : Nat}
theorem attr_dict_get {Q : Value → Shared → Prop} (F : Fr h₀ L s.heap m) (N : News h₀ L s.heap news) (hp : (a, o) ∈ news) (hd : IMap n o f)
    (h : ∀ x h', Fr h₀ L h' m → News h₀ L h' ((x, bnd "dict.get" a) :: news) → (∀ p ∈ news, p.1 < x) → Q (.ref x) { s with heap := h', toks := s.toks + 1 }) : wpAny (model prog w) A (getAttr (.ref a) "get" true) Q E s := by
  obtain ⟨kvs, hk, hf, hl⟩ := hd
  obtain ⟨es, ep, h1, h2, h3, h4, h5⟩ := hk prog w
  exact getAttr_dict_get (N _ hp).1 h1.1 h2 h1.2.1 (h _ _ (F.push _) (News.push F N _) fun p hp => Heap.lt_size (N p hp).1)
theorem call_dict_get {Q : Value → Shared → Prop} {k : Int} {t : Tok} {dflt : Value} (N : News h₀ L s.heap news) (hx : (x, bnd "dict.get" a) ∈ news) (hp : (a, o) ∈ news) (hd : IMap n o f) (lo : (a == sysModules) = false)
    (h : Q ((f k).getD dflt) { s with toks := s.toks + 1 }) : wpAny (model prog w) A (call (.ref x) [.int k t, dflt]) Q E s := by
  obtain ⟨kvs, hk, hf, hl⟩ := hd
  obtain ⟨es, ep, h1, h2, h3, h4, h5⟩ := id (hk prog w)
  have hD := kda_dict (knd := intKind prog w) N hp (hk prog w)
  refine call_bnd (id := "dict.get") (N _ hx).1 (chk_dict_get (N _ hp).1 h1.1 h2) (fun _ => Code.quiet_builtin _ (by decide +kernel)) PySem.F.entry_dict_get (tree_dict_get (intKind_is prog w k t) lo hD.mapOf) ?_
  rw [hf]
  exact h
theorem callWith_bnd {pos : Pos} {id : String} {first : List Value} {args : List (Bool × Sem Value)} {Q : Value → Shared → Prop} (hplain : args.any (·.1) = false)
    (h : wpAny (model prog w) A (evalArgs (.ref x) true args []) (fun y s₁ => s₁.heap.get? x = some (bnd id a) ∧ wpAny (model prog w) A (call (.ref x) (first ++ y.pos) y.kw) Q E s₁) E s) : wpAny (model prog w) A (callWith pos (.ref x) first args []) Q E s := by
  unfold callWith
  refine wpAny_bind (wpAny_holding (wpAny_mono h (fun y s₁ h₁ => wpAny_bind (wpAny_standAt ?_)) fun _ _ x => x))
  obtain ⟨ho, hcall⟩ := h₁
  simp only [hplain, List.any_nil, Bool.or_false]
  refine wpAny_bind (m := keeperOf (.ref x)) ?_
  unfold keeperOf
  refine wpAny_bind (wpAny_load ho ?_)
  simp only [bnd, show (Value.type "builtin_function_or_method" != Value.type "method") = true by decide, show (Value.type "builtin_function_or_method" == Value.type "builtin_function_or_method" || Value.type "builtin_function_or_method" == Value.type "method-wrapper") = true by decide, if_true]
  refine wpAny_pure ?_
  exact wpAny_bind (wpAny_mono hcall (fun r s₂ hr => wpAny_bind (wpAny_holding (wpAny_point (wpAny_pure hr)))) fun _ _ x => x)
theorem attr_set_contains {Q : Value → Shared → Prop} {b1 : Bool} (F : Fr h₀ L s.heap m) (N : News h₀ L s.heap news) (hp : (a, ({ cls := .type "set", data := .set #[] 0 (SetTable.fresh 0 0 b1) } : Obj)) ∈ news)
    (h : ∀ x h', Fr h₀ L h' m → News h₀ L h' ((x, bnd "set.__contains__" a) :: news) → (∀ p ∈ news, p.1 < x) → Q (.ref x) { s with heap := h', toks := s.toks + 1 }) : wpAny (model prog w) A (getAttr (.ref a) "__contains__" true) Q E s :=
  getAttr_set_contains (N _ hp).1 rfl rfl rfl (h _ _ (F.push _) (News.push F N _) fun p hp => Heap.lt_size (N p hp).1)
theorem call_set_contains {Q : Value → Shared → Prop} {b1 : Bool} {k : Int} {t : Tok} (N : News h₀ L s.heap news) (hx : (x, bnd "set.__contains__" a) ∈ news) (hp : (a, ({ cls := .type "set", data := .set #[] 0 (SetTable.fresh 0 0 b1) } : Obj)) ∈ news)
    (h : Q (.bool false) { s with toks := s.toks + 1 }) : wpAny (model prog w) A (call (.ref x) [.int k t]) Q E s :=
  call_bnd (id := "set.__contains__") (N _ hx).1 (chk_set_contains (N _ hp).1 rfl rfl) (fun _ => Code.quiet_builtin _ (by decide +kernel)) entry_set_contains (tree_set_contains (intKind_is prog w k t) rfl ((setObjOf_fresh (knd := intKind prog w) b1).setOf (N _ hp).1 (by decide))) h
end
end Mine
end
section
open PySem PySem.W PyProof.Rows PySem.Spec PySem.Calls
set_option maxRecDepth 100000
namespace Mine
section
variable {prog : Program} {w : World} {A : Around} {E : Value → Shared → Prop} {s : Shared}
theorem callWith_bd {pos : Pos} {x a : Addr} {id : String} {first : List Value} {env : Env} {e : Expr} {rest : List Expr} {Q : Value → Shared → Prop}
    (h : wpAny (model prog w) A (spliced (backTo pos (starEach (e :: rest) env))) (fun vs s₁ => Held (s₁.heap.get? x = some (bnd id a) ∧ wpAny (model prog w) A (call (.ref x) (first ++ vs)) Q E s₁)) E s)
    (he : starEach (e :: rest) env = (false, eval e env) :: starEach rest env := by rfl) (hplain : (backTo pos (starEach rest env)).any (·.1) = false := by rfl) :
    wpAny (model prog w) A (callWith pos (.ref x) first (backTo pos (starEach (e :: rest) env)) []) Q E s := by
  rw [he] at h ⊢
  refine callWith_bnd (id := id) (a := a) (by show (false || (backTo pos (starEach rest env)).any (·.1)) = false; rw [hplain]; rfl) ?_
  exact evalArgs_plain h
end
end Mine
end
section
open PySem PySem.W PyProof.Rows PySem.Spec PySem.Calls
set_option maxRecDepth 100000
namespace Mine
section
variable {prog : Program} {w : World} {A : Around} {E : Value → Shared → Prop} {s : Shared} {h₀ : Heap} {L r : Addr} {m : Str → Option Value} {news : Led} {a b : Int} {t u v : Tok}
theorem range_iter {Q : Value → Shared → Prop} (F : Fr h₀ L s.heap m) (N : News h₀ L s.heap news) (hr : IsRange s.heap r a b 1 t u v) (n : Nat) (hab : b = a + n) (h1 : -1000000 ≤ a) (h2 : b ≤ 1000000)
    (h : ∀ it h', Fr h₀ L h' m → News h₀ L h' ((it, { cls := .type "range_iterator", data := .fields #[rawInt (a + ((0 : Nat) : Int)), rawInt ((n : Int) - ((0 : Nat) : Int)), rawInt 1] }) :: news) → (∀ p ∈ news, p.1 < it) → Q (.ref it) { s with heap := h' }) :
    wpAny (model prog w) A (pyIter (.ref r)) Q E s := by
  refine wpAny_pyIter_range hr (small_one (by omega) (by omega) (by omega) (by omega)) ?_
  have e : Builtin.Range.rangeSize a b 1 = (n : Int) - ((0 : Nat) : Int) := by
    rw [rangeSize_one]
    split <;> omega
  rw [e]
  have e2 : a = a + ((0 : Nat) : Int) := by omega
  have z := h s.heap.objs.size _ (F.push _) (News.push F N { cls := .type "range_iterator", data := .fields #[rawInt (a + ((0 : Nat) : Int)), rawInt ((n : Int) - ((0 : Nat) : Int)), rawInt 1] }) fun p hp => Heap.lt_size (N p hp).1
  rw [← e2] at z
  exact z
theorem list_iter {l : Addr} {vs : List Value} {k : Nat} {Q : Value → Shared → Prop} (F : Fr h₀ L s.heap m) (N : News h₀ L s.heap news) (hm : (l, listOf vs.toArray k) ∈ news)
    (h : ∀ it oi h', Fr h₀ L h' m → News h₀ L h' ((it, oi) :: news) → (oi.cls = .type "list_iterator" ∧ oi.data = .fields #[.ref l, .int ((0 : Nat) : Int) 0]) → (∀ p ∈ news, p.1 < it) → Q (.ref it) { s with heap := h' }) :
    wpAny (model prog w) A (pyIter (.ref l)) Q E s :=
  wpAny_pyIter_list (PySem.IsL.isList (n := k) (N _ hm).1) (h _ _ _ (F.push _) (News.push F N _) ⟨rfl, rfl⟩ fun p hp => Heap.lt_size (N p hp).1)
end
end Mine
end
section
open PySem PySem.W PyProof.Rows PySem.Spec PySem.Calls
namespace Mine
section
variable {xs ys : List Int} {lo n N i j : Nat} {v : Int}
theorem posUp_pairwise : (posUp ys N v).Pairwise (· < ·) := by
  unfold posUp
  rw [List.pairwise_map]
  refine List.Pairwise.imp ?_ (List.Pairwise.filter _ (List.pairwise_lt_range (n := N)))
  intro a b h; omega
theorem mem_posUp {x : Int} : x ∈ posUp ys N v ↔ ∃ j : Nat, j < N ∧ ys[j]? = some v ∧ x = (j : Int) := by
  unfold posUp
  rw [List.mem_map]
  constructor
  · rintro ⟨j, hj, rfl⟩
    have := List.mem_filter.mp hj
    exact ⟨j, List.mem_range.mp this.1, by simpa using this.2, rfl⟩
  · rintro ⟨j, h1, h2, rfl⟩
    exact ⟨j, List.mem_filter.mpr ⟨List.mem_range.mpr h1, by simpa using h2⟩, rfl⟩
/-- the place that is looked at next -/
noncomputable def jat (ys : List Int) (N : Nat) (v : Int) (i : Nat) : Nat := match (posUp ys N v)[i]? with | some x => x.toNat | none => N
theorem jat_at {x : Int} (h : (posUp ys N v)[i]? = some x) : x = (jat ys N v i : Int) ∧ jat ys N v i < N ∧ ys[jat ys N v i]? = some v := by
  have e : jat ys N v i = x.toNat := by unfold jat; rw [h]
  obtain ⟨j, h1, h2, rfl⟩ := mem_posUp.mp (List.mem_of_getElem? h)
  rw [e]
  exact ⟨by simp, by simpa using h1, by simpa using h2⟩
theorem jat_end (h : (posUp ys N v).length ≤ i) : jat ys N v i = N := by
  unfold jat
  rw [List.getElem?_eq_none h]
theorem jat_first (hj : j < jat ys N v 0) (hN : j < N) : ys[j]? ≠ some v := by
  intro e
  have hm : (j : Int) ∈ posUp ys N v := mem_posUp.mpr ⟨j, hN, e, rfl⟩
  obtain ⟨i', hi', hx⟩ := List.mem_iff_getElem.mp hm
  have h0 : 0 < (posUp ys N v).length := by omega
  have e0 := jat_at (List.getElem?_eq_getElem h0)
  rcases Nat.eq_zero_or_pos i' with rfl | q
  · omega
  · have := List.pairwise_iff_getElem.mp (posUp_pairwise (ys := ys) (N := N) (v := v)) 0 i' h0 hi' q
    omega
theorem jat_gap (hi : i < (posUp ys N v).length) (h1 : jat ys N v i < j) (h2 : j < jat ys N v (i + 1)) (hN : j < N) : ys[j]? ≠ some v := by
  intro e
  have hm : (j : Int) ∈ posUp ys N v := mem_posUp.mpr ⟨j, hN, e, rfl⟩
  obtain ⟨i', hi', hx⟩ := List.mem_iff_getElem.mp hm
  have ei := jat_at (List.getElem?_eq_getElem hi)
  have pw := List.pairwise_iff_getElem.mp (posUp_pairwise (ys := ys) (N := N) (v := v))
  rcases Nat.lt_trichotomy i' i with q | q | q
  · have := pw i' i hi' hi q
    omega
  · subst q
    omega
  · have h3 : i + 1 < (posUp ys N v).length := by omega
    have e3 := jat_at (List.getElem?_eq_getElem h3)
    rcases Nat.lt_or_ge (i + 1) i' with r | r
    · have := pw (i + 1) i' h3 hi' r
      omega
    · obtain rfl : i' = i + 1 := by omega
      omega
theorem jat_le : jat ys N v i ≤ N := by
  rcases Nat.lt_or_ge i (posUp ys N v).length with q | q
  · exact Nat.le_of_lt (jat_at (List.getElem?_eq_getElem q)).2.1
  · rw [jat_end q]; exact Nat.le_refl _
theorem jat_lt (hi : i < (posUp ys N v).length) : jat ys N v i < jat ys N v (i + 1) := by
  have ei := jat_at (List.getElem?_eq_getElem hi)
  rcases Nat.lt_or_ge (i + 1) (posUp ys N v).length with q | q
  · have e2 := jat_at (List.getElem?_eq_getElem q)
    have := List.pairwise_iff_getElem.mp (posUp_pairwise (ys := ys) (N := N) (v := v)) i (i + 1) hi q (by omega)
    omega
  · rw [jat_end q]; exact ei.2.1
/-- the row's word amid the places -/
theorem Row.to_first {bi bj bk : Nat} (h : Row xs ys lo n 0 bi bj bk) (hx : xs[lo + n]? = some v) : Row xs ys lo n (jat ys ys.length v 0) bi bj bk :=
  h.skips (Nat.zero_le _) fun j _ h2 => by
    rw [Ln_off hx (jat_first h2 (Nat.lt_of_lt_of_le h2 jat_le))]; omega
theorem Row.to_next {bi bj bk : Nat} (hi : i < (posUp ys ys.length v).length) (h : Row xs ys lo n (jat ys ys.length v i + 1) bi bj bk) (hx : xs[lo + n]? = some v) : Row xs ys lo n (jat ys ys.length v (i + 1)) bi bj bk :=
  h.skips (jat_lt hi) fun j h1 h2 => by
    rw [Ln_off hx (jat_gap hi h1 h2 (Nat.lt_of_lt_of_le h2 jat_le))]; omega
/-- the new dict amid the places -/
noncomputable def JPart (xs ys : List Int) (lo n i : Nat) (v : Int) (f : Int → Option Value) : Prop := ∀ (j : Int) (t : Tok), ∃ t', (f j).getD (.int 0 t) = .int (if j < (jat ys ys.length v i : Int) then (LnI xs ys lo (n + 1) j : Int) else 0) t'
theorem JPart.start (hx : xs[lo + n]? = some v) : JPart xs ys lo n 0 v (fun _ => none) := by
  intro j t
  refine ⟨t, ?_⟩
  show Value.int 0 t = _
  split
  · rename_i h
    unfold LnI
    split
    · rfl
    · rw [Ln_off hx (jat_first (by omega) (Nat.lt_of_lt_of_le (show j.toNat < jat ys ys.length v 0 by omega) jat_le))]; rfl
  · rfl
theorem JPart.step {f : Int → Option Value} {k : Int} {t : Tok} (hi : i < (posUp ys ys.length v).length) (h : JPart xs ys lo n i v f) (hx : xs[lo + n]? = some v) (hk : k = (Ln xs ys lo (n + 1) (jat ys ys.length v i) : Int)) : JPart xs ys lo n (i + 1) v (fun y => if y = (jat ys ys.length v i : Int) then some (.int k t) else f y) := by
  intro j t2
  have hlt := jat_lt hi
  by_cases e : j = (jat ys ys.length v i : Int)
  · refine ⟨t, ?_⟩
    simp only [if_pos e, Option.getD_some]
    rw [if_pos (by omega), hk]
    unfold LnI
    rw [if_neg (by omega), e]
    simp
  · obtain ⟨t', q⟩ := h j t2
    refine ⟨t', ?_⟩
    simp only [if_neg e]
    rw [q]
    congr 1
    by_cases h1 : j < (jat ys ys.length v i : Int)
    · rw [if_pos h1, if_pos (by omega)]
    · rw [if_neg h1]
      by_cases h2 : j < (jat ys ys.length v (i + 1) : Int)
      · rw [if_pos h2]
        unfold LnI
        rw [if_neg (by omega), Ln_off hx (jat_gap hi (by omega) (by omega) (Nat.lt_of_lt_of_le (show j.toNat < jat ys ys.length v (i + 1) by omega) jat_le))]
        rfl
      · rw [if_neg h2]
theorem JPart.done {f : Int → Option Value} (h : JPart xs ys lo n (posUp ys ys.length v).length v f) : ∀ (j : Int) (t : Tok), ∃ t', (f j).getD (.int 0 t) = .int (LnI xs ys lo (n + 1) j : Int) t' := by
  intro j t
  obtain ⟨t', q⟩ := h j t
  refine ⟨t', ?_⟩
  rw [q, jat_end (Nat.le_refl _)]
  split
  · rfl
  · rename_i h
    have : LnI xs ys lo (n + 1) j = 0 := by
      unfold LnI
      split
      · rfl
      · unfold Ln
        rw [if_neg]
        intro q
        omega
    rw [this]; rfl
end
end Mine
end
section
open PySem PySem.W PyProof.Rows PySem.Spec PySem.Calls
set_option maxRecDepth 100000
namespace Mine
theorem names_ne {ps ps' : List (Str × Value)} {z : Str} (h : ∀ p ∈ ps', z ≠ p.1) (e : ps.map (·.1) = ps'.map (·.1)) : ∀ p ∈ ps, z ≠ p.1 := by
  intro p hp
  have h1 : p.1 ∈ ps.map (·.1) := List.mem_map_of_mem hp
  rw [e] at h1
  obtain ⟨q, hq, hqe⟩ := List.mem_map.mp h1
  rw [← hqe]; exact h q hq
theorem kstB_ne {m : Str → Option Value} {ps : List (Str × Value)} {z : Str} {r : Option Value} (hp : ∀ p ∈ ps, z ≠ p.1) (e : m z = r) : kstB m ps z = r := by
  induction ps with
  | nil => exact e
  | cons p ps ih =>
    show (if z = p.1 then some p.2 else _) = _
    rw [if_neg (hp p (.head _))]
    exact ih fun q hq => hp q (.tail _ hq)
theorem contains_sub {l l' : List Str} {z : Str} (h : l'.contains z = false) (hs : ∀ x ∈ l, x ∈ l') : l.contains z = false := by
  rw [List.contains_eq_any_beq] at h ⊢
  rw [List.any_eq_false] at h ⊢
  exact fun x hx => h x (hs x hx)
theorem skip_stored {l : List Str} {z : Str} {a b c : Option Value} (h : l.contains z = false) (e : b = c) : (if l.contains z = true then a else b) = c := by
  rw [if_neg (by rw [h]; exact Bool.false_ne_true)]; exact e
/-- the state between the rows of find_longest_match -/
structure FlS where
  jd : Addr
  jo : Obj
  bi : Nat
  bj : Nat
  bk : Nat
  ti : Tok
  tj : Tok
  tk : Tok
noncomputable abbrev flLd (B : Led) (c : FlS) : Led := (c.jd, c.jo) :: B
noncomputable abbrev flPs (c : FlS) : List (Str × Value) := [(Str.ofString "besti", .int (c.bi : Int) c.ti), (Str.ofString "bestj", .int (c.bj : Int) c.tj), (Str.ofString "bestsize", .int (c.bk : Int) c.tk), (Str.ofString "j2len", .ref c.jd)]
noncomputable def RowD (xs ys : List Int) (lo : Nat) : Nat → Nat → Nat → Nat → Prop
  | 0, bi, bj, bk => Row xs ys lo 0 0 bi bj bk
  | n + 1, bi, bj, bk => Row xs ys lo n ys.length bi bj bk
theorem RowD.start {xs ys : List Int} {lo n bi bj bk : Nat} (h : RowD xs ys lo n bi bj bk) : Row xs ys lo n 0 bi bj bk := by
  cases n with
  | zero => exact h
  | succ n => exact Row.next h
/-- the dict of lengths reads as Ln -/
noncomputable def JMap (xs ys : List Int) (lo n : Nat) (o : Obj) : Prop := ∃ f, IMap 70 o f ∧ ∀ (j : Int) (t : Tok), ∃ t', (f j).getD (.int 0 t) = .int (LnI xs ys lo n j : Int) t'
noncomputable def flP (xs ys : List Int) (lo : Nat) (B : Led) (n : Nat) (c : FlS) : Prop := RowD xs ys lo n c.bi c.bj c.bk ∧ (c.jd == sysModules) = false ∧ (∀ q ∈ B, q.1 ≠ c.jd) ∧ JMap xs ys lo n c.jo
/-- the places' list, whether the item stands in the table or not -/
theorem tab_list {ys : List Int} {f : Int → Option Value} {R : Led} {ln : Addr} (h : Tab ys ys.length f R) (v : Int) : ∃ l vs n, (f v).getD (.ref ln) = .ref l ∧ (l, listOf vs.toArray n) ∈ ((ln, listOf #[] 0) :: R : Led) ∧ IntsAre vs (posUp ys ys.length v) := by
  rcases h v with ⟨h1, h2⟩ | ⟨l, vs, n, h1, h2, h3⟩
  · exact ⟨ln, [], 0, by rw [h1]; rfl, .head _, by rw [h2]; exact .nil⟩
  · exact ⟨l, vs, n, by rw [h1]; rfl, .tail _ h2, h3⟩
/-- the state amid a row -/
structure FlT where
  no : Obj
  bi : Nat
  bj : Nat
  bk : Nat
  ti : Tok
  tj : Tok
  tk : Tok
noncomputable abbrev ftLd (nd : Addr) (B : Led) (c : FlT) : Led := (nd, c.no) :: B
noncomputable abbrev ftPs (c : FlT) : List (Str × Value) := [(Str.ofString "besti", .int (c.bi : Int) c.ti), (Str.ofString "bestj", .int (c.bj : Int) c.tj), (Str.ofString "bestsize", .int (c.bk : Int) c.tk)]
noncomputable def ftP (xs ys : List Int) (lo n : Nat) (v : Int) (i : Nat) (c : FlT) : Prop := Row xs ys lo n (jat ys ys.length v i) c.bi c.bj c.bk ∧ ∃ f, IMap i c.no f ∧ JPart xs ys lo n i v f
section
variable {h₀ : Heap} {L : Addr} {s : Shared} {h' : Heap} {tk : Nat} {m' m₀ : Str → Option Value} {nd it : Addr} {B led : Led} {oi o' : Obj} {xs ys : List Int} {lo n i : Nat} {v : Int} {stored : List Str} {a b k : Int} {ti tj tz : Tok}
theorem ft_end (F : Fr h₀ L h' m') (N : News h₀ L h' led) (hit : (it, oi) ∈ led) (hnd : (nd, o') ∈ led) (hB : ∀ q ∈ B, q ∈ led) (hne : nd ≠ it) (hneB : ∀ q ∈ B, q.1 ≠ it)
    (m1 : m' (Str.ofString "besti") = some (.int a ti)) (m2 : m' (Str.ofString "bestj") = some (.int b tj)) (m3 : m' (Str.ofString "bestsize") = some (.int k tz)) (a' b' k' : Nat) (ea : a = (a' : Int)) (eb : b = (b' : Int)) (ek : k = (k' : Int))
    (hm : ∀ z, (∀ p ∈ ftPs ⟨o', 0, 0, 0, 0, 0, 0⟩, z ≠ p.1) → stored.contains z = false → m' z = m₀ z) (hP : ∀ ti tj tz, ftP xs ys lo n v (i + 1) ⟨o', a', b', k', ti, tj, tz⟩) :
    FEnd h₀ L s (ftLd nd B) ftPs stored m₀ (ftP xs ys lo n v (i + 1)) [(it, oi)] { s with heap := h', toks := tk } := by
  subst ea eb ek
  refine ⟨⟨o', a', b', k', ti, tj, tz⟩, h', tk, m', led, rfl, F, N, ?_, ?_, ?_, ?_, fun z z1 z2 => hm z ?_ z2, hP _ _ _⟩
  · intro q hq; rcases List.mem_singleton.mp hq with rfl; exact hit
  · intro q hq
    rcases List.mem_cons.mp hq with rfl | hq
    · exact hnd
    · exact hB q hq
  · intro p hp q hq
    rcases List.mem_singleton.mp hq with rfl
    rcases List.mem_cons.mp hp with rfl | hp
    · exact hne
    · exact hneB p hp
  · intro q hq
    rcases List.mem_cons.mp hq with rfl | hq
    · exact m1
    rcases List.mem_cons.mp hq with rfl | hq
    · exact m2
    rcases List.mem_cons.mp hq with rfl | hq
    · exact m3
    cases hq
  · intro p hp
    rcases List.mem_cons.mp hp with rfl | hp
    · have e := z1 _ (.head _); exact e
    rcases List.mem_cons.mp hp with rfl | hp
    · have e := z1 _ (.tail _ (.head _)); exact e
    rcases List.mem_cons.mp hp with rfl | hp
    · have e := z1 _ (.tail _ (.tail _ (.head _))); exact e
    cases hp
theorem fl_end (F : Fr h₀ L h' m') (N : News h₀ L h' led) (hit : (it, oi) ∈ led) (hnd : (nd, o') ∈ led) (hB : ∀ q ∈ B, q ∈ led) (hne : nd ≠ it) (hneB : ∀ q ∈ B, q.1 ≠ it)
    (m1 : m' (Str.ofString "besti") = some (.int a ti)) (m2 : m' (Str.ofString "bestj") = some (.int b tj)) (m3 : m' (Str.ofString "bestsize") = some (.int k tz)) (m4 : m' (Str.ofString "j2len") = some (.ref nd)) (a' b' k' : Nat) (ea : a = (a' : Int)) (eb : b = (b' : Int)) (ek : k = (k' : Int))
    (hm : ∀ z, (∀ p ∈ flPs ⟨nd, o', 0, 0, 0, 0, 0, 0⟩, z ≠ p.1) → stored.contains z = false → m' z = m₀ z) (hP : ∀ ti tj tz, flP xs ys lo B (n + 1) ⟨nd, o', a', b', k', ti, tj, tz⟩) :
    FEnd h₀ L s (flLd B) flPs stored m₀ (flP xs ys lo B (n + 1)) [(it, oi)] { s with heap := h', toks := tk } := by
  subst ea eb ek
  refine ⟨⟨nd, o', a', b', k', ti, tj, tz⟩, h', tk, m', led, rfl, F, N, ?_, ?_, ?_, ?_, fun z z1 z2 => hm z ?_ z2, hP _ _ _⟩
  · intro q hq; rcases List.mem_singleton.mp hq with rfl; exact hit
  · intro q hq
    rcases List.mem_cons.mp hq with rfl | hq
    · exact hnd
    · exact hB q hq
  · intro p hp q hq
    rcases List.mem_singleton.mp hq with rfl
    rcases List.mem_cons.mp hp with rfl | hp
    · exact hne
    · exact hneB p hp
  · intro q hq
    rcases List.mem_cons.mp hq with rfl | hq
    · exact m1
    rcases List.mem_cons.mp hq with rfl | hq
    · exact m2
    rcases List.mem_cons.mp hq with rfl | hq
    · exact m3
    rcases List.mem_cons.mp hq with rfl | hq
    · exact m4
    cases hq
  · intro p hp
    rcases List.mem_cons.mp hp with rfl | hp
    · have e := z1 _ (.head _); exact e
    rcases List.mem_cons.mp hp with rfl | hp
    · have e := z1 _ (.tail _ (.head _)); exact e
    rcases List.mem_cons.mp hp with rfl | hp
    · have e := z1 _ (.tail _ (.tail _ (.head _))); exact e
    rcases List.mem_cons.mp hp with rfl | hp
    · have e := z1 _ (.tail _ (.tail _ (.tail _ (.head _)))); exact e
    cases hp
end
/-- what find_longest_match tells -/
noncomputable def FlR (xs ys : List Int) (lo hi bi bj bk : Nat) : Prop := Blk xs ys lo hi bi bj bk ∧ ∀ p, First xs ys lo (hi - lo) p → bk = hi - lo ∧ bi = lo ∧ bj = p
section
variable {xs ys : List Int} {lo hi bi bj bk : Nat}
theorem FlR.of_rows (h : RowD xs ys lo (hi - lo) bi bj bk) (hlo : lo < hi) : FlR xs ys lo hi bi bj bk := by
  obtain ⟨n, hn⟩ : ∃ n, hi - lo = n + 1 := ⟨hi - lo - 1, by omega⟩
  rw [hn] at h
  refine ⟨?_, fun p hp => ?_⟩
  · have := h.1
    rw [show lo + n + 1 = hi by omega] at this
    exact this
  · rw [hn] at hp ⊢
    exact Row.whole h hp.1 hp.2
theorem FlR.left (h : FlR xs ys lo hi bi bj bk) (h1 : lo < bi) (h2 : 0 < bj) (e : xs[bi - 1]? = ys[bj - 1]?) : FlR xs ys lo hi (bi - 1) (bj - 1) (bk + 1) :=
  ⟨h.1.left h1 h2 e, fun p hp => by have := (h.2 p hp).2.1; omega⟩
theorem FlR.right (h : FlR xs ys lo hi bi bj bk) (h1 : bi + bk < hi) (h2 : bj + bk < ys.length) (e : xs[bi + bk]? = ys[bj + bk]?) : FlR xs ys lo hi bi bj (bk + 1) :=
  ⟨h.1.right h1 h2 e, fun p hp => by have := h.2 p hp; omega⟩
/-- the frame's names behind the rows -/
noncomputable abbrev flNames (lo hi nb : Nat) (tl th tb : Tok) (la lb xc : Addr) : List (Str × Value) := [(Str.ofString "alo", .int (lo : Int) tl), (Str.ofString "ahi", .int (hi : Int) th), (Str.ofString "blo", .int 0 465), (Str.ofString "bhi", .int (nb : Int) tb), (Str.ofString "a", .ref la), (Str.ofString "b", .ref lb), (Str.ofString "isbjunk", .ref xc)]
noncomputable abbrev flThree (c : Nat × Nat × Nat × Tok × Tok × Tok) : List (Str × Value) := [(Str.ofString "besti", .int (c.1 : Int) c.2.2.2.1), (Str.ofString "bestj", .int (c.2.1 : Int) c.2.2.2.2.1), (Str.ofString "bestsize", .int (c.2.2.1 : Int) c.2.2.2.2.2)]
noncomputable def FlMid (xs ys : List Int) (lo hi nb : Nat) (tl th tb : Tok) (la lb xc : Addr) (B : Led) (m' : Str → Option Value) (news' : Led) : Prop :=
  ∃ c : Nat × Nat × Nat × Tok × Tok × Tok, (∀ q ∈ flThree c ++ flNames lo hi nb tl th tb la lb xc, m' q.1 = some q.2) ∧ news' = B ∧ FlR xs ys lo hi c.1 c.2.1 c.2.2.1
theorem fl_mid {nb : Nat} {tl th tb : Tok} {la lb xc : Addr} {B : Led} {m' : Str → Option Value} {a b k : Int} {ti tj tz : Tok}
    (m1 : m' (Str.ofString "besti") = some (.int a ti)) (m2 : m' (Str.ofString "bestj") = some (.int b tj)) (m3 : m' (Str.ofString "bestsize") = some (.int k tz)) (hm : ∀ q ∈ flNames lo hi nb tl th tb la lb xc, m' q.1 = some q.2)
    (bi bj bk : Nat) (ea : a = (bi : Int)) (eb : b = (bj : Int)) (ek : k = (bk : Int)) (hR : FlR xs ys lo hi bi bj bk) : FlMid xs ys lo hi nb tl th tb la lb xc B m' B := by
  subst ea eb ek
  refine ⟨(bi, bj, bk, ti, tj, tz), fun q hq => ?_, rfl, hR⟩
  rcases List.mem_append.mp hq with hq | hq
  · rcases List.mem_cons.mp hq with rfl | hq
    · exact m1
    rcases List.mem_cons.mp hq with rfl | hq
    · exact m2
    rcases List.mem_cons.mp hq with rfl | hq
    · exact m3
    cases hq
  · exact hm q hq
theorem seven {m' : Str → Option Value} {nb : Nat} {tl th tb : Tok} {la lb xc : Addr} (h1 : m' (Str.ofString "alo") = some (.int (lo : Int) tl)) (h2 : m' (Str.ofString "ahi") = some (.int (hi : Int) th)) (h3 : m' (Str.ofString "blo") = some (.int 0 465)) (h4 : m' (Str.ofString "bhi") = some (.int (nb : Int) tb))
    (h5 : m' (Str.ofString "a") = some (.ref la)) (h6 : m' (Str.ofString "b") = some (.ref lb)) (h7 : m' (Str.ofString "isbjunk") = some (.ref xc)) : ∀ q ∈ flNames lo hi nb tl th tb la lb xc, m' q.1 = some q.2 := by
  intro q hq
  rcases List.mem_cons.mp hq with rfl | hq
  · exact h1
  rcases List.mem_cons.mp hq with rfl | hq
  · exact h2
  rcases List.mem_cons.mp hq with rfl | hq
  · exact h3
  rcases List.mem_cons.mp hq with rfl | hq
  · exact h4
  rcases List.mem_cons.mp hq with rfl | hq
  · exact h5
  rcases List.mem_cons.mp hq with rfl | hq
  · exact h6
  rcases List.mem_cons.mp hq with rfl | hq
  · exact h7
  cases hq
end
theorem fr_map {h₀ : Heap} {L : Addr} {h : Heap} {m : Str → Option Value} (F : Fr h₀ L h m) : ∃ m0, m0 = m ∧ Fr h₀ L h m0 := ⟨m, rfl, F⟩
theorem ten {lo hi nb : Nat} {tl th tb : Tok} {la lb xc : Addr} {m : Str → Option Value} {c : Nat × Nat × Nat × Tok × Tok × Tok} (m1 : m (Str.ofString "besti") = some (.int (c.1 : Int) c.2.2.2.1)) (m2 : m (Str.ofString "bestj") = some (.int (c.2.1 : Int) c.2.2.2.2.1)) (m3 : m (Str.ofString "bestsize") = some (.int (c.2.2.1 : Int) c.2.2.2.2.2))
    (h7 : ∀ q ∈ flNames lo hi nb tl th tb la lb xc, m q.1 = some q.2) : ∀ q ∈ flThree c ++ flNames lo hi nb tl th tb la lb xc, m q.1 = some q.2 := by
  intro q hq
  rcases List.mem_append.mp hq with hq | hq
  · rcases List.mem_cons.mp hq with rfl | hq
    · exact m1
    rcases List.mem_cons.mp hq with rfl | hq
    · exact m2
    rcases List.mem_cons.mp hq with rfl | hq
    · exact m3
    cases hq
  · exact h7 q hq
theorem fw_end {h₀ : Heap} {L : Addr} {s : Shared} {h' : Heap} {tk : Nat} {m' m₀ : Str → Option Value} {B led : Led} {stored : List Str} {P : Nat × Nat × Nat × Tok × Tok × Tok → Prop} {μ : Nat × Nat × Nat × Tok × Tok × Tok → Nat} {c : Nat × Nat × Nat × Tok × Tok × Tok} {a b k : Int} {ti tj tz : Tok}
    (F : Fr h₀ L h' m') (N : News h₀ L h' led) (hB : ∀ q ∈ B, q ∈ led) (m1 : m' (Str.ofString "besti") = some (.int a ti)) (m2 : m' (Str.ofString "bestj") = some (.int b tj)) (m3 : m' (Str.ofString "bestsize") = some (.int k tz)) (a' b' k' : Nat) (ea : a = (a' : Int)) (eb : b = (b' : Int)) (ek : k = (k' : Int))
    (hm : ∀ z, (∀ p ∈ flThree (0, 0, 0, 0, 0, 0), z ≠ p.1) → stored.contains z = false → m' z = m₀ z) (hP : ∀ ti tj tz, P (a', b', k', ti, tj, tz)) (hμ : ∀ ti tj tz, μ (a', b', k', ti, tj, tz) < μ c) :
    KswEnd h₀ L s (fun _ => B) flThree (fun _ => True) stored m₀ P μ c { s with heap := h', toks := tk } := by
  subst ea eb ek
  refine ksw_end (a', b', k', ti, tj, tz) F N hB trivial ?_ (fun z z1 z2 => hm z (names_ne z1 rfl) z2) (hP _ _ _) (hμ _ _ _)
  intro q hq
  rcases List.mem_cons.mp hq with rfl | hq
  · exact m1
  rcases List.mem_cons.mp hq with rfl | hq
  · exact m2
  rcases List.mem_cons.mp hq with rfl | hq
  · exact m3
  cases hq
/-- what a call of find_longest_match hands back -/
noncomputable def FlPost (xs ys : List Int) (lo hi : Nat) (base : Led) (r : Value) (news' : Led) : Prop :=
  ∃ (mx : Addr) (mdx : Addr) (i j k : Nat) (ti tj tk : Tok), r = .ref mx ∧ news' = (mx, { cls := .ref 135, dict := some mdx, data := .seq #[.int (i : Int) ti, .int (j : Int) tj, .int (k : Int) tk] }) :: base ∧ (∀ p ∈ base, p.1 < mx) ∧ FlR xs ys lo hi i j k
end Mine
end
section
open PySem PySem.W PyProof.Rows PySem.Spec PySem.Calls Builtin Builtin.ObjectAttr Builtin.Getset_descriptor
set_option maxRecDepth 100000
set_option maxHeartbeats 0
namespace Mine
theorem filledMt : PySem.Challenge.rw_nq0313_01.prog = PySem.Challenge.rw_nq0313_01.prog ∧ K = K := by
  k_fill
  exact ⟨rfl, rfl⟩
theorem mt_obj {P : Params} : (K P).lookup 135 = some (oe135 P) := rfl
section
variable {M : Model} {P : Params} {h : Heap}
theorem mt_mro (X : (K P).In h) : Looks M h (mroOf (.ref 135)) [.ref 135, .type "tuple", .type "object"] := by
  exact ((Looks.ld (part := none) (X _ _ mt_obj)).andThen .now).andThen .now
theorem mt_made (X : (K P).In h) : Looks M h (Bind.madeBy (.ref 135)) none := by
  intro A Q E s k q
  unfold Bind.madeBy
  refine wpAny_bind (mt_mro X A _ E s k ?_)
  rw [List.forIn_cons]
  refine wpAny_bind (wpAny_bind (wpAny_bind (wpAny_bind (wpAny_loadPart (k _ _ (X _ _ mt_obj)) (wpAny_pure ?_)))))
  exact wpAny_pure (wpAny_pure (wpAny_pure q))
theorem tup_made : Looks M h (Bind.madeBy (.type "tuple")) (some "tuple.__new__") := by
  refine Looks.of_pure ?_
  have e : typeLookup (.type "tuple") "__new__" = pure (some (.builtin "tuple.__new__")) := by rw [typeLookup_type, builtinLookup_eq_fast]; kernel_rfl
  have e2 : mroOf (.type "tuple") = pure [.type "tuple", .type "object"] := by kernel_rfl
  unfold Bind.madeBy
  rw [e2]
  simp only [pure_bind, List.forIn_cons, e]
  kernel_rfl
theorem tup_best : Builtin.Slots.bestBase [.type "tuple"] = pure (.type "tuple") := by
  kernel_rfl
theorem mt_base (X : (K P).In h) : Looks M h (Bind.staticBase (.ref 135)) (.type "tuple") := by
  intro A Q E s k q
  obtain ⟨hh, g, d, t, os⟩ := s
  have X' : (K P).In hh := X.keeps k
  have m1 := mt_made (M := M) X'
  have m2 := tup_made (M := M) (h := hh)
  have m3 := mt_mro (M := M) X'
  have ho := X' _ _ mt_obj
  have m4 : Looks M hh (Builtin.Slots.bestBase [.type "tuple"]) (.type "tuple") := Looks.of_pure tup_best
  unfold Bind.staticBase
  repeat lk
  exact q
end
noncomputable def MtBack (P : Params) (Q E : Value → Shared → Prop) (r : Result) (s' : Shared) : Prop := match r with
  | .ok (.ret v) => ∃ x dx arr, v = .ref x ∧ s'.heap.get? x = some { cls := .ref 135, dict := some dx, data := .seq arr } ∧ (K P).In s'.heap ∧ Q (.ref x) s'
  | .ok _ => False
  | .error e => E e s'
section
variable {prog : Program} {w : World} {A : Around} {E : Value → Shared → Prop} {s : Shared}
theorem mt_getnew {expr : Bool} {Q : Value → Shared → Prop} (X : (K w.params).In s.heap) (h : Q (.ref 82) { s with toks := s.toks + 1 }) : wpAny (model prog w) A (getAttr (.ref 135) "__new__" expr) Q E s :=
  cls_bind (mc := .type "type") (g := .builtin "staticmethod.__get__") (a := .ref 136) (obj := .none) (tp := .ref 135) X (by rfl) (by rfl) (wpAny_call (sm_get (s := { s with toks := s.toks + 1 }) (p := 136) (f := .ref 82) X (by rfl) (handed_on rfl h)))
theorem oi_args3 (x a b c : Value) : argsOk "object.__init__" ⟨[x, a, b, c], []⟩ := by unfold argsOk; kernel_rfl
theorem mt_call {a b c : Value} {Q : Value → Shared → Prop} (X : (K w.params).In s.heap)
    (h : codeAny (model prog w) (A.under (.builtin "type.__call__" ⟨[.ref 135, a, b, c], []⟩)) (.call (.ref 82) ⟨[.ref 135, a, b, c], []⟩) (MtBack w.params Q E) { s with toks := s.toks + 1 }) :
    wpAny (model prog w) A (call (.ref 135) [a, b, c]) Q E s := by
  obtain ⟨hh, g, d, t, os⟩ := s
  refine wpAny_call (codeAny_of_tree ?_)
  have hC := X _ _ mt_obj
  have call : Looks (model prog w) hh (specialOf (.ref 135) "__call__") (some (.builtin "type.__call__")) := looks_specialIn X (by k_is)
  have typ : Looks (model prog w) hh (isInstance (.ref 135) (.type "type")) true := looks_instIn X (by k_is)
  have made := mt_made (M := model prog w) X
  have hm := mt_mro (M := model prog w) X
  show wpAny _ _ (callAny (.ref 135) _) _ _ _
  refine nd_load hC ?_
  show wpAny _ _ (callAny.viaDunder (.ref 135) _) _ _ _
  unfold callAny.viaDunder
  refine wpAny_bind (call.at ?_)
  dsimp only
  rw [tc_bind]
  refine wpAny_bind (wpAny_pure (wpAny_bind (wpAny_pure ?_)))
  refine wpAny_pure (a := Fin.again (.call (.builtin "type.__call__") ⟨[.ref 135, a, b, c], []⟩)) (And.intro rfl ?_)
  refine codeAny_call_builtin_at (Code.quiet_builtin _ (by decide +kernel)) entry_typeCall (@check_slot (model prog w) _ _ _ "type.__call__" "type" "__call__" (.ref 135) [a, b, c] [] _ tc_kind tc_split typ (tc_args _ _ _) ?_)
  unfold Builtin.«type.__call__»
  repeat (first | (with_reducible refine mt_getnew X ?_) | with_reducible refine wpAny_call ?_ | lk)
  refine codeAny_mono h fun r s' z => ?_
  rcases r with e | (v | _ | _ | _) <;> first | exact z | exact z.elim | skip
  obtain ⟨x, dx, arr, rfl, hx, X', z⟩ := z
  obtain ⟨hh', g', d', t', os'⟩ := s'
  dsimp only at hx X' z ⊢
  have hC' := X' _ _ mt_obj
  have made' := mt_made (M := model prog w) X'
  have t1 : Looks (model prog w) hh' (typeOf (.ref x)) (.ref 135) := (Looks.ld hx).andThen .now
  have sb : Looks (model prog w) hh' (isSubtype (.ref 135) (.ref 135)) true := looks_mroIn X' (by rfl)
  have so : Looks (model prog w) hh' (isSubtype (.ref 135) (.type "object")) true := looks_mroIn X' (by rfl)
  have ini : Looks (model prog w) hh' (typeLookup (.ref 135) "__init__") (some (.builtin "object.__init__")) := looks_findIn X' (by rfl)
  have t2 : Looks (model prog w) hh' (isInstance (.ref x) (.type "object")) true := t1.andThen so
  have bi : Looks (model prog w) hh' (bindSpecial (.builtin "object.__init__") (.ref x)) (.builtin "object.__init__", [.ref x]) := Looks.of_pure (oi_bind (.ref x))
  unfold isInstance callSpecial? specialOf
  repeat (first | with_reducible refine wpAny_call ?_ | lk)
  show codeAny (model prog w) _ (.call (.builtin "object.__init__") ⟨[.ref x, a, b, c], []⟩) _ _
  refine codeAny_call_builtin oi_plain entry_oi (@check_slot (model prog w) _ _ _ "object.__init__" "object" "__init__" (.ref x) [a, b, c] [] _ oi_kind oi_split t2 (oi_args3 _ _ _ _) ?_)
  unfold Builtin.«object.__init__»
  repeat lk
  exact z
/-- tuple.__new__ upon the class Match -/
theorem mt_new {h₀ : Heap} {L t : Addr} {m : Str → Option Value} {news : Led} {arr : Array Value} {Q : Value → Shared → Prop} (F : Fr h₀ L s.heap m) (X₀ : (K w.params).In h₀) (N : News h₀ L s.heap news) (ht : (t, ({ cls := .type "tuple", data := .seq arr } : Obj)) ∈ news) (hsz : arr.size ≤ 100)
    (h : ∀ x dx h', Fr h₀ L h' m → News h₀ L h' ((x, { cls := .ref 135, dict := some dx, data := .seq arr }) :: (dx, emptyDict) :: news) → (∀ p ∈ news, p.1 < dx) → dx < x → Q (.ref x) { s with heap := h' }) :
    wpAny (model prog w) A (call (.builtin "tuple.__new__") [.ref 135, .ref t]) Q E s := by
  have X := X₀.keeps F.keep
  have hT := (N _ ht).1
  have hC := X _ _ mt_obj
  obtain ⟨hh, g, d, tk, os⟩ := s
  dsimp only at X hT F N h hC
  have made := mt_made (M := model prog w) X
  have base := mt_base (M := model prog w) X
  have tm := tup_made (M := model prog w) (h := hh)
  have typ : Looks (model prog w) hh (isInstance (.ref 135) (.type "type")) true := looks_instIn X (by rfl)
  have st : Looks (model prog w) hh (isSubtype (.ref 135) (.type "tuple")) true := looks_mroIn X (by rfl)
  have ini : Looks (model prog w) hh (typeLookup (.ref 135) "__init__") (some (.builtin "object.__init__")) := looks_findIn X (by rfl)
  have e1 : splitId "tuple.__new__" = some ("tuple", "__new__") := by decide +kernel
  have e2 : builtinKind "tuple.__new__" = some .builtinFn := by decide +kernel
  refine wpAny_call (codeAny_call_builtin_code (Code.quiet_builtin _ (by decide +kernel)) ?_)
  simp only [checkBuiltinCall, e1, e2]
  repeat lk
  refine codeAny_builtin PySem.F.entry_tuple_new ?_
  have here : Looks (model prog w) hh (Bind.madeHere "tuple.__new__" (.ref 135)) () := base.andThen (tm.andThen (Looks.of_pure (by simp only [Option.map_some, bne_self_eq_false, Bool.false_eq_true, if_false])))
  unfold Builtin.«tuple.__new__»
  repeat (first | (with_reducible show wpAny _ _ (collect _) _ _ _; refine hold ?_) | lk)
  refine wpAny_collect_seq (T := "tuple") t (.inr rfl) hT rfl rfl (fun h1 keep => ?_) (by rw [sizeLine_eq]; omega)
  have F1 : Fr h₀ L h1 m := by
    obtain ⟨⟨oL, a1, a2, hLo, a3⟩, k2, k3⟩ := F
    exact ⟨⟨oL, a1, a2, keep _ _ hLo, a3⟩, fun b o e => keep b o (k2 b o e), k3⟩
  have N1 : News h₀ L h1 news := fun p hp => ⟨keep _ _ (N p hp).1, (N p hp).2⟩
  have hC1 := keep _ _ hC
  refine wpAny_bind (wpAny_pure (wpAny_bind (wpAny_alloc (wpAny_bind ?_))))
  unfold newObj
  have hz : ¬ arr.size > sizeLine := by rw [sizeLine_eq]; omega
  simp only [Array.toArray_toList, hz, if_false]
  have Fd : Fr h₀ L (h1.push emptyDict) m := F1.push _
  have Nd := N1.push F1 emptyDict
  have Nx := Nd.push Fd { cls := .ref 135, dict := some h1.objs.size, data := .seq arr }
  rw [Heap.size_push] at Nx
  unfold newObjAsIs classHasDel
  refine wpAny_bind (wpAny_alloc (wpAny_bind (wpAny_bind (wpAny_load (Heap.get?_push_of_some _ (Heap.get?_push_of_some _ hC1)) (wpAny_pure ?_)))))
  refine wpAny_pure (wpAny_pure ?_)
  have z := h (h1.objs.size + 1) h1.objs.size _ (Fd.push _) Nx (fun p hp => Heap.lt_size (N1 p hp).1) (Nat.lt_succ_self _)
  show Q (.ref (h1.push emptyDict).objs.size) _
  rw [Heap.size_push]
  exact z
end
end Mine
end
section
open PySem PySem.W PyProof.Rows PySem.Spec PySem.Calls Builtin Builtin.ObjectAttr Builtin.Getset_descriptor
set_option maxRecDepth 100000
set_option maxHeartbeats 0
namespace Mine
theorem ti_kind : builtinKind "tuple.__iter__" = some .slot := by decide +kernel
theorem ti_split : splitId "tuple.__iter__" = some ("tuple", "__iter__") := by decide +kernel
theorem ti_plain : plainId "tuple.__iter__" = true := by decide +kernel
section
variable {prog : Program} {w : World} {A : Around} {E : Value → Shared → Prop} {s : Shared} {x : Addr} {arr : Array Value} {d : Option Addr}
theorem mt_iter {Q : Value → Shared → Prop} (X : (K w.params).In s.heap) (hx : s.heap.get? x = some { cls := .ref 135, dict := d, data := .seq arr })
    (hQ : Q (.ref s.heap.objs.size) { s with heap := s.heap.push { cls := .type "tuple_iterator", data := .fields #[.ref x, .int 0 0] } }) : wpAny (model prog w) A (pyIter (.ref x)) Q E s := by
  obtain ⟨hh, g, dr, tk, os⟩ := s
  dsimp only at X hx hQ
  have t1 : Looks (model prog w) hh (typeOf (.ref x)) (.ref 135) := (Looks.ld hx).andThen .now
  have lo : Looks (model prog w) hh (typeLookup (.ref 135) "__iter__") (some (.builtin "tuple.__iter__")) := looks_findIn X (by rfl)
  have st : Looks (model prog w) hh (isSubtype (.ref 135) (.type "tuple")) true := looks_mroIn X (by rfl)
  have t2 : Looks (model prog w) hh (isInstance (.ref x) (.type "tuple")) true := t1.andThen st
  have bi : Looks (model prog w) hh (bindSpecial (.builtin "tuple.__iter__") (.ref x)) (.builtin "tuple.__iter__", [.ref x]) := Looks.of_pure (slot_tuple_iter.bind (.ref x))
  have so : Looks (model prog w) hh (specialOf (.ref x) "__iter__") (some (.builtin "tuple.__iter__")) := t1.andThen lo
  have bb : Looks (model prog w) hh (bindSpecialIfBound? (.ref x) "__iter__") (some (.builtin "tuple.__iter__", [.ref x])) := by
    intro A Q E s k q
    obtain ⟨hh', g', dr', tk', os'⟩ := s
    have so' := so.keeps k
    have bi' := bi.keeps k
    unfold bindSpecialIfBound?
    repeat lk
    split
    · repeat lk
      exact q
    · refine wpAny_tryCatch ?_
      repeat lk
      exact q
  unfold pyIter callSpecialIfBoundUnlessNone?
  repeat (first | with_reducible refine wpAny_call ?_ | lk)
  show codeAny (model prog w) _ (.call (.builtin "tuple.__iter__") ⟨[.ref x], []⟩) _ _
  refine codeAny_call_builtin ti_plain entry_tuple_iter (@check_slot (model prog w) _ _ _ "tuple.__iter__" "tuple" "__iter__" (.ref x) [] [] _ ti_kind ti_split t2 (args_tuple_iter _) ?_)
  show wpAny _ _ (do ret (← newFields "tuple_iterator" [.ref x, rawInt 0])) _ _ _
  refine wpAny_bind (wpAny_newObj_type (wpAny_pure ?_))
  show wpAny (model prog w) A (pure (some (Value.ref hh.objs.size))) _ _ _
  refine wpAny_pure ?_
  dsimp only
  refine wpAny_bind (wpAny_specialOf (T := "tuple_iterator") ⟨_, Heap.get?_push_size _ rfl, rfl⟩ slot_tupleiter_next.lookup ?_)
  exact wpAny_pure hQ
/-- the object bears the items, of whatever class -/
noncomputable def Bears (h : Heap) (x : Addr) (arr : Array Value) : Prop := ∃ o n, h.get? x = some o ∧ o.data = .seq arr n
theorem mt_next {it : Addr} {i : Nat} {v : Value} {Q : Option Value → Shared → Prop} (hit : IsTupIter s.heap it x i) (hb : Bears s.heap x arr) (hv : arr[i]? = some v)
    (hQ : ∀ h', IsTupIter h' it x (i + 1) → Heap.SameBut it s.heap h' → Q (some v) { s with heap := h' }) : wpAny (model prog w) A (pyNext (.ref it)) Q E s := by
  have hit0 := hit
  obtain ⟨o, ho, hc, hd⟩ := hit0
  obtain ⟨ox, n, hox, hdx⟩ := hb
  unfold pyNext
  refine wpAny_bind (wpAny_attempt (wpAny_callSpecial?_slot (name := Str.ofString "__next__") hit.typeIs slot_tupleiter_next (wpAny_call_entry slot_tupleiter_next hit.typeIs entry_tupleiter_next ?_ (args_tupleiter_next _))))
  show wpAny _ _ (field (.ref it) 0 >>= _) _ _ s
  refine wpAny_bind (wpAny_field ho hd (x := .ref x) rfl ?_)
  show wpAny _ _ (if (Value.ref x == Value.none) = true then _ else _) _ _ s
  rw [if_neg (show ¬ ((Value.ref x == Value.none) = true) from Bool.false_ne_true)]
  show wpAny _ _ (field (.ref it) 1 >>= _) _ _ s
  refine wpAny_bind (wpAny_field ho hd (x := .int i 0) rfl ?_)
  show wpAny _ _ (seqItems? (.ref x) >>= _) _ _ s
  refine wpAny_bind (wpAny_seqItems hox hdx ?_)
  simp only [Int.toNat_natCast, hv]
  refine wpAny_bind (wpAny_setField ho hd (by simp) (wpAny_pure ⟨v, rfl, wpAny_pure (hQ _ ?_ (Heap.SameBut.update ..))⟩))
  exact ⟨_, Heap.get?_update_self _ ho (Obj.isFreed_of_fields (Obj.data_mapFields hd _)), (Obj.cls_mapFields ..).trans hc, by rw [Obj.data_mapFields hd]; simp [rawInt]⟩
theorem mt_next_end {it : Addr} {i : Nat} {Q : Option Value → Shared → Prop} (hh : A.handled = none) (hit : IsTupIter s.heap it x i) (hb : Bears s.heap x arr) (hv : arr[i]? = none)
    (hQ : ∀ h', Heap.ExtBut it s.heap h' → Q none { s with heap := h' }) : wpAny (model prog w) A (pyNext (.ref it)) Q E s := by
  have hit0 := hit
  obtain ⟨o, ho, hc, hd⟩ := hit0
  obtain ⟨ox, n, hox, hdx⟩ := hb
  unfold pyNext
  refine wpAny_bind (wpAny_attempt (wpAny_callSpecial?_slot (name := Str.ofString "__next__") hit.typeIs slot_tupleiter_next (wpAny_call_entry slot_tupleiter_next hit.typeIs entry_tupleiter_next ?_ (args_tupleiter_next _))))
  show wpAny _ _ (field (.ref it) 0 >>= _) _ _ s
  refine wpAny_bind (wpAny_field ho hd (x := .ref x) rfl ?_)
  show wpAny _ _ (if (Value.ref x == Value.none) = true then _ else _) _ _ s
  rw [if_neg (show ¬ ((Value.ref x == Value.none) = true) from Bool.false_ne_true)]
  show wpAny _ _ (field (.ref it) 1 >>= _) _ _ s
  refine wpAny_bind (wpAny_field ho hd (x := .int i 0) rfl ?_)
  show wpAny _ _ (seqItems? (.ref x) >>= _) _ _ s
  refine wpAny_bind (wpAny_seqItems hox hdx ?_)
  simp only [Int.toNat_natCast, hv]
  refine wpAny_bind (wpAny_rule (wpAny_bind (wpAny_setField ho hd (by simp) ?_)))
  show wpAny _ _ (newExc (.type "StopIteration") [] >>= _) _ _ _
  refine wpAny_bind ?_
  simp only [newExc, newTuple]
  refine wpAny_bind (wpAny_newObj_type ?_ (by size_fits))
  refine wpAny_bind (m := firstArgMember _ _) (wpAny_of_eq (a := Value.none) (by first | rfl | (simp only [firstArgMember]; rfl)) ?_)
  refine wpAny_newObj_type ?_ (by size_fits)
  simp only [raiseNew]
  refine wpAny_bind (wpAny_handled ?_)
  first | rw [show A.in1.handled = none from hh] | rw [hh]
  refine wpAny_bind (wpAny_pure (wpAny_throw ?_))
  refine wpAny_bind (wpAny_isInstance (T := "StopIteration") (b := true) ⟨_, Heap.get?_push_size _ rfl, rfl⟩ isSubtype_stop ?_)
  exact wpAny_pure (hQ _ (((Heap.SameBut.update ..).extBut.push _).push _))
theorem Bears.ext {h h' : Heap} {it : Addr} (b : Bears h x arr) (e : Heap.ExtBut it h h') (hne : x ≠ it) : Bears h' x arr := by
  obtain ⟨o, n, h1, h2⟩ := b
  exact ⟨o, n, e _ _ hne h1, h2⟩
theorem mt_draw {it : Addr} (hne : x ≠ it) : ∀ (n i : Nat) (s : Shared) (Q : List Value → Shared → Prop), IsTupIter s.heap it x i → Bears s.heap x arr → i + n ≤ arr.size →
    (∀ h', IsTupIter h' it x (i + n) → Heap.SameBut it s.heap h' → Q ((arr.toList.drop i).take n) { s with heap := h' }) → wpAny (model prog w) A (draw (.ref it) n) Q E s
  | 0, i, s, Q, hit, _, _, hQ => by
    show wpAny _ _ (pure []) Q E s
    exact wpAny_pure (by simpa using hQ s.heap hit (Heap.SameBut.refl ..))
  | n + 1, i, s, Q, hit, hb, hle, hQ => by
    have hlt : i < arr.size := by omega
    show wpAny _ _ (pyNext (.ref it) >>= _) Q E s
    refine wpAny_bind (mt_next hit hb (v := arr[i]) (by simp [hlt]) fun h₁ hit₁ hs₁ => ?_)
    refine wpAny_bind (wpAny_holding (mt_draw hne n (i + 1) _ _ hit₁ (hb.ext hs₁.extBut hne) (by omega) fun h₂ hit₂ hs₂ => wpAny_pure ?_))
    have hd : arr.toList.drop i = arr[i] :: arr.toList.drop (i + 1) := by simp [List.drop_eq_getElem_cons, hlt]
    have := hQ h₂ (by rw [show i + (n + 1) = i + 1 + n by omega]; exact hit₂) (hs₁.trans hs₂)
    rw [hd, List.take_succ_cons] at this
    exact this
theorem mt_unpack {h₀ : Heap} {L : Addr} {m : Str → Option Value} {news : Led} {env : Env} {elts : List PySem.Expr} {k : Nat} {pos : Pos} {vs : List Value} {dd : Addr} {Q : Unit → Shared → Prop} (F : Fr h₀ L s.heap m) (X₀ : (K w.params).In h₀) (N : News h₀ L s.heap news) (hm : (x, ({ cls := .ref 135, dict := some dd, data := .seq vs.toArray } : Obj)) ∈ news)
    (hh : A.handled = none) (hn : (assignEach elts env).length = vs.length) (hstar : (assignEach elts env).findIdx? (·.1) = none)
    (h : ∀ h', Fr h₀ L h' m → News h₀ L h' news → wpAny (model prog w) A (assignInOrder ((assignEach elts env).map (·.2)) vs) Q E { s with heap := h' }) : wpAny (model prog w) A (assign (.Tuple elts k pos) env (.ref x)) Q E s := by
  have X := X₀.keeps F.keep
  have hx := (N _ hm).1
  have hne : x ≠ s.heap.objs.size := Nat.ne_of_lt (Heap.lt_size hx)
  rw [assign_Tuple]
  refine wpAny_bind (wpAny_standAt ?_)
  unfold unpack
  rw [hn, hstar]
  refine wpAny_bind (wpAny_holding ?_)
  unfold unpackItems
  have t1 : Looks (model prog w) s.heap (typeOf (.ref x)) (.ref 135) := (Looks.ld hx).andThen .now
  have so : Looks (model prog w) s.heap (specialOf (.ref x) "__iter__") (some (.builtin "tuple.__iter__")) := t1.andThen (looks_findIn X (by rfl))
  refine wpAny_bind ?_
  unfold notIterableAtAll
  refine wpAny_bind (so.here ?_)
  simp only [Option.isSome_some, if_true]
  refine wpAny_pure ?_
  simp only [Bool.false_eq_true, if_false]
  refine wpAny_bind (wpAny_holding (mt_iter X hx ?_))
  have hb : Bears (s.heap.push { cls := .type "tuple_iterator", data := .fields #[.ref x, .int 0 0] }) x vs.toArray := ⟨_, _, Heap.get?_push_of_some _ hx, rfl⟩
  refine wpAny_bind (wpAny_holding (mt_draw (arr := vs.toArray) hne vs.length 0 _ _ ⟨_, Heap.get?_push_size _ rfl, rfl, rfl⟩ hb (by simp) fun h₁ hit₁ hs₁ => ?_))
  have hall : List.take vs.length (List.drop 0 vs.toArray.toList) = vs := by simp
  rw [hall, if_neg (Nat.lt_irrefl _)]
  refine wpAny_bind (wpAny_holding (mt_next_end hh hit₁ (hb.ext hs₁.extBut hne) (by simp) fun h₂ he₂ => ?_))
  simp only [Option.isSome_none, Bool.false_eq_true, if_false]
  refine wpAny_pure ?_
  have e : Heap.ExtBut s.heap.objs.size s.heap h₂ := fun b o hb e => he₂ b o hb (hs₁.extBut b o hb (Heap.get?_push_of_some _ e))
  exact h h₂ (F.extBut e (Nat.le_refl _)) (N.extBut e (Nat.le_refl _))
end
end Mine
end
section
open PySem PySem.W PyProof.Rows PySem.Spec PySem.Calls
set_option maxRecDepth 100000
namespace Mine
noncomputable def wayD (x : Way) : PyData := .tuple [.int x.1, trisD x.2]
theorem eqv_way (x y : Way) : PyData.eqv (wayD x) (wayD y) = decide (x = y) := by
  obtain ⟨a, b⟩ := x; obtain ⟨d, e⟩ := y
  simp only [wayD, PyData.eqv, PyData.eqvAll, eqv_int, eqv_tris]
  by_cases h1 : a = d <;> by_cases h2 : b = e <;> simp [h1, h2]
theorem dLt_way (x y : Way) : dLt (wayD x) (wayD y) = wLt x y := by
  obtain ⟨a, b⟩ := x; obtain ⟨d, e⟩ := y
  have e1 : dLt (trisD b) (trisD e) = lexL triLt b e := by simp only [trisD, dLt]; exact dLtAll_tris b e
  simp only [wayD, dLt, dLtAll, eqv_int, eqv_tris, e1, wLt, lex2, iLt, decide_eq_true_eq]
  by_cases h1 : a = d <;> by_cases h2 : b = e <;> simp [h1, h2]
  exact (lexL_sto triLt_sto).irr _
theorem lay_way (x : Way) : (wayD x).canLay0 = true ∧ (wayD x).depth ≤ 5 := by
  have := lay_tris x.2
  simp only [wayD, trisD, PyData.canLay0, PyData.canLayAll0, PyData.depth, PyData.depthAll, this.1, Bool.and_self, true_and]
  have := this.2
  omega
theorem cmp_way (x y : Way) : cmpOk (wayD x) (wayD y) = true := by
  simp [wayD, trisD, cmpOk, cmpOkAll, cmp_tris]
noncomputable def Here (G : Led) (h : Heap) : Prop := ∀ p ∈ G, h.get? p.1 = some p.2
noncomputable def WaysAre (G : Led) (vs : List Value) (ws : List Way) : Prop := vs.length = ws.length ∧ ∀ (i : Nat) v x, vs[i]? = some v → ws[i]? = some x → Rd G v (wayD x)
section
variable {prog : Program} {w : World} {A : Around} {E : Value → Shared → Prop} {s : Shared}
theorem lt_way {G : Led} {va vb : Value} {x y : Way} {Q : Value → Shared → Prop} (hG : Here G s.heap) (ra : Rd G va (wayD x)) (rb : Rd G vb (wayD y)) (hu : A.units + 8 < cLine) (h : Q (.bool (wLt x y)) s) : wpAny (model prog w) A (richCompare .Lt va vb) Q E s := by
  obtain ⟨as, qa⟩ := ra s.heap hG
  obtain ⟨bs, qb⟩ := rb s.heap hG
  have l1 := lay_way x
  have l2 := lay_way y
  show wpAny _ _ (compareOp .Lt va vb) _ _ _
  refine compareLt_reads qa qb l1.1 l2.1 (cmp_way x y) (by omega) ?_
  rw [dLt_way]
  exact h
noncomputable def BestIn (vs : List Value) (ws : List Way) (j : Nat) (v : Value) : Prop := ∃ (b : Nat) (x : Way), vs[b]? = some v ∧ ws[b]? = some x ∧ ∀ (c : Nat) (y : Way), c < j → ws[c]? = some y → wLt y x = false
theorem min_loop {R : Result → Shared → Prop} {G : Led} {vs : List Value} {ws : List Way} {I S l : Addr} (hh : A.in1.handled = none) (hW : WaysAre G vs ws) (hu : A.in1.units + 8 < cLine) (hIS : I ≠ S) (hlI : l ≠ I) (hlS : l ≠ S) (hGI : ∀ p ∈ G, p.1 ≠ I) (hGS : ∀ p ∈ G, p.1 ≠ S) :
    ∀ (k j : Nat) (s : Shared) (vb : Value) (c : Nat), vs.length - j = k → j ≤ vs.length → s.heap.IsListIter I l j → s.heap.IsList l vs.toArray → Here G s.heap → BestIn vs ws j vb →
    s.heap.get? S = some { cls := .type "list", dict := none, data := .seq #[vb, vb] c, slots := #[] } →
    (∀ v h' tk, BestIn vs ws vs.length v → (∀ b o, b ≠ I → b ≠ S → s.heap.get? b = some o → h'.get? b = some o) → R (.ok (.ret v)) { s with heap := h', toks := tk }) →
    codeAny (model prog w) A (.builtin "min.loop" ⟨[.ref I, .none, .ref S], []⟩) R s := by
  have hname : (toString "min" ++ toString ".loop" : String) = "min.loop" := by decide
  intro k
  induction k with
  | zero =>
    intro j s vb c hk hj hit hl hG hb hS hR
    obtain rfl : j = vs.length := by omega
    refine codeAny_builtin PySem.F.entry_min_loop ?_
    rw [Around.under_plainId PySem.F.plain_min_loop _]
    show wpAny _ A.in1 (seqItems? (.ref S) >>= _) _ _ s
    refine wpAny_bind (wpAny_seqItems hS rfl ?_)
    show wpAny _ A.in1 (tryCatch (pyNext (.ref I)) _ >>= _) _ _ s
    refine wpAny_bind (wpAny_tryCatch (wpAny_pyNext_list_end hh hit hl (by simp) fun h' hk' => ?_))
    have hS' := hk' S _ (Ne.symm hIS) hS
    show wpAny _ A.in1 (updateSeq S (fun _ => #[]) >>= _) _ _ _
    refine wpAny_bind ?_
    refine wpAny_updateSeq hS' rfl (wpAny_bind (wpAny_letGo (wpAny_pure ?_)))
    exact hR vb _ s.toks hb fun b o hbI hbS e => (Heap.get?_update_other _ _ (Ne.symm hbS)).trans (hk' b o hbI e)
  | succ k ih =>
    intro j s vb c hk hj hit hl hG hb hS hR
    have hlt : j < vs.length := by omega
    refine codeAny_builtin PySem.F.entry_min_loop ?_
    rw [Around.under_plainId PySem.F.plain_min_loop _]
    show wpAny _ A.in1 (seqItems? (.ref S) >>= _) _ _ s
    refine wpAny_bind (wpAny_seqItems hS rfl ?_)
    show wpAny _ A.in1 (tryCatch (pyNext (.ref I)) _ >>= _) _ _ s
    have hvj : vs[j]? = some vs[j] := List.getElem?_eq_getElem hlt
    refine wpAny_bind (wpAny_tryCatch (wpAny_pyNext_list_item hit hl (x := vs[j]) (by rw [List.getElem?_toArray]; exact hvj) fun h' hit' hs' => ?_))
    have hk' : ∀ b o, b ≠ I → s.heap.get? b = some o → h'.get? b = some o := fun b o hb e => (hs'.2 b hb).trans e
    have hS' := hk' S _ (Ne.symm hIS) hS
    have hG' : Here G h' := fun p hp => hk' _ _ (hGI p hp) (hG p hp)
    have hl' : h'.IsList l vs.toArray := by
      obtain ⟨o, ho, r⟩ := hl
      exact ⟨o, hk' _ _ hlI ho, r⟩
    have hjw : j < ws.length := by rw [← hW.1]; exact hlt
    have hwj : ws[j]? = some ws[j] := List.getElem?_eq_getElem hjw
    obtain ⟨b0, x0, q1, q2, q3⟩ := hb
    show wpAny _ A.in1 (tryCatch (holding [vs[j], vs[j]] (richCompare .Lt vs[j] vb >>= _)) _ >>= _) _ _ _
    refine wpAny_bind (wpAny_tryCatch (wpAny_holding (wpAny_bind (lt_way (s := { s with heap := h' }) (x := ws[j]) (y := x0) hG' (hW.2 j _ _ hvj hwj) (hW.2 b0 _ _ q1 q2) hu ?_))))
    refine wpAny_bind (wpAny_holding (wpAny_truthy_bool ?_))
    refine wpAny_bind (wpAny_letGo (wpAny_pure ?_))
    cases hb : wLt ws[j] x0 with
    | true =>
      simp only [if_true]
      refine wpAny_bind ?_
      refine wpAny_updateSeq hS' rfl (wpAny_bind (wpAny_letGo ?_))
      rw [hname]
      have up : ∀ b o, b ≠ S → h'.get? b = some o → (h'.update S (Obj.mapSeq fun _ => #[vs[j], vs[j]])).get? b = some o := fun b o hbS e => (Heap.get?_update_other _ _ (Ne.symm hbS)).trans e
      refine wpAny_pure ⟨plainId_quiet PySem.F.plain_min_loop _, ih (j + 1) _ vs[j] _ (by omega) hlt ?_ ?_ ?_ ⟨j, ws[j], hvj, hwj, ?_⟩ (Heap.get?_update_self _ hS' rfl) fun v' h'' tk'' hP' hk'' => ?_⟩
      · obtain ⟨o, ho, r⟩ := hit'
        exact ⟨o, up _ _ hIS ho, r⟩
      · obtain ⟨o, ho, r⟩ := hl'
        exact ⟨o, up _ _ hlS ho, r⟩
      · exact fun p hp => up _ _ (hGS p hp) (hG' p hp)
      · intro c y hc hy
        rcases Nat.lt_or_ge c j with q | q
        · exact wLt_sto.le_trans (wLt_sto.asym hb) (q3 c y q hy)
        · obtain rfl : c = j := by omega
          rw [hwj] at hy; cases hy
          exact wLt_sto.irr _
      · exact hR v' h'' tk'' hP' fun b o hbI hbS e => hk'' b o hbI hbS (up b o hbS (hk' b o hbI e))
    | false =>
      simp only [Bool.false_eq_true, if_false]
      refine wpAny_bind (wpAny_letGo ?_)
      rw [hname]
      refine wpAny_pure ⟨plainId_quiet PySem.F.plain_min_loop _, ih (j + 1) _ vb c (by omega) hlt hit' hl' hG' ⟨b0, x0, q1, q2, ?_⟩ hS' fun v' h'' tk'' hP' hk'' => ?_⟩
      · intro c y hc hy
        rcases Nat.lt_or_ge c j with q | q
        · exact q3 c y q hy
        · obtain rfl : c = j := by omega
          rw [hwj] at hy; cases hy
          exact hb
      · exact hR v' h'' tk'' hP' fun b o hbI hbS e => hk'' b o hbI hbS (hk' b o hbI e)
theorem min_ways {h₀ : Heap} {L l : Addr} {m : Str → Option Value} {news G : Led} {vs : List Value} {ws : List Way} {n : Nat} {Q : Value → Shared → Prop} (hh : A.in1.handled = none) (F : Fr h₀ L s.heap m) (N : News h₀ L s.heap news) (hm : (l, listOf vs.toArray n) ∈ news) (hG : ∀ p ∈ G, p ∈ news) (hW : WaysAre G vs ws) (hne : 0 < vs.length) (hu : A.in1.units + 8 < cLine)
    (h : ∀ v h' tk, BestIn vs ws vs.length v → Fr h₀ L h' m → News h₀ L h' news → Q v { s with heap := h', toks := tk }) : wpAny (model prog w) A (call (.builtin "min") [.ref l]) Q E s := by
  have hname : (toString "min" ++ toString ".loop" : String) = "min.loop" := by decide
  refine call_function_tree PySem.F.kind_min PySem.F.plain_min PySem.F.entry_min (PySem.F.args_min1 _) ?_
  show wpAny _ A.in1 (Builtin.Builtins.bindParams "min" ["key", "default"] 0 ⟨[], []⟩ >>= _) _ _ s
  refine wpAny_bind (wpAny_of_eq (show Builtin.Builtins.bindParams "min" ["key", "default"] 0 ⟨[], []⟩ = pure [none, none] from rfl) ?_)
  refine wpAny_bind (wpAny_pure ?_)
  have hl : s.heap.IsList l vs.toArray := PySem.IsL.isList (n := n) (N _ hm).1
  refine wpAny_bind (wpAny_pyIter_list hl ?_)
  refine wpAny_bind (wpAny_newObj_type ?_)
  rw [hname]
  refine wpAny_pure ⟨plainId_quiet PySem.F.plain_min_loop _, ?_⟩
  have F1 := F.push { cls := .type "list_iterator", data := .fields #[.ref l, .int 0 0] }
  have N1 := N.push F { cls := .type "list_iterator", data := .fields #[.ref l, .int 0 0] }
  have F2 := F1.push { cls := .type "list", data := .seq ([] : List Value).toArray }
  have N2 := N1.push F1 { cls := .type "list", data := .seq ([] : List Value).toArray }
  rw [Heap.size_push] at N2
  have hI : ∀ p ∈ news, p.1 ≠ s.heap.objs.size := fun p hp => Nat.ne_of_lt (Heap.lt_size (N p hp).1)
  have hS : ∀ p ∈ news, p.1 ≠ s.heap.objs.size + 1 := fun p hp => Nat.ne_of_lt (Nat.lt_succ_of_lt (Heap.lt_size (N p hp).1))
  have gS := N2 _ (.head _)
  have gI := N2 _ (.tail _ (.head _))
  have hv0 : vs[0]? = some vs[0] := List.getElem?_eq_getElem hne
  have hw0 : 0 < ws.length := by rw [← hW.1]; exact hne
  have hx0 : ws[0]? = some ws[0] := List.getElem?_eq_getElem hw0
  rw [Heap.size_push]
  generalize hI9 : s.heap.objs.size = I at *
  generalize hH : (Heap.push (Heap.push s.heap _) _) = H at *
  refine codeAny_builtin PySem.F.entry_min_loop ?_
  rw [Around.under_plainId PySem.F.plain_min_loop _]
  show wpAny _ A.in1 (seqItems? (.ref (I + 1)) >>= _) _ _ _
  refine wpAny_bind (wpAny_seqItems gS.1 rfl ?_)
  show wpAny _ A.in1 (tryCatch (pyNext (.ref I)) _ >>= _) _ _ _
  have hl2 : H.IsList l vs.toArray := PySem.IsL.isList (n := n) (N2 _ (.tail _ (.tail _ hm))).1
  refine wpAny_bind (wpAny_tryCatch (wpAny_pyNext_list_item (s := { s with heap := H }) (i := 0) ⟨_, gI.1, rfl, rfl⟩ hl2 (x := vs[0]) (by rw [List.getElem?_toArray]; exact hv0) fun h' hit' hs' => ?_))
  have hk' : ∀ b o, b ≠ I → H.get? b = some o → h'.get? b = some o := fun b o hb e => (hs'.2 b hb).trans e
  have gS' := hk' (I + 1) _ (by omega) gS.1
  show wpAny _ A.in1 (updateSeq (I + 1) (fun _ => #[vs[0], vs[0]]) >>= _) _ _ _
  refine wpAny_bind ?_
  refine wpAny_updateSeq gS' rfl ?_
  rw [hname]
  have up : ∀ b o, b ≠ I + 1 → h'.get? b = some o → (h'.update (I + 1) (Obj.mapSeq fun _ => #[vs[0], vs[0]])).get? b = some o := fun b o hbS e => (Heap.get?_update_other _ _ (Ne.symm hbS)).trans e
  have base : ∀ b o, b ≠ I → b ≠ I + 1 → H.get? b = some o → (h'.update (I + 1) (Obj.mapSeq fun _ => #[vs[0], vs[0]])).get? b = some o := fun b o h1 h2 e => up b o h2 (hk' b o h1 e)
  refine wpAny_pure ⟨plainId_quiet PySem.F.plain_min_loop _, min_loop (G := G) (vs := vs) (ws := ws) (I := I) (S := I + 1) (l := l) hh hW hu (Nat.ne_of_lt (Nat.lt_succ_self I)) (hI _ hm) (hS _ hm) (fun p hp => hI p (hG p hp)) (fun p hp => hS p (hG p hp)) (vs.length - 1) 1 _ vs[0] _ rfl hne ?_ ?_ ?_ ⟨0, ws[0], hv0, hx0, ?_⟩ (Heap.get?_update_self _ gS' rfl) fun v' h'' tk'' hP' hk'' => ?_⟩
  · obtain ⟨o, ho, r⟩ := hit'
    exact ⟨o, up _ _ (Nat.ne_of_lt (Nat.lt_succ_self I)) ho, r⟩
  · obtain ⟨o, ho, r⟩ := hl2
    exact ⟨o, base _ _ (hI _ hm) (hS _ hm) ho, r⟩
  · exact fun p hp => base _ _ (hI p (hG p hp)) (hS p (hG p hp)) (N2 p (.tail _ (.tail _ (hG p hp)))).1
  · intro c y hc hy
    obtain rfl : c = 0 := by omega
    rw [hx0] at hy; cases hy
    exact wLt_sto.irr _
  · have keep : ∀ b o, b ≠ I → b ≠ I + 1 → H.get? b = some o → h''.get? b = some o := fun b o h1 h2 e => hk'' b o h1 h2 (base b o h1 h2 e)
    refine h v' h'' tk'' hP' ?_ fun p hp => ⟨keep _ _ (hI p hp) (hS p hp) (N2 p (.tail _ (.tail _ hp))).1, (N p hp).2⟩
    obtain ⟨⟨oL, a1, a2, hLo, a3⟩, k2, k3⟩ := F2
    have hLt : L < I := by rw [← hI9]; exact F.ns.lt
    refine ⟨⟨oL, a1, a2, keep _ _ (Nat.ne_of_lt hLt) (Nat.ne_of_lt (Nat.lt_succ_of_lt hLt)) hLo, a3⟩, fun b o e => ?_, k3⟩
    have hb : b < I := by rw [← hI9]; exact Heap.lt_size (F.keep b o e)
    exact keep b o (Nat.ne_of_lt hb) (Nat.ne_of_lt (Nat.lt_succ_of_lt hb)) (k2 b o e)
end
end Mine
end
section
open PySem PySem.W PyProof.Rows PySem.Spec PySem.Calls
set_option maxRecDepth 100000
namespace Mine
theorem all_cons {α : Type} {P : α → Prop} {a : α} {r : List α} (h : P a) (hr : ∀ x ∈ r, P x) : ∀ x ∈ a :: r, P x := by
  intro x hx
  rcases List.mem_cons.mp hx with rfl | hx
  · exact h
  · exact hr x hx
noncomputable abbrev tupO (vs : List Value) : Obj := { cls := .type "tuple", data := .seq vs.toArray }
/-- the value is a triple of ints that the ledger bears -/
noncomputable def TriIs (G : Led) (v : Value) (t : Tri) : Prop := ∃ a i j k, v = .ref a ∧ (a, tupO [.int t.1 i, .int t.2.1 j, .int t.2.2 k]) ∈ G
inductive TrisAre (G : Led) : List Value → List Tri → Prop
  | nil : TrisAre G [] []
  | cons {v t vs ts} : TriIs G v t → TrisAre G vs ts → TrisAre G (v :: vs) (t :: ts)
noncomputable def PcsIs (G : Led) (v : Value) (ps : List Tri) : Prop := ∃ a vs, v = .ref a ∧ (a, tupO vs) ∈ G ∧ TrisAre G vs ps
noncomputable def WayIs (G : Led) (v : Value) (x : Way) : Prop := ∃ a t p, v = .ref a ∧ (a, tupO [.int x.1 t, p]) ∈ G ∧ PcsIs G p x.2
noncomputable def EnIs (G : Led) (v : Value) (x : En) : Prop := ∃ a t p u, v = .ref a ∧ (a, tupO [.int x.1 t, p, .int x.2.2 u]) ∈ G ∧ PcsIs G p x.2.1
section
variable {G G' : Led} {v : Value} {vs : List Value}
theorem TriIs.mono {t : Tri} (h : TriIs G v t) (s : ∀ p ∈ G, p ∈ G') : TriIs G' v t := let ⟨a, i, j, k, e, m⟩ := h; ⟨a, i, j, k, e, s _ m⟩
theorem TrisAre.mono {ts : List Tri} (h : TrisAre G vs ts) (s : ∀ p ∈ G, p ∈ G') : TrisAre G' vs ts := by
  induction h with
  | nil => exact .nil
  | cons a _ ih => exact .cons (a.mono s) ih
theorem TrisAre.snoc {ts : List Tri} {t : Tri} (h : TrisAre G vs ts) (ht : TriIs G v t) : TrisAre G (vs ++ [v]) (ts ++ [t]) := by
  induction h with
  | nil => exact .cons ht .nil
  | cons a _ ih => exact .cons a ih
theorem TrisAre.length {ts : List Tri} (h : TrisAre G vs ts) : vs.length = ts.length := by
  induction h with
  | nil => rfl
  | cons _ _ ih => simp [ih]
theorem PcsIs.mono {ps : List Tri} (h : PcsIs G v ps) (s : ∀ p ∈ G, p ∈ G') : PcsIs G' v ps := let ⟨a, vs, e, m, t⟩ := h; ⟨a, vs, e, s _ m, t.mono s⟩
theorem WayIs.mono {x : Way} (h : WayIs G v x) (s : ∀ p ∈ G, p ∈ G') : WayIs G' v x := let ⟨a, t, p, e, m, q⟩ := h; ⟨a, t, p, e, s _ m, q.mono s⟩
theorem EnIs.mono {x : En} (h : EnIs G v x) (s : ∀ p ∈ G, p ∈ G') : EnIs G' v x := let ⟨a, t, p, u, e, m, q⟩ := h; ⟨a, t, p, u, e, s _ m, q.mono s⟩
theorem TriIs.rd {t : Tri} (h : TriIs G v t) : Rd G v (triD t) := by
  obtain ⟨a, i, j, k, rfl, m⟩ := h
  intro hp hh
  exact ⟨_, .tuple (hh _ m) rfl rfl (.cons (.int _ _) (.cons (.int _ _) (.cons (.int _ _) .nil)))⟩
theorem TrisAre.rd {ts : List Tri} (h : TrisAre G vs ts) (hp : Heap) (hh : ∀ p ∈ G, hp.get? p.1 = some p.2) : ∃ as, ReadsAll hp vs (ts.map triD) as := by
  induction h with
  | nil => exact ⟨[], .nil⟩
  | cons a _ ih =>
    obtain ⟨as, qa⟩ := a.rd hp hh
    obtain ⟨bs, qb⟩ := ih
    exact ⟨_, .cons qa qb⟩
theorem PcsIs.rd {ps : List Tri} (h : PcsIs G v ps) : Rd G v (trisD ps) := by
  obtain ⟨a, vs, rfl, m, t⟩ := h
  intro hp hh
  obtain ⟨as, q⟩ := t.rd hp hh
  exact ⟨_, .tuple (hh _ m) rfl rfl (by rw [List.toList_toArray]; exact q)⟩
theorem WayIs.rd {x : Way} (h : WayIs G v x) : Rd G v (wayD x) := by
  obtain ⟨a, t, p, rfl, m, q⟩ := h
  intro hp hh
  obtain ⟨as, r⟩ := q.rd hp hh
  exact ⟨_, .tuple (hh _ m) rfl rfl (.cons (.int _ _) (.cons r .nil))⟩
theorem EnIs.rd {x : En} (h : EnIs G v x) : Rd G v (enD x) := by
  obtain ⟨a, t, p, u, rfl, m, q⟩ := h
  intro hp hh
  obtain ⟨as, r⟩ := q.rd hp hh
  exact ⟨_, .tuple (hh _ m) rfl rfl (.cons (.int _ _) (.cons r (.cons (.int _ _) .nil)))⟩
end
section
variable {prog : Program} {w : World} {A : Around} {E : Value → Shared → Prop} {s : Shared} {h₀ : Heap} {L : Addr} {m : Str → Option Value} {news : Led}
theorem tup_of {a : Addr} {vs : List Value} (N : News h₀ L s.heap news) (hm : (a, tupO vs) ∈ news) : IsTup s.heap a vs.toArray := ⟨_, (N _ hm).1, rfl, _, rfl⟩
theorem unpack_led {a : Addr} {vs : List Value} {n : Nat} {Q : List Value → Shared → Prop} (F : Fr h₀ L s.heap m) (N : News h₀ L s.heap news) (hm : (a, tupO vs) ∈ news) (hh : A.handled = none) (hn : n = vs.length)
    (h : ∀ h', Fr h₀ L h' m → News h₀ L h' news → Q vs { s with heap := h' }) : wpAny (model prog w) A (unpackItems (.ref a) n none) Q E s :=
  unpackItemsN_ F N (tup_of N hm) hh (by simpa using hn) (by simpa using h)
/-- pieces + (piece,) -/
theorem pcs_add {p tv : Value} {q : Addr} {ps : List Tri} {t : Tri} {G G' : Led} {Q : Value → Shared → Prop} (F : Fr h₀ L s.heap m) (N : News h₀ L s.heap news) (hp : PcsIs G p ps) (hs : ∀ x ∈ G, x ∈ G') (hs' : ∀ x ∈ G', x ∈ news) (hq : (q, tupO [tv]) ∈ G') (ht : TriIs G' tv t) (hlen : ps.length ≤ 1000)
    (h : ∀ a us h', Fr h₀ L h' m → News h₀ L h' ((a, tupO us) :: news) → q ≤ a → TrisAre G' us (ps ++ [t]) → Q (.ref a) { s with heap := h' }) : wpAny (model prog w) A (binaryOp .Add p (.ref q)) Q E s := by
  obtain ⟨pa, vs, rfl, m1, tr⟩ := hp
  have hl := tr.length
  refine add_tuples F N (tup_of N (hs' _ (hs _ m1))) (tup_of N (hs' _ hq)) (fun e => ?_) (fun _ e => absurd e (by simp)) (fun _ _ h' F' N' => ?_) (by rw [sizeLine_eq]; simp; omega)
  · subst e
    cases tr
    refine h q [tv] s.heap F ?_ (Nat.le_refl _) (.cons ht .nil)
    intro x hx
    rcases List.mem_cons.mp hx with rfl | hx
    · exact N _ (hs' _ hq)
    · exact N x hx
  · exact h _ _ h' F' N' (Nat.le_of_lt (Heap.lt_size (N _ (hs' _ hq)).1)) ((tr.mono hs).snoc ht)
end
/-- a stretch of ys equals a stretch of xs -/
theorem whole_iff {xs ys : List Int} {b n j : Nat} (h1 : j + n ≤ ys.length) (h2 : b + n ≤ xs.length) : ((ys.drop j).take n = (xs.drop b).take n) ↔ Whole xs ys b n j := by
  constructor
  · intro h
    refine ⟨h1, fun r hr => ?_⟩
    have e := congrArg (fun l => l[r]?) h
    simp only [List.getElem?_take, hr, if_true, List.getElem?_drop] at e
    exact e.symm
  · intro h
    refine List.ext_getElem? fun r => ?_
    simp only [List.getElem?_take, List.getElem?_drop]
    split
    · rename_i hr
      exact (h.2 r hr).symm
    · rfl
end Mine
end
section
open PySem PySem.W PyProof.Rows PySem.Spec PySem.Calls
local macro_rules | `(tactic| k_steps) => `(tactic| repeat' (first | (k_unfold; (try dsimp only)) | walk1 | (dsimp only; walk1) | (leave1; try dsimp only) | fail "no step"))
section
open PySem PySem.W PyProof.Rows PySem.Spec PySem.Calls
set_option maxRecDepth 100000
namespace Mine
theorem filledSd : PySem.Challenge.rw_nq0313_01.prog = PySem.Challenge.rw_nq0313_01.prog ∧ K = K := by
  k_fill
  exact ⟨rfl, rfl⟩
local macro_rules
  | `(tactic| walk_at "exec While Compare cons nil") => `(tactic| refine hold ?_)
  | `(tactic| walk_at "call ref") => `(tactic| refine hold ?_)
  | `(tactic| walk_at "KswEnd") => `(tactic| refine hold ?_)
  | `(tactic| walk_at "Mid next") => `(tactic| refine hold ?_)
  | `(tactic| walk_at "subscriptTail Name Name ref int") => `(tactic| refine hold ?_)
  | `(tactic| walk_at "subscriptTail Name Constant ref int") => `(tactic| refine hold ?_)
set_option maxHeartbeats 0 in
theorem siftdown_spec (w : World) (hp : Addr) (vs : List Value) (n : Nat) (R : Led) (p : Nat) (t₀ t : Tok) (H : List En) (P : Value → En → Prop) (hPr : ∀ v x, P v x → Rd R v (enD x)) (hE : EnsP P vs H) (hp' : p < H.length) (hI : SdInv eLt H p H[p]) (hR : ∀ q ∈ R, q.1 ≠ hp) (hz : vs.length < 2 ^ 62) :
    CallOk w 274 [.ref hp, .int 0 t₀, .int p t] ((hp, listOf vs.toArray n) :: R) 2 20 (fun r news' => r = .none ∧ ∃ vs' H', news' = (hp, listOf vs'.toArray n) :: R ∧ EnsP P vs' H' ∧ IsHeap eLt H' ∧ H'.Perm H) := by
  unfold CallOk
  intro prog pp loose mean mg mb dp un gd cn cs a ccd cl outer A₀ base h₀ L m s Q E B F X N T hk hd hu hret
  refine wpAny_call ?_
  k_dflt ktr_enter
  k_steps
  obtain ⟨v, hv, rv⟩ := hE.get p hp'
  generalize hx : H[p] = x at rv hI
  refine item_nat (by k_asm) (by k_mem) rfl hv hz ?_
  k_steps
  unfold Held
  rename Fr _ _ _ _ => F1
  refine wpAny_mono (ksw_whileG (Q := Mid F1 s (fun m' news' => ∃ vs' H' p' t', (∀ q ∈ [(Str.ofString "heap", Value.ref hp), (Str.ofString "pos", Value.int ((p' : Nat) : Int) t'), (Str.ofString "newitem", v)], m' q.1 = some q.2) ∧ news' = (hp, listOf vs'.toArray n) :: R ∧
      EnsP P vs' H' ∧ ∃ hp' : p' < H'.length, SdInv eLt H' p' x ∧ (H'.set p' x).Perm H ∧ ∀ h : 0 < p', eLt x (H'[(p' - 1) / 2]'(by omega)) = false)) (σ := List Value × List En × Nat × Tok) (fun c => (hp, listOf c.1.toArray n) :: R) (fun c => [(Str.ofString "pos", Value.int ((c.2.2.1 : Nat) : Int) c.2.2.2)]) (fun _ => True)
    [Str.ofString "pos", Str.ofString "parentpos", Str.ofString "parent"] (fun c => EnsP P c.1 c.2.1 ∧ c.1.length < 2 ^ 62 ∧ c.2.2.1 < c.2.1.length ∧ SdInv eLt c.2.1 c.2.2.1 x ∧ (c.2.1.set c.2.2.1 x).Perm H) (fun c => c.2.2.1) (vs, H, p, t) F1 (by k_asm) trivial ?_ ?_ ?_) ?_ ?_
  · intro q hq; rcases List.mem_singleton.mp hq with rfl; rfl
  · refine ⟨hE, hz, hp', hI, ?_⟩
    rw [← hx, List.set_getElem_self]
  · intro QX QQ qx qb qn qc
    rintro ⟨vs1, H1, p1, t1⟩ u h tk - ⟨hE1, hz1, hp1, hI1, hP1⟩ F2 N2
    dsimp only at hE1 hz1 hp1 hI1 hP1 F2 N2 ⊢
    k_steps
    · rename (0 < _) => hpos
      have hq : (p1 - 1) / 2 < H1.length := by omega
      obtain ⟨v2, hv2, rv2⟩ := hE1.get ((p1 - 1) / 2) hq
      have hdiv : (((p1 : Nat) : Int) - 1).fdiv (2 ^ Int.toNat 1) = (((p1 - 1) / 2 : Nat) : Int) := by
        have : (2 : Int) ^ Int.toNat 1 = 2 := rfl
        rw [this, Int.fdiv_eq_ediv_of_nonneg _ (by omega)]
        omega
      rw [hdiv]
      refine item_nat (by k_asm) (by k_mem) rfl hv2 hz1 ?_
      k_steps
      refine lt_rd (by k_asm) (fun q hq => .tail _ hq) (hPr _ _ rv) (hPr _ _ rv2) (by simp only [units_deeper]; omega) ?_
      k_steps
      · rename (eLt _ _ = true) => hlt
        dsimp only
        refine set_nat (by k_asm) (by k_asm) hR rfl (by rw [hE1.1]; exact hp1) hz1 ?_
        intro h3 F3 N3
        k_steps
        dsimp only
        refine qc _ _ ?_
        refine' ksw_end (vs1.set p1 v2, H1.set p1 H1[(p1 - 1) / 2], (p1 - 1) / 2, ?tk9) ?f9 ?n9 ?hn9 trivial ?hk9 ?hr9 ?hp9 ?hm9
        case f9 => k_asm
        case n9 => k_asm
        case hn9 => exact fun _ hq => hq
        case hk9 => intro q hq; rcases List.mem_singleton.mp hq with rfl; exact congrArg (fun z => some (Value.int z _)) hdiv
        case hr9 =>
          intro z z1 z2
          dsimp only
          repeat rw [if_neg (fun e => absurd z2 (by rw [e]; decide))]
          exact same_of z2 fun q hq => by rcases List.mem_singleton.mp hq with rfl; exact fun e => absurd z2 (by rw [e]; dsimp only; decide)
        case hp9 =>
          refine ⟨hE1.set p1 rv2, ?_, ?_, hI1.step eLt_sto hp1 (by omega) hlt, (perm_move hp1 hq).trans hP1⟩
          · simpa using hz1
          · simpa using hq
        case hm9 =>
          show (p1 - 1) / 2 < p1
          omega
      · rename (eLt _ _ = false) => hlt
        dsimp only
        refine qb _ _ ?_
        refine ⟨rfl, _, _, _, _, rfl, by k_asm, by k_asm, vs1, H1, p1, t1, ?_, rfl, hE1, hp1, hI1, hP1, fun q => hlt⟩
        intro q hq
        rcases List.mem_cons.mp hq with rfl | hq
        · rfl
        rcases List.mem_cons.mp hq with rfl | hq
        · rfl
        rcases List.mem_cons.mp hq with rfl | hq
        · rfl
        cases hq
    · rename (¬ 0 < _) => hpos
      skip
      refine qx _ ?_
      refine ⟨rfl, _, _, _, _, rfl, F2, N2, vs1, H1, p1, t1, ?_, rfl, hE1, hp1, hI1, hP1, fun q => absurd q (by omega)⟩
      intro q hq
      rcases List.mem_cons.mp hq with rfl | hq
      · rfl
      rcases List.mem_cons.mp hq with rfl | hq
      · rfl
      rcases List.mem_cons.mp hq with rfl | hq
      · rfl
      cases hq
  · rintro f s' ⟨rfl, h', tk', m', news', rfl, F3, N3, vs', H', p', t', hm, rfl, hE', hp3, hI', hP', hlt⟩
    have F4 := Fr.told F3 hm
    clear F3
    dsimp only
    k_steps
    dsimp only
    refine set_nat (by k_asm) (by k_asm) hR rfl (by rw [hE'.1]; exact hp3) ?_ ?_
    · have := hP'.length_eq
      rw [List.length_set] at this
      rw [hE'.1, this, ← hE.1]; exact hz
    intro h5 F5 N5
    k_steps
    exact hret _ _ _ _ (by k_asm) (by k_asm) ⟨rfl, _, _, rfl, hE'.set p' rv, hI'.done hp3 hlt, hP'⟩
  · intro _ _ hx; exact hx.elim
end Mine
end
section
open PySem PySem.W PyProof.Rows PySem.Spec PySem.Calls
set_option maxRecDepth 100000
namespace Mine
theorem filledSu : PySem.Challenge.rw_nq0313_01.prog = PySem.Challenge.rw_nq0313_01.prog ∧ K = K := by
  k_fill
  exact ⟨rfl, rfl⟩
local macro_rules
  | `(tactic| walk_at "exec While Compare cons nil") => `(tactic| refine hold ?_)
  | `(tactic| walk_at "call ref") => `(tactic| refine hold ?_)
  | `(tactic| walk_at "KswEnd") => `(tactic| refine hold ?_)
  | `(tactic| walk_at "Mid next") => `(tactic| refine hold ?_)
  | `(tactic| walk_at "subscriptTail Name Name ref int") => `(tactic| refine hold ?_)
  | `(tactic| walk_at "subscriptTail Name Constant ref int") => `(tactic| refine hold ?_)

theorem child_cases {d p : Nat} (h : (d - 1) / 2 = p) (h0 : 0 < d) : d = 2 * p + 1 ∨ d = 2 * p + 2 := by omega
set_option maxHeartbeats 0 in
theorem siftup_spec (w : World) (hp : Addr) (vs : List Value) (n : Nat) (R : Led) (t : Tok) (H : List En) (P : Value → En → Prop) (hPr : ∀ v x, P v x → Rd R v (enD x)) (hE : EnsP P vs H) (h0 : 0 < H.length) (hI : HeapBut eLt H 0) (hR : ∀ q ∈ R, q.1 ≠ hp) (hz : vs.length < 2 ^ 62) :
    CallOk w 281 [.ref hp, .int 0 t] ((hp, listOf vs.toArray n) :: R) 4 30 (fun r news' => r = .none ∧ ∃ vs' H', news' = (hp, listOf vs'.toArray n) :: R ∧ EnsP P vs' H' ∧ IsHeap eLt H' ∧ H'.Perm H) := by
  unfold CallOk
  intro prog pp loose mean mg mb dp un gd cn cs a ccd cl outer A₀ base h₀ L m s Q E B F X N T hk hd hu hret
  refine wpAny_call ?_
  k_dflt ktr_enter
  k_steps
  obtain ⟨v, hv, rv⟩ := hE.get 0 h0
  generalize hx : H[0] = x at rv
  refine len_nat (by k_asm) (by k_mem) hz ?_
  k_steps
  refine item_nat (by k_asm) (by k_mem) rfl hv hz ?_
  k_steps
  unfold Held
  rename Fr _ _ _ _ => F1
  refine' wpAny_mono (ksw_whileG (Q := Mid F1 s (fun m' news' => ∃ vs' H' p' t', (∀ q ∈ [(Str.ofString "heap", Value.ref hp), (Str.ofString "pos", Value.int ((p' : Nat) : Int) t'), (Str.ofString "newitem", v), (Str.ofString "startpos", Value.int 0 t)], m' q.1 = some q.2) ∧ news' = (hp, listOf vs'.toArray n) :: R ∧
      EnsP P vs' H' ∧ p' < H'.length ∧ HeapBut eLt H' p' ∧ (H'.set p' x).Perm H ∧ H'.length ≤ 2 * p' + 1)) (σ := List Value × List En × Nat × Tok × Tok) (fun c => (hp, listOf c.1.toArray n) :: R) (fun c => [(Str.ofString "pos", Value.int ((c.2.2.1 : Nat) : Int) c.2.2.2.1), (Str.ofString "childpos", Value.int ((2 * c.2.2.1 + 1 : Nat) : Int) c.2.2.2.2)]) (fun _ => True)
    [Str.ofString "pos", Str.ofString "childpos", Str.ofString "rightpos"] (fun c => EnsP P c.1 c.2.1 ∧ c.1.length = vs.length ∧ c.2.2.1 < c.2.1.length ∧ HeapBut eLt c.2.1 c.2.2.1 ∧ (c.2.1.set c.2.2.1 x).Perm H) (fun c => vs.length - c.2.2.1) (vs, H, 0, t, ?tk0) F1 ?n1 trivial ?k1 ?p1 ?turn1) ?post1 ?exc1
  case n1 => k_asm
  case k1 =>
    intro q hq
    rcases List.mem_cons.mp hq with rfl | hq
    · rfl
    rcases List.mem_cons.mp hq with rfl | hq
    · rfl
    cases hq
  case p1 =>
    refine ⟨hE, rfl, h0, hI, ?_⟩
    rw [← hx, List.set_getElem_self]
  case turn1 =>
    intro QX QQ qx qb qn qc
    rintro ⟨vs1, H1, p1, t1, t2⟩ u h tk - ⟨hE1, hz1, hp1, hI1, hP1⟩ F2 N2
    dsimp only at hE1 hz1 hp1 hI1 hP1 F2 N2 ⊢
    have hz2 : vs1.length < 2 ^ 62 := by omega
    have hlen := hE1.1
    k_steps
    · rename (_ + 1 < _) => hr
      have hr' : 2 * p1 + 2 < H1.length := by omega
      obtain ⟨vl, hvl, rvl⟩ := hE1.get (2 * p1 + 1) (by omega)
      obtain ⟨vr, hvr, rvr⟩ := hE1.get (2 * p1 + 2) hr'
      dsimp only
      refine item_nat (by k_asm) (by k_mem) rfl hvl hz2 ?_
      k_steps
      refine item_nat (by k_asm) (by k_mem) (by omega : _ = ((2 * p1 + 2 : Nat) : Int)) hvr hz2 ?_
      k_steps
      refine lt_rd (by k_asm) (fun q hq => .tail _ hq) (hPr _ _ rvl) (hPr _ _ rvr) (by simp only [units_deeper]; omega) ?_
      k_steps
      · rename (eLt _ _ = true) => hlt
        dsimp only
        refine item_nat (by k_asm) (by k_mem) rfl hvl hz2 ?_
        k_steps
        dsimp only
        refine set_nat (by k_asm) (by k_asm) hR rfl (by rw [hE1.1]; exact hp1) hz2 ?_
        intro h3 F3 N3
        k_steps
        refine qn _ _ ?_
        refine' ksw_end (vs1.set p1 vl, H1.set p1 (H1[2 * p1 + 1]'(by omega)), 2 * p1 + 1, ?ta0, ?tb0) ?f9 ?n9 ?hn9 trivial ?hk9 ?hr9 ?hp9 ?hm9
        case f9 => k_asm
        case n9 => k_asm
        case hn9 => exact fun _ hq => hq
        case hk9 =>
          intro q hq
          rcases List.mem_cons.mp hq with rfl | hq
          · exact congrArg (fun z => some (Value.int z _)) (show ((2 * p1 + 1 : Nat) : Int) = ((2 * p1 + 1 : Nat) : Int) by omega)
          rcases List.mem_cons.mp hq with rfl | hq
          · exact congrArg (fun z => some (Value.int z _)) (show 2 * (((2 * p1 + 1 : Nat) : Int)) + 1 = ((2 * (2 * p1 + 1) + 1 : Nat) : Int) by omega)
          cases hq
        case hr9 =>
          intro z z1 z2
          repeat (refine skip_if (fun e => absurd z2 (by rw [e]; (try dsimp only); decide)) ?_)
          exact if_neg (by rw [z2]; exact Bool.false_ne_true)
        case hp9 =>
          have hcl : 2 * p1 + 1 < H1.length := by omega
          refine ⟨hE1.set p1 rvl, ?_, ?_, hI1.down eLt_sto hcl (by omega) (by omega) ?_, (perm_move hp1 hcl).trans hP1⟩
          · simpa using hz1
          · simpa using hcl
          · intro d hd d0 e
            rcases child_cases e d0 with rfl | rfl
            · exact eLt_sto.irr _
            · exact eLt_sto.asym hlt
        case hm9 =>
          show vs.length - (2 * p1 + 1) < vs.length - p1
          omega
      · rename (eLt _ _ = false) => hlt
        refine item_nat (by k_asm) (by k_mem) (by omega : _ = ((2 * p1 + 2 : Nat) : Int)) hvr hz2 ?_
        k_steps
        dsimp only
        refine set_nat (by k_asm) (by k_asm) hR rfl (by rw [hE1.1]; exact hp1) hz2 ?_
        intro h3 F3 N3
        k_steps
        refine qn _ _ ?_
        refine' ksw_end (vs1.set p1 vr, H1.set p1 (H1[2 * p1 + 2]'(by omega)), 2 * p1 + 2, ?ta1, ?tb1) ?f9 ?n9 ?hn9 trivial ?hk9 ?hr9 ?hp9 ?hm9
        case f9 => k_asm
        case n9 => k_asm
        case hn9 => exact fun _ hq => hq
        case hk9 =>
          intro q hq
          rcases List.mem_cons.mp hq with rfl | hq
          · exact congrArg (fun z => some (Value.int z _)) (show ((2 * p1 + 1 : Nat) : Int) + 1 = ((2 * p1 + 2 : Nat) : Int) by omega)
          rcases List.mem_cons.mp hq with rfl | hq
          · exact congrArg (fun z => some (Value.int z _)) (show 2 * (((2 * p1 + 1 : Nat) : Int) + 1) + 1 = ((2 * (2 * p1 + 2) + 1 : Nat) : Int) by omega)
          cases hq
        case hr9 =>
          intro z z1 z2
          repeat (refine skip_if (fun e => absurd z2 (by rw [e]; (try dsimp only); decide)) ?_)
          exact if_neg (by rw [z2]; exact Bool.false_ne_true)
        case hp9 =>
          have hcl : 2 * p1 + 2 < H1.length := by omega
          refine ⟨hE1.set p1 rvr, ?_, ?_, hI1.down eLt_sto hcl (by omega) (by omega) ?_, (perm_move hp1 hcl).trans hP1⟩
          · simpa using hz1
          · simpa using hcl
          · intro d hd d0 e
            rcases child_cases e d0 with rfl | rfl
            · exact hlt
            · exact eLt_sto.irr _
        case hm9 =>
          show vs.length - (2 * p1 + 2) < vs.length - p1
          omega
    · rename (¬ _ + 1 < _) => hr
      have hl' : 2 * p1 + 1 < H1.length := by omega
      obtain ⟨vl, hvl, rvl⟩ := hE1.get (2 * p1 + 1) hl'
      dsimp only
      refine item_nat (by k_asm) (by k_mem) rfl hvl hz2 ?_
      k_steps
      dsimp only
      refine set_nat (by k_asm) (by k_asm) hR rfl (by rw [hE1.1]; exact hp1) hz2 ?_
      intro h3 F3 N3
      k_steps
      refine qn _ _ ?_
      refine' ksw_end (vs1.set p1 vl, H1.set p1 (H1[2 * p1 + 1]'(by omega)), 2 * p1 + 1, ?ta2, ?tb2) ?f9 ?n9 ?hn9 trivial ?hk9 ?hr9 ?hp9 ?hm9
      case f9 => k_asm
      case n9 => k_asm
      case hn9 => exact fun _ hq => hq
      case hk9 =>
        intro q hq
        rcases List.mem_cons.mp hq with rfl | hq
        · exact congrArg (fun z => some (Value.int z _)) (show ((2 * p1 + 1 : Nat) : Int) = ((2 * p1 + 1 : Nat) : Int) by omega)
        rcases List.mem_cons.mp hq with rfl | hq
        · exact congrArg (fun z => some (Value.int z _)) (show 2 * (((2 * p1 + 1 : Nat) : Int)) + 1 = ((2 * (2 * p1 + 1) + 1 : Nat) : Int) by omega)
        cases hq
      case hr9 =>
        intro z z1 z2
        repeat (refine skip_if (fun e => absurd z2 (by rw [e]; (try dsimp only); decide)) ?_)
        exact if_neg (by rw [z2]; exact Bool.false_ne_true)
      case hp9 =>
        have hcl : 2 * p1 + 1 < H1.length := by omega
        refine ⟨hE1.set p1 rvl, ?_, ?_, hI1.down eLt_sto hcl (by omega) (by omega) ?_, (perm_move hp1 hcl).trans hP1⟩
        · simpa using hz1
        · simpa using hcl
        · intro d hd d0 e
          rcases child_cases e d0 with rfl | rfl
          · exact eLt_sto.irr _
          · exact absurd hd (by omega)
      case hm9 =>
        show vs.length - (2 * p1 + 1) < vs.length - p1
        omega
    · rename (¬ _ < _) => hr
      refine qx _ ?_
      refine ⟨rfl, _, _, _, _, rfl, F2, N2, vs1, H1, p1, t1, ?_, rfl, hE1, hp1, hI1, hP1, by omega⟩
      intro q hq
      rcases List.mem_cons.mp hq with rfl | hq
      · rfl
      rcases List.mem_cons.mp hq with rfl | hq
      · rfl
      rcases List.mem_cons.mp hq with rfl | hq
      · rfl
      rcases List.mem_cons.mp hq with rfl | hq
      · rfl
      cases hq
  case post1 =>
    rintro f s' ⟨rfl, h', tk', m', news', rfl, F3, N3, vs', H', p', t', hm, rfl, hE', hp3, hI', hP', hlf⟩
    have F4 := Fr.told F3 hm
    clear F3
    dsimp only
    have hz3 : vs'.length < 2 ^ 62 := by
      have := hP'.length_eq
      rw [List.length_set] at this
      rw [hE'.1, this, ← hE.1]; exact hz
    k_steps
    dsimp only
    refine set_nat (by k_asm) (by k_asm) hR rfl (by rw [hE'.1]; exact hp3) hz3 ?_
    intro h5 F5 N5
    k_steps
    unfold Held
    have hp4 : p' < (H'.set p' x).length := by rw [List.length_set]; exact hp3
    refine (siftdown_spec w hp (vs'.set p' v) n R p' t t' (H'.set p' x) P hPr (hE'.set p' rv) hp4 (SdInv.leaf (hI'.set x) (by rw [List.length_set]; exact hlf)) hR (by rw [List.length_set]; exact hz3)).use (by k_asm) (by k_asm) (by k_asm) (by k_asm) (by k_asm) rfl (by ktr_room) (by ktr_units) ?_
    rintro r news' h6 tk6 F6 N6 ⟨rfl, vs6, H6, rfl, hE6, hI6, hP6⟩
    k_steps
    exact hret _ _ _ _ (by k_asm) (by k_asm) ⟨rfl, _, _, rfl, hE6, hI6, hP6.trans hP'⟩
  case exc1 => intro _ _ hx; exact hx.elim
end Mine
end
section
open PySem PySem.W PyProof.Rows PySem.Spec PySem.Calls
set_option maxRecDepth 100000
namespace Mine
theorem filledHq : PySem.Challenge.rw_nq0313_01.prog = PySem.Challenge.rw_nq0313_01.prog ∧ K = K := by
  k_fill
  exact ⟨rfl, rfl⟩
local macro_rules
  | `(tactic| walk_at "exec While Compare cons nil") => `(tactic| refine hold ?_)
  | `(tactic| walk_at "call ref") => `(tactic| refine hold ?_)
  | `(tactic| walk_at "KswEnd") => `(tactic| refine hold ?_)
  | `(tactic| walk_at "Mid next") => `(tactic| refine hold ?_)
  | `(tactic| walk_at "subscriptTail Name Name ref int") => `(tactic| refine hold ?_)
  | `(tactic| walk_at "subscriptTail Name Constant ref int") => `(tactic| refine hold ?_)

theorem app_nat {prog : Program} {w : World} {A : Around} {E : Value → Shared → Prop} {s : Shared} {h₀ : Heap} {L : Addr} {m : Str → Option Value} {R : Led} {a : Addr} {vs : List Value} {n : Nat} {v : Value} {Q : Value → Shared → Prop} (F : Fr h₀ L s.heap m) (N : News h₀ L s.heap ((a, listOf vs.toArray n) :: R)) (hR : ∀ q ∈ R, q.1 ≠ a) (hz : vs.length < 2 ^ 20)
    (h : ∀ h', Fr h₀ L h' m → News h₀ L h' ((a, listOf (vs ++ [v]).toArray (n + 1)) :: R) → Q .none { s with heap := h' }) : wpAny (model prog w) A (call (.builtin "list.append") [.ref a, v]) Q E s := by
  refine append_K F N (.head hR) (fun h' F' N' => h h' F' (by simpa using N')) ?_
  rw [List.size_toArray, sizeLine]; omega
theorem pop_nat {prog : Program} {w : World} {A : Around} {E : Value → Shared → Prop} {s : Shared} {h₀ : Heap} {L : Addr} {m : Str → Option Value} {R : Led} {a : Addr} {vs : List Value} {n : Nat} {v : Value} {Q : Value → Shared → Prop} (F : Fr h₀ L s.heap m) (N : News h₀ L s.heap ((a, listOf (vs ++ [v]).toArray n) :: R)) (hR : ∀ q ∈ R, q.1 ≠ a) (hz : vs.length < 2 ^ 20)
    (h : ∀ h', Fr h₀ L h' m → News h₀ L h' ((a, listOf vs.toArray (n + 1)) :: R) → Q v { s with heap := h' }) : wpAny (model prog w) A (call (.builtin "list.pop") [.ref a]) Q E s := by
  refine kl_pop F N (by simpa using kpa_last v vs) (.head hR) ?_ h
  simp [sizeLine]; omega
theorem truth_nat {prog : Program} {w : World} {A : Around} {E : Value → Shared → Prop} {s : Shared} {h₀ : Heap} {L : Addr} {news : Led} {a : Addr} {vs : List Value} {n : Nat} {Q : Bool → Shared → Prop} (N : News h₀ L s.heap news) (hm : (a, listOf vs.toArray n) ∈ news) (hz : vs.length < 2 ^ 20)
    (h : Q (!vs.isEmpty) { s with toks := s.toks + 1 + 1 }) : wpAny (model prog w) A (truthy (.ref a)) Q E s := by
  refine wpAny_truthy_list (PySem.IsL.isList (n := n) (N _ hm).1) (by rw [List.size_toArray]; omega) ?_
  simpa using h
theorem IsHeap.init {α : Type} {lt : α → α → Bool} {l : List α} {y : α} (H : IsHeap lt (l ++ [y])) : IsHeap lt l := by
  intro i h h0
  have := H i (by rw [List.length_append]; omega) h0
  rw [List.getElem_append_left h, List.getElem_append_left (by omega)] at this
  exact this
theorem perm_top {α : Type} {l : List α} {y : α} (h : 0 < l.length) : (l[0] :: l.set 0 y).Perm (y :: l) := by
  cases l with
  | nil => simp at h
  | cons a r => exact List.Perm.swap _ _ _

set_option maxHeartbeats 0 in
theorem heappush_spec (w : World) (hp : Addr) (vs : List Value) (n : Nat) (R : Led) (H : List En) (v : Value) (x : En) (P : Value → En → Prop) (hPr : ∀ v x, P v x → Rd R v (enD x)) (hE : EnsP P vs H) (hI : IsHeap eLt H) (rv : P v x) (hR : ∀ q ∈ R, q.1 ≠ hp) (hz : vs.length < 2 ^ 20) :
    CallOk w 253 [.ref hp, v] ((hp, listOf vs.toArray n) :: R) 4 30 (fun r news' => r = .none ∧ ∃ vs' H', news' = (hp, listOf vs'.toArray (n + 1)) :: R ∧ EnsP P vs' H' ∧ IsHeap eLt H' ∧ H'.Perm (x :: H)) := by
  unfold CallOk
  intro prog pp loose mean mg mb dp un gd cn cs a ccd cl outer A₀ base h₀ L m s Q E B F X N T hk hd hu hret
  refine wpAny_call ?_
  k_dflt ktr_enter
  k_steps
  refine app_nat (by k_asm) (by k_asm) hR hz ?_
  intro h3 F3 N3
  k_steps
  refine len_nat (by k_asm) (by k_mem) (by rw [List.length_append]; simp; omega) ?_
  k_steps
  unfold Held
  have e : (((vs ++ [v]).length : Nat) : Int) - 1 = ((H.length : Nat) : Int) := by rw [List.length_append, hE.1]; simp
  rw [e]
  have hl : H.length < (H ++ [x]).length := by simp
  refine (siftdown_spec w hp (vs ++ [v]) (n + 1) R H.length _ _ (H ++ [x]) P hPr (hE.append rv) hl (SdInv.leaf (HeapBut.append hI x) (by simp; omega)) hR (by simp; omega)).use (by k_asm) (by k_asm) (by k_asm) (by k_asm) (by k_asm) rfl (by ktr_room) (by ktr_units) ?_
  rintro r news' h6 tk6 F6 N6 ⟨rfl, vs6, H6, rfl, hE6, hI6, hP6⟩
  k_steps
  exact hret _ _ _ _ (by k_asm) (by k_asm) ⟨rfl, _, _, rfl, hE6, hI6, hP6.trans (List.perm_append_singleton x H)⟩
set_option maxHeartbeats 0 in
theorem heappop_spec (w : World) (hp : Addr) (vs : List Value) (n : Nat) (R : Led) (H : List En) (P : Value → En → Prop) (hPr : ∀ v x, P v x → Rd R v (enD x)) (hE : EnsP P vs H) (hI : IsHeap eLt H) (h1 : 1 < H.length) (hR : ∀ q ∈ R, q.1 ≠ hp) (hz : vs.length < 2 ^ 20) :
    CallOk w 260 [.ref hp] ((hp, listOf vs.toArray n) :: R) 6 40 (fun r news' => ∃ vs' H', news' = (hp, listOf vs'.toArray (n + 1)) :: R ∧ EnsP P vs' H' ∧ IsHeap eLt H' ∧ (H[0] :: H').Perm H) := by
  unfold CallOk
  intro prog pp loose mean mg mb dp un gd cn cs a ccd cl outer A₀ base h₀ L m s Q E B F X N T hk hd hu hret
  refine wpAny_call ?_
  k_dflt ktr_enter
  k_steps
  obtain ⟨us, v, G, x, rfl, rfl, hE1, rv⟩ := hE.split (by omega)
  have hG : 0 < G.length := by simp at h1; omega
  have hu1 : us.length < 2 ^ 20 := by simp at hz; omega
  refine pop_nat (by k_asm) (by k_asm) hR hu1 ?_
  intro h3 F3 N3
  k_steps
  · exfalso
    rename (us.isEmpty = true) => hem
    have := hE1.1
    rw [List.isEmpty_iff.mp hem] at this
    simp at this
    omega
  obtain ⟨v0, hv0, rv0⟩ := hE1.get 0 hG
  refine item_nat (by k_asm) (by k_mem) rfl hv0 (by omega) ?_
  k_steps
  refine set_nat (p := 0) (by k_asm) (by k_asm) hR rfl (by rw [hE1.1]; exact hG) (by omega) ?_
  intro h5 F5 N5
  k_steps
  unfold Held
  refine (siftup_spec w hp (us.set 0 v) (n + 1) R _ (G.set 0 x) P hPr (hE1.set 0 rv) (by rw [List.length_set]; exact hG) (HeapBut.top hI.init x) hR (by rw [List.length_set]; omega)).use (by k_asm) (by k_asm) (by k_asm) (by k_asm) (by k_asm) rfl (by ktr_room) (by ktr_units) ?_
  rintro r news' h6 tk6 F6 N6 ⟨rfl, vs6, H6, rfl, hE6, hI6, hP6⟩
  k_steps
  refine hret _ _ _ _ (by k_asm) (by k_asm) ⟨_, _, rfl, hE6, hI6, ?_⟩
  have e0 : (G ++ [x])[0]'(by simp) = G[0] := List.getElem_append_left hG
  rw [e0]
  exact ((hP6.cons _).trans (perm_top hG)).trans (List.perm_append_singleton x G).symm
set_option maxHeartbeats 0 in
theorem heapreplace_spec (w : World) (hp : Addr) (vs : List Value) (n : Nat) (R : Led) (H : List En) (v : Value) (x : En) (P : Value → En → Prop) (hPr : ∀ v x, P v x → Rd R v (enD x)) (hE : EnsP P vs H) (hI : IsHeap eLt H) (rv : P v x) (h0 : 0 < H.length) (hR : ∀ q ∈ R, q.1 ≠ hp) (hz : vs.length < 2 ^ 20) :
    CallOk w 267 [.ref hp, v] ((hp, listOf vs.toArray n) :: R) 6 40 (fun r news' => ∃ vs' H', news' = (hp, listOf vs'.toArray n) :: R ∧ EnsP P vs' H' ∧ IsHeap eLt H' ∧ (H[0] :: H').Perm (x :: H)) := by
  unfold CallOk
  intro prog pp loose mean mg mb dp un gd cn cs a ccd cl outer A₀ base h₀ L m s Q E B F X N T hk hd hu hret
  refine wpAny_call ?_
  k_dflt ktr_enter
  k_steps
  obtain ⟨v0, hv0, rv0⟩ := hE.get 0 h0
  refine item_nat (by k_asm) (by k_mem) rfl hv0 (by omega) ?_
  k_steps
  refine set_nat (p := 0) (by k_asm) (by k_asm) hR rfl (by rw [hE.1]; exact h0) (by omega) ?_
  intro h5 F5 N5
  k_steps
  unfold Held
  refine (siftup_spec w hp (vs.set 0 v) n R _ (H.set 0 x) P hPr (hE.set 0 rv) (by rw [List.length_set]; exact h0) (HeapBut.top hI x) hR (by rw [List.length_set]; omega)).use (by k_asm) (by k_asm) (by k_asm) (by k_asm) (by k_asm) rfl (by ktr_room) (by ktr_units) ?_
  rintro r news' h6 tk6 F6 N6 ⟨rfl, vs6, H6, rfl, hE6, hI6, hP6⟩
  k_steps
  exact hret _ _ _ _ (by k_asm) (by k_asm) ⟨_, _, rfl, hE6, hI6, (hP6.cons _).trans (perm_top h0)⟩
end Mine
end
section
open PySem PySem.W PyProof.Rows PySem.Spec PySem.Calls
set_option maxRecDepth 100000
namespace Mine
theorem filledLr : PySem.Challenge.rw_nq0313_01.prog = PySem.Challenge.rw_nq0313_01.prog ∧ K = K := by
  k_fill
  exact ⟨rfl, rfl⟩
local macro_rules | `(tactic| walk_at "none 0") => `(tactic| skip)
local macro_rules
  | `(tactic| walk_at "exec While Compare cons nil") => `(tactic| refine hold ?_)
  | `(tactic| walk_at "call ref") => `(tactic| refine hold ?_)
  | `(tactic| walk_at "exec For Tuple Call") => `(tactic| refine hold ?_)
  | `(tactic| walk_at "KswEnd") => `(tactic| refine hold ?_)

noncomputable abbrev rowsLd (lr la lb D : Addr) (ws : List Value) (news : Led) (c : List Value × List Value × Nat × Nat) : Led :=
  (lr, listOf #[.ref la, .ref lb] 0) :: (lb, listOf c.2.1.toArray c.2.2.2) :: (la, listOf c.1.toArray c.2.2.1) :: (D, listOf ws.toArray 0) :: news
noncomputable abbrev rowsP (i : Nat) (c : List Value × List Value × Nat × Nat) : Prop := (∃ xs, IntsAre c.1 xs) ∧ (∃ ys, IntsAre c.2.1 ys) ∧ c.1.length ≤ i ∧ c.2.1.length ≤ i
section
variable {h₀ : Heap} {L : Addr} {s : Shared} {h' : Heap} {tk : Nat} {m' m₀ : Str → Option Value} {lr la lb D e it : Addr} {as bs ws : List Value} {n1 n2 : Nat} {news : Led} {oe o : Obj} {y : Int} {ty : Tok} {xs ys : List Int} {i : Nat} {stored : List Str}
theorem rows_ne {c c' : List Value × List Value × Nat × Nat} (hne4 : ∀ p ∈ rowsLd lr la lb D ws news c, p.1 ≠ e ∧ p.1 ≠ it) : ∀ p ∈ rowsLd lr la lb D ws news c', ∀ q ∈ [(e, oe), (it, o)], p.1 ≠ q.1 := by
  intro p hp q hq
  have hpp : p.1 ≠ e ∧ p.1 ≠ it := by
    simp only [List.mem_cons] at hp
    rcases hp with rfl | rfl | rfl | rfl | hp
    · exact hne4 (lr, _) (by k_mem)
    · exact hne4 (lb, listOf c.2.1.toArray c.2.2.2) (by k_mem)
    · exact hne4 (la, listOf c.1.toArray c.2.2.1) (by k_mem)
    · exact hne4 (D, _) (by k_mem)
    · exact hne4 _ (by simp only [List.mem_cons]; simp [hp])
  simp only [List.mem_cons, List.not_mem_nil, or_false] at hq
  rcases hq with rfl | rfl
  · exact hpp.1
  · exact hpp.2
theorem rows_endA (F : Fr h₀ L h' m') (N : News h₀ L h' ((la, listOf (as ++ [Value.int y ty]).toArray (n1 + 1)) :: (e, oe) :: (it, o) :: (lr, listOf #[.ref la, .ref lb] 0) :: (lb, listOf bs.toArray n2) :: (D, listOf ws.toArray 0) :: news))
    (hne4 : ∀ p ∈ rowsLd lr la lb D ws news (as, bs, n1, n2), p.1 ≠ e ∧ p.1 ≠ it) (hx : IntsAre as xs) (hy : IntsAre bs ys) (h1 : as.length ≤ i) (h2 : bs.length ≤ i) (hm : ∀ z, stored.contains z = false → m' z = m₀ z) :
    FEnd h₀ L s (rowsLd lr la lb D ws news) (fun _ => []) stored m₀ (rowsP (i + 1)) [(e, oe), (it, o)] { s with heap := h', toks := tk } := by
  refine ⟨(as ++ [Value.int y ty], bs, n1 + 1, n2), h', tk, m', _, rfl, F, N, ?_, ?_, rows_ne hne4, (fun _ hq => nomatch hq), fun z _ hz => hm z hz, ⟨_, hx.append (IntsAre.cons _ _ .nil)⟩, ⟨_, hy⟩, by simp; omega, by simp; omega⟩
  · intro q hq
    simp only [List.mem_cons, List.not_mem_nil, or_false] at hq ⊢
    rcases hq with hq | hq <;> simp only [hq, true_or, or_true]
  · intro q hq
    simp only [List.mem_cons] at hq ⊢
    rcases hq with hq | hq | hq | hq | hq <;> simp only [hq, true_or, or_true]
theorem rows_endB (F : Fr h₀ L h' m') (N : News h₀ L h' ((lb, listOf (bs ++ [Value.int y ty]).toArray (n2 + 1)) :: (e, oe) :: (it, o) :: (lr, listOf #[.ref la, .ref lb] 0) :: (la, listOf as.toArray n1) :: (D, listOf ws.toArray 0) :: news))
    (hne4 : ∀ p ∈ rowsLd lr la lb D ws news (as, bs, n1, n2), p.1 ≠ e ∧ p.1 ≠ it) (hx : IntsAre as xs) (hy : IntsAre bs ys) (h1 : as.length ≤ i) (h2 : bs.length ≤ i) (hm : ∀ z, stored.contains z = false → m' z = m₀ z) :
    FEnd h₀ L s (rowsLd lr la lb D ws news) (fun _ => []) stored m₀ (rowsP (i + 1)) [(e, oe), (it, o)] { s with heap := h', toks := tk } := by
  refine ⟨(as, bs ++ [Value.int y ty], n1, n2 + 1), h', tk, m', _, rfl, F, N, ?_, ?_, rows_ne hne4, (fun _ hq => nomatch hq), fun z _ hz => hm z hz, ⟨_, hx⟩, ⟨_, hy.append (IntsAre.cons _ _ .nil)⟩, by simp; omega, by simp; omega⟩
  · intro q hq
    simp only [List.mem_cons, List.not_mem_nil, or_false] at hq ⊢
    rcases hq with hq | hq <;> simp only [hq, true_or, or_true]
  · intro q hq
    simp only [List.mem_cons] at hq ⊢
    rcases hq with hq | hq | hq | hq | hq <;> simp only [hq, true_or, or_true]
end

set_option maxHeartbeats 0 in
theorem law_rows_spec (w : World) (news : Led) (l : Addr) (svs : List Value) (ns : List Int) (hi : IntsAre svs ns) (hz : ns.length ≤ 63) :
  ∀ (prog p : Program) (loose : List Str) (mean : ExcName → Option Value) (mg mb : Str → Option Value) (dp un : Nat) (gd : Option (List Code)) (cn : Str) (cs : Scope) (a : Addr) (ccd : Value) (cl : List (Str × Addr)) (outer : List Env) (A₀ : Around) (base h₀ : Heap) (L : Addr) (m : Str → Option Value) (s : Shared)
    (Q E : Value → Shared → Prop), base.IsList l svs.toArray →
    Below A₀ base outer h₀ → Fr h₀ L s.heap m → (K w.params).In h₀ → News h₀ L s.heap news → Top p loose mean mg mb h₀ → cs.kind = .function → dp + 2 < recursionLimit → un + 20 < cLine →
    (∀ r a b as bs xs ys n1 n2 n3 h' tk', Fr h₀ L h' m → News h₀ L h' ((r, listOf #[.ref a, .ref b] n3) :: (a, listOf as n1) :: (b, listOf bs n2) :: news) → IntsAre as.toList xs → IntsAre bs.toList ys → xs.length ≤ 70 → ys.length ≤ 70 → (∀ p ∈ news, p.1 < a) → a < b → b < r → Q (.ref r) { s with heap := h', toks := tk' }) →
    wpAny (model prog w) (ktrTop dp un gd cn cs L a ccd cl outer) (call (.ref 288) [.ref l]) Q E s := by
  intro prog pp loose mean mg mb dp un gd cn cs a ccd cl outer A₀ base h₀ L m s Q E hl B F X N T hk hd hu hret
  refine wpAny_call ?_
  k_dflt ktr_enter
  rename Below _ _ _ _ => B9
  k_lift B9
  k_steps
  all_goals
    unfold Held
    refine wpAny_For ?_
    k_steps
    refine enum_call (by k_asm) (by k_asm) (by k_mem) ?_
    intro e it oi h3 F3 N3 hoi hlt3 hlt4
    refine wpAny_pyIter_enum (N3 _ (.head _)).1 ?_
  · rename_i D ws hq5 hI lq3 hq4 tq la hq3 lq2 lb hq2 lq1 lr hq1 lq0 hq0 Fq Nq
    have hms : ([0, 1, 1, 0, 0] ++ ns : List Int).length ≤ 70 := by rw [List.length_append]; simp; omega
    generalize ([0, 1, 1, 0, 0] ++ ns : List Int) = ms at hI hms
    have hAll : ∀ z : Addr, AllLt z news → ∀ q ∈ news, q.1 < z := fun z hz => ktn_ltOf hz
    have hRa : ∀ (oe o ob : Obj), ∀ q ∈ ((e, oe) :: (it, o) :: (lr, listOf #[.ref la, .ref lb] 0) :: (lb, ob) :: (D, listOf ws.toArray 0) :: news : Led), q.1 ≠ la := by
      intro oe o ob q hq
      have h1 : la < it := hlt3 (la, _) (by k_mem)
      simp only [List.mem_cons] at hq
      rcases hq with rfl | rfl | rfl | rfl | rfl | hq
      · exact Nat.ne_of_gt (Nat.lt_trans h1 hlt4)
      · exact Nat.ne_of_gt h1
      · exact Nat.ne_of_gt lq0.2.1
      · exact Nat.ne_of_gt lq1.1
      · exact Nat.ne_of_lt lq2.1
      · exact Nat.ne_of_lt (hAll la lq2.2.2.2 q hq)
    have hRb : ∀ (oe o ob : Obj), ∀ q ∈ ((e, oe) :: (it, o) :: (lr, listOf #[.ref la, .ref lb] 0) :: (la, ob) :: (D, listOf ws.toArray 0) :: news : Led), q.1 ≠ lb := by
      intro oe o ob q hq
      have h1 : lb < it := hlt3 (lb, _) (by k_mem)
      simp only [List.mem_cons] at hq
      rcases hq with rfl | rfl | rfl | rfl | rfl | hq
      · exact Nat.ne_of_gt (Nat.lt_trans h1 hlt4)
      · exact Nat.ne_of_gt h1
      · exact Nat.ne_of_gt lq0.1
      · exact Nat.ne_of_lt lq1.1
      · exact Nat.ne_of_lt lq1.2.1
      · exact Nat.ne_of_lt (hAll lb lq1.2.2.2.2 q hq)
    refine for_enum (σ := List Value × List Value × Nat × Nat) (it := it) (l := D) (vs := ws) (rowsLd lr la lb D ws news) (fun _ => []) [Str.ofString "k", Str.ofString "x"]
      rowsP ([], [], 0, 0) oi rfl rfl rfl rfl ?_ ?_ ?_ F3 ?_ hoi ?_ ?_ ?_ ?_ ?_ ?_
    · exact Nat.ne_of_gt hlt4
    · exact Nat.ne_of_lt (Nat.lt_trans (hlt3 (D, _) (by k_mem)) hlt4)
    · exact Nat.ne_of_lt (hlt3 (D, _) (by k_mem))
    · intro q hq
      simp only [List.mem_cons] at hq
      rcases hq with rfl | rfl | rfl | rfl | rfl | rfl | hq
      · exact N3 _ (by k_mem)
      · exact N3 _ (by k_mem)
      · exact N3 _ (by k_mem)
      · exact N3 _ (by k_mem)
      · exact N3 _ (by k_mem)
      · exact N3 _ (by k_mem)
      · exact N3 _ (by simp only [List.mem_cons]; simp [hq])
    · intro q hq
      have : q.1 < it := by
        simp only [List.mem_cons] at hq
        rcases hq with rfl | rfl | rfl | rfl | hq
        · exact hlt3 (lr, _) (by k_mem)
        · exact hlt3 (lb, _) (by k_mem)
        · exact hlt3 (la, _) (by k_mem)
        · exact hlt3 (D, _) (by k_mem)
        · exact hlt3 _ (by simp only [List.mem_cons]; simp [hq])
      exact ⟨Nat.ne_of_lt (Nat.lt_trans this hlt4), Nat.ne_of_lt this⟩
    · intro q hq; cases hq
    · exact ⟨⟨[], .nil⟩, ⟨[], .nil⟩, Nat.le_refl _, Nat.le_refl _⟩
    · intro c h N4 _
      exact PySem.IsL.isList (n := 0) (N4 (D, _) (by k_mem)).1
    · rintro i v t ⟨as, bs, n1, n2⟩ u h tk oe o hv ⟨⟨xs, hx⟩, ⟨ys, hy⟩, hl1, hl2⟩ hne4 F4 N4
      have hil : i < ws.length := by
        rcases Nat.lt_or_ge i ws.length with q | q
        · exact q
        · rw [List.getElem?_eq_none q] at hv; cases hv
      have hwl : ws.length = ms.length := hI.length
      obtain ⟨x, tx, rfl, hxi⟩ := hI.at i v hv
      dsimp only at hx hy hl1 hl2 hne4 F4 N4 ⊢
      have hk4 : 0 ≤ (List.take 14 ns).sum.fmod 4 := by rw [Int.fmod_eq_emod_of_nonneg _ (by omega)]; omega
      have hpar : ((i : Nat) : Int).fmod 2 = 0 ∨ ((i : Nat) : Int).fmod 2 = 1 := by
        rw [Int.fmod_eq_emod_of_nonneg _ (by omega)]; omega
      k_steps
      rcases hpar with hpar | hpar
      · rw [hpar]
        refine item_nat (p := 0) (vs := [.ref la, .ref lb]) (by k_asm) (by k_mem) rfl rfl (by simp) ?_
        k_steps
        all_goals first
          | (exfalso; omega)
          | skip
        all_goals
          rename News _ _ _ _ => N5
          have N6 : News _ _ _ ((la, listOf as.toArray n1) :: (e, oe) :: (it, o) :: (lr, listOf #[.ref la, .ref lb] 0) :: (lb, listOf bs.toArray n2) :: (D, listOf ws.toArray 0) :: news) := fun q hq => N5 q (by
            simp only [List.mem_cons] at hq ⊢
            rcases hq with hq | hq | hq | hq | hq | hq | hq <;> simp only [hq, true_or, or_true])
          refine app_nat (by k_asm) N6 (hRa oe o _) (by omega) ?_
          intro h7 F7 N7
          k_steps
          refine rows_endA (by k_asm) (by k_asm) hne4 hx hy hl1 hl2 ?_
          intro z z2
          repeat (refine skip_if (fun e => absurd z2 (by rw [e]; (try dsimp only); decide)) ?_)
          exact if_neg (by rw [z2]; exact Bool.false_ne_true)
      · rw [hpar]
        refine item_nat (p := 1) (vs := [.ref la, .ref lb]) (by k_asm) (by k_mem) rfl rfl (by simp) ?_
        k_steps
        all_goals first
          | (exfalso; omega)
          | skip
        all_goals
          rename News _ _ _ _ => N5
          have N6 : News _ _ _ ((lb, listOf bs.toArray n2) :: (e, oe) :: (it, o) :: (lr, listOf #[.ref la, .ref lb] 0) :: (la, listOf as.toArray n1) :: (D, listOf ws.toArray 0) :: news) := fun q hq => N5 q (by
            simp only [List.mem_cons] at hq ⊢
            rcases hq with hq | hq | hq | hq | hq | hq | hq <;> simp only [hq, true_or, or_true])
          refine app_nat (by k_asm) N6 (hRb oe o _) (by omega) ?_
          intro h7 F7 N7
          k_steps
          refine rows_endB (by k_asm) (by k_asm) hne4 hx hy hl1 hl2 ?_
          intro z z2
          repeat (refine skip_if (fun e => absurd z2 (by rw [e]; (try dsimp only); decide)) ?_)
          exact if_neg (by rw [z2]; exact Bool.false_ne_true)
    · rintro ⟨as, bs, n1, n2⟩ u h tk ⟨⟨xs, hx⟩, ⟨ys, hy⟩, hl1, hl2⟩ F4 N4
      dsimp only at hx hy hl1 hl2 F4 N4 ⊢
      k_steps
      refine hret lr la lb as.toArray bs.toArray xs ys n1 n2 0 _ _ (by k_asm) ?_ (by simpa using hx) (by simpa using hy) ?_ ?_ (hAll la lq2.2.2.2) lq1.1 lq0.1
      · rename News _ _ _ _ => N8
        intro q hq
        refine N8 q ?_
        simp only [List.mem_cons] at hq ⊢
        rcases hq with hq | hq | hq | hq <;> simp only [hq, true_or, or_true]
      · have h1 := hI.length
        have h2 := hx.length
        omega
      · have h1 := hI.length
        have h2 := hy.length
        omega
  · rename_i D ws hq5 hI hC hL lq3 hq4 tq la hq3 lq2 lb hq2 lq1 lr hq1 lq0 hq0 Fq Nq
    obtain ⟨ms, hIms, hms⟩ : ∃ ms, IntsAre ws ms ∧ ms.length ≤ 70 := ⟨_, hI, by omega⟩
    replace hI := hIms
    have hAll : ∀ z : Addr, AllLt z news → ∀ q ∈ news, q.1 < z := fun z hz => ktn_ltOf hz
    have hRa : ∀ (oe o ob : Obj), ∀ q ∈ ((e, oe) :: (it, o) :: (lr, listOf #[.ref la, .ref lb] 0) :: (lb, ob) :: (D, listOf ws.toArray 0) :: news : Led), q.1 ≠ la := by
      intro oe o ob q hq
      have h1 : la < it := hlt3 (la, _) (by k_mem)
      simp only [List.mem_cons] at hq
      rcases hq with rfl | rfl | rfl | rfl | rfl | hq
      · exact Nat.ne_of_gt (Nat.lt_trans h1 hlt4)
      · exact Nat.ne_of_gt h1
      · exact Nat.ne_of_gt lq0.2.1
      · exact Nat.ne_of_gt lq1.1
      · exact Nat.ne_of_lt lq2.1
      · exact Nat.ne_of_lt (hAll la lq2.2.2 q hq)
    have hRb : ∀ (oe o ob : Obj), ∀ q ∈ ((e, oe) :: (it, o) :: (lr, listOf #[.ref la, .ref lb] 0) :: (la, ob) :: (D, listOf ws.toArray 0) :: news : Led), q.1 ≠ lb := by
      intro oe o ob q hq
      have h1 : lb < it := hlt3 (lb, _) (by k_mem)
      simp only [List.mem_cons] at hq
      rcases hq with rfl | rfl | rfl | rfl | rfl | hq
      · exact Nat.ne_of_gt (Nat.lt_trans h1 hlt4)
      · exact Nat.ne_of_gt h1
      · exact Nat.ne_of_gt lq0.1
      · exact Nat.ne_of_lt lq1.1
      · exact Nat.ne_of_lt lq1.2.1
      · exact Nat.ne_of_lt (hAll lb lq1.2.2.2 q hq)
    refine for_enum (σ := List Value × List Value × Nat × Nat) (it := it) (l := D) (vs := ws) (rowsLd lr la lb D ws news) (fun _ => []) [Str.ofString "k", Str.ofString "x"]
      rowsP ([], [], 0, 0) oi rfl rfl rfl rfl ?_ ?_ ?_ F3 ?_ hoi ?_ ?_ ?_ ?_ ?_ ?_
    · exact Nat.ne_of_gt hlt4
    · exact Nat.ne_of_lt (Nat.lt_trans (hlt3 (D, _) (by k_mem)) hlt4)
    · exact Nat.ne_of_lt (hlt3 (D, _) (by k_mem))
    · intro q hq
      simp only [List.mem_cons] at hq
      rcases hq with rfl | rfl | rfl | rfl | rfl | rfl | hq
      · exact N3 _ (by k_mem)
      · exact N3 _ (by k_mem)
      · exact N3 _ (by k_mem)
      · exact N3 _ (by k_mem)
      · exact N3 _ (by k_mem)
      · exact N3 _ (by k_mem)
      · exact N3 _ (by simp only [List.mem_cons]; simp [hq])
    · intro q hq
      have : q.1 < it := by
        simp only [List.mem_cons] at hq
        rcases hq with rfl | rfl | rfl | rfl | hq
        · exact hlt3 (lr, _) (by k_mem)
        · exact hlt3 (lb, _) (by k_mem)
        · exact hlt3 (la, _) (by k_mem)
        · exact hlt3 (D, _) (by k_mem)
        · exact hlt3 _ (by simp only [List.mem_cons]; simp [hq])
      exact ⟨Nat.ne_of_lt (Nat.lt_trans this hlt4), Nat.ne_of_lt this⟩
    · intro q hq; cases hq
    · exact ⟨⟨[], .nil⟩, ⟨[], .nil⟩, Nat.le_refl _, Nat.le_refl _⟩
    · intro c h N4 _
      exact PySem.IsL.isList (n := 0) (N4 (D, _) (by k_mem)).1
    · rintro i v t ⟨as, bs, n1, n2⟩ u h tk oe o hv ⟨⟨xs, hx⟩, ⟨ys, hy⟩, hl1, hl2⟩ hne4 F4 N4
      have hil : i < ws.length := by
        rcases Nat.lt_or_ge i ws.length with q | q
        · exact q
        · rw [List.getElem?_eq_none q] at hv; cases hv
      have hwl : ws.length = ms.length := hI.length
      obtain ⟨x, tx, rfl, hxi⟩ := hI.at i v hv
      dsimp only at hx hy hl1 hl2 hne4 F4 N4 ⊢
      have hk4 : 0 ≤ (List.take 14 ns).sum.fmod 4 := by rw [Int.fmod_eq_emod_of_nonneg _ (by omega)]; omega
      have hpar : ((i : Nat) : Int).fmod 2 = 0 ∨ ((i : Nat) : Int).fmod 2 = 1 := by
        rw [Int.fmod_eq_emod_of_nonneg _ (by omega)]; omega
      k_steps
      rcases hpar with hpar | hpar
      · rw [hpar]
        refine item_nat (p := 0) (vs := [.ref la, .ref lb]) (by k_asm) (by k_mem) rfl rfl (by simp) ?_
        k_steps
        all_goals first
          | (exfalso; omega)
          | skip
        all_goals
          rename News _ _ _ _ => N5
          have N6 : News _ _ _ ((la, listOf as.toArray n1) :: (e, oe) :: (it, o) :: (lr, listOf #[.ref la, .ref lb] 0) :: (lb, listOf bs.toArray n2) :: (D, listOf ws.toArray 0) :: news) := fun q hq => N5 q (by
            simp only [List.mem_cons] at hq ⊢
            rcases hq with hq | hq | hq | hq | hq | hq | hq <;> simp only [hq, true_or, or_true])
          refine app_nat (by k_asm) N6 (hRa oe o _) (by omega) ?_
          intro h7 F7 N7
          k_steps
          refine rows_endA (by k_asm) (by k_asm) hne4 hx hy hl1 hl2 ?_
          intro z z2
          repeat (refine skip_if (fun e => absurd z2 (by rw [e]; (try dsimp only); decide)) ?_)
          exact if_neg (by rw [z2]; exact Bool.false_ne_true)
      · rw [hpar]
        refine item_nat (p := 1) (vs := [.ref la, .ref lb]) (by k_asm) (by k_mem) rfl rfl (by simp) ?_
        k_steps
        all_goals first
          | (exfalso; omega)
          | skip
        all_goals
          rename News _ _ _ _ => N5
          have N6 : News _ _ _ ((lb, listOf bs.toArray n2) :: (e, oe) :: (it, o) :: (lr, listOf #[.ref la, .ref lb] 0) :: (la, listOf as.toArray n1) :: (D, listOf ws.toArray 0) :: news) := fun q hq => N5 q (by
            simp only [List.mem_cons] at hq ⊢
            rcases hq with hq | hq | hq | hq | hq | hq | hq <;> simp only [hq, true_or, or_true])
          refine app_nat (by k_asm) N6 (hRb oe o _) (by omega) ?_
          intro h7 F7 N7
          k_steps
          refine rows_endB (by k_asm) (by k_asm) hne4 hx hy hl1 hl2 ?_
          intro z z2
          repeat (refine skip_if (fun e => absurd z2 (by rw [e]; (try dsimp only); decide)) ?_)
          exact if_neg (by rw [z2]; exact Bool.false_ne_true)
    · rintro ⟨as, bs, n1, n2⟩ u h tk ⟨⟨xs, hx⟩, ⟨ys, hy⟩, hl1, hl2⟩ F4 N4
      dsimp only at hx hy hl1 hl2 F4 N4 ⊢
      k_steps
      refine hret lr la lb as.toArray bs.toArray xs ys n1 n2 0 _ _ (by k_asm) ?_ (by simpa using hx) (by simpa using hy) ?_ ?_ (hAll la lq2.2.2) lq1.1 lq0.1
      · rename News _ _ _ _ => N8
        intro q hq
        refine N8 q ?_
        simp only [List.mem_cons] at hq ⊢
        rcases hq with hq | hq | hq | hq <;> simp only [hq, true_or, or_true]
      · have h1 := hI.length
        have h2 := hx.length
        omega
      · have h1 := hI.length
        have h2 := hy.length
        omega
end Mine
end
section
open PySem PySem.W PyProof.Rows PySem.Spec PySem.Calls
set_option maxRecDepth 100000
namespace Mine
noncomputable abbrev GrS := Led × List Value × Nat
noncomputable abbrev hrLd (hr : Addr) (B : Led) (c : GrS) : Led := (hr, listOf c.2.1.toArray c.2.2) :: (B ++ c.1)
noncomputable def WaysIs (G : Led) (vs : List Value) (ws : List Way) : Prop := vs.length = ws.length ∧ ∀ (i : Nat) v x, vs[i]? = some v → ws[i]? = some x → WayIs G v x
theorem WaysIs.nil {G : Led} : WaysIs G [] [] := ⟨rfl, fun _ _ _ h => by simp at h⟩
theorem WaysIs.mono {G G' : Led} {vs : List Value} {ws : List Way} (h : WaysIs G vs ws) (s : ∀ p ∈ G, p ∈ G') : WaysIs G' vs ws := ⟨h.1, fun i v x h1 h2 => (h.2 i v x h1 h2).mono s⟩
theorem WaysIs.snoc {G : Led} {vs : List Value} {ws : List Way} {v : Value} {x : Way} (h : WaysIs G vs ws) (hv : WayIs G v x) : WaysIs G (vs ++ [v]) (ws ++ [x]) := by
  refine ⟨by simp [h.1], fun i w y h1 h2 => ?_⟩
  rcases Nat.lt_trichotomy i vs.length with q | q | q
  · rw [List.getElem?_append_left q] at h1
    rw [List.getElem?_append_left (by rw [← h.1]; exact q)] at h2
    exact h.2 i w y h1 h2
  · subst q
    rw [List.getElem?_concat_length] at h1
    rw [h.1, List.getElem?_concat_length] at h2
    cases h1; cases h2
    exact hv
  · rw [List.getElem?_eq_none (by rw [List.length_append]; simp; omega)] at h1; cases h1
theorem WaysIs.are {G : Led} {vs : List Value} {ws : List Way} (h : WaysIs G vs ws) : WaysAre G vs ws := ⟨h.1, fun i v x h1 h2 => (h.2 i v x h1 h2).rd⟩
/-- the table so far -/
noncomputable def WayTab (G : Led) (vs : List Value) (W : Nat → Way) (k : Nat) : Prop := vs.length = k ∧ ∀ e v, vs[e]? = some v → WayIs G v (W e)
theorem WayTab.mono {G G' : Led} {vs : List Value} {W : Nat → Way} {k : Nat} (h : WayTab G vs W k) (s : ∀ p ∈ G, p ∈ G') : WayTab G' vs W k := ⟨h.1, fun e v q => (h.2 e v q).mono s⟩
theorem WayTab.snoc {G : Led} {vs : List Value} {W : Nat → Way} {k : Nat} {v : Value} (h : WayTab G vs W k) (hv : WayIs G v (W k)) : WayTab G (vs ++ [v]) W (k + 1) := by
  refine ⟨by simp [h.1], fun e w q => ?_⟩
  rcases Nat.lt_trichotomy e vs.length with r | r | r
  · rw [List.getElem?_append_left r] at q
    exact h.2 e w q
  · subst r
    rw [List.getElem?_concat_length] at q
    cases q
    rw [h.1]; exact hv
  · rw [List.getElem?_eq_none (by rw [List.length_append]; simp; omega)] at q; cases q
section
variable {xs ys : List Int} {fee : Int} {W : Nat → Way} {e b j : Nat} {ws : List Way}
noncomputable def HereSpec (xs ys : List Int) (fee : Int) (W : Nat → Way) (e b : Nat) (ws : List Way) : Prop := (∀ v ∈ ws, ∃ b', b' < b ∧ Cand xs ys fee W e b' v) ∧ ∀ b', b' < b → ∀ v, Cand xs ys fee W e b' v → v ∈ ws
noncomputable def HereMid (xs ys : List Int) (fee : Int) (W : Nat → Way) (e b j : Nat) (ws : List Way) : Prop := (∀ v ∈ ws, ∃ b', b' < b + 1 ∧ Cand xs ys fee W e b' v) ∧ (∀ b', b' < b → ∀ v, Cand xs ys fee W e b' v → v ∈ ws) ∧ (b + 1 = e → oneW xs (W b) b ∈ ws) ∧ ∀ j', j' < j → Whole xs ys b (e - b) j' → cpyW fee (W b) b e j' ∈ ws
theorem HereSpec.start : HereSpec xs ys fee W e 0 [] := ⟨(fun v h => nomatch h), fun b' h => absurd h (Nat.not_lt_zero _)⟩
theorem HereSpec.noOne (h : HereSpec xs ys fee W e b ws) (hb : b + 1 ≠ e) : HereMid xs ys fee W e b 0 ws :=
  ⟨fun v hv => let ⟨b', q, c⟩ := h.1 v hv; ⟨b', by omega, c⟩, h.2, fun q => absurd q hb, fun j' hj => absurd hj (Nat.not_lt_zero _)⟩
theorem HereSpec.one (h : HereSpec xs ys fee W e b ws) (hb : b + 1 = e) : HereMid xs ys fee W e b 0 (ws ++ [oneW xs (W b) b]) := by
  refine ⟨fun v hv => ?_, fun b' q v hv => List.mem_append.mpr (.inl (h.2 b' q v hv)), fun _ => List.mem_append.mpr (.inr (.head _)), fun j' hj => absurd hj (Nat.not_lt_zero _)⟩
  rcases List.mem_append.mp hv with hv | hv
  · obtain ⟨b', q, c⟩ := h.1 v hv
    exact ⟨b', by omega, c⟩
  · obtain rfl := List.mem_singleton.mp hv
    exact ⟨b, by omega, .inl ⟨hb, rfl⟩⟩
theorem HereMid.no (h : HereMid xs ys fee W e b j ws) (hw : ¬ Whole xs ys b (e - b) j) : HereMid xs ys fee W e b (j + 1) ws := by
  refine ⟨h.1, h.2.1, h.2.2.1, fun j' hj hh => ?_⟩
  rcases Nat.lt_or_ge j' j with q | q
  · exact h.2.2.2 j' q hh
  · obtain rfl : j' = j := by omega
    exact absurd hh hw
theorem HereMid.yes (h : HereMid xs ys fee W e b j ws) (hw : Whole xs ys b (e - b) j) : HereMid xs ys fee W e b (j + 1) (ws ++ [cpyW fee (W b) b e j]) := by
  refine ⟨fun v hv => ?_, fun b' q v hv => List.mem_append.mpr (.inl (h.2.1 b' q v hv)), fun q => List.mem_append.mpr (.inl (h.2.2.1 q)), fun j' hj hh => ?_⟩
  · rcases List.mem_append.mp hv with hv | hv
    · exact h.1 v hv
    · obtain rfl := List.mem_singleton.mp hv
      exact ⟨b, by omega, .inr ⟨j, hw, rfl⟩⟩
  · rcases Nat.lt_or_ge j' j with q | q
    · exact List.mem_append.mpr (.inl (h.2.2.2 j' q hh))
    · obtain rfl : j' = j := by omega
      exact List.mem_append.mpr (.inr (.head _))
theorem HereMid.done (h : HereMid xs ys fee W e b j ws) (hj : ys.length + 1 ≤ j + (e - b)) : HereSpec xs ys fee W e (b + 1) ws := by
  refine ⟨h.1, fun b' q v hv => ?_⟩
  rcases Nat.lt_or_ge b' b with r | r
  · exact h.2.1 b' r v hv
  · obtain rfl : b' = b := by omega
    rcases hv with ⟨q1, rfl⟩ | ⟨j', q1, rfl⟩
    · exact h.2.2.1 q1
    · exact h.2.2.2 j' (by have := q1.1; omega) q1
theorem HereSpec.best {n : Nat} {vs : List Value} {v : Value} {G : Led} (hW : Best xs ys fee n W) (he : 0 < e) (hen : e ≤ n) (h : HereSpec xs ys fee W e e ws) (hI : WaysIs G vs ws) (hb : BestIn vs ws vs.length v) : WayIs G v (W e) := by
  obtain ⟨i, x, h1, h2, h3⟩ := hb
  obtain ⟨⟨b, hbl, hc⟩, hl⟩ := hW.2 e he hen
  have hx : x ∈ ws := List.mem_of_getElem? h2
  obtain ⟨b', q1, q2⟩ := h.1 x hx
  have a1 := hl b' q1 x q2
  obtain ⟨k, hk, hke⟩ := List.mem_iff_getElem.mp (h.2 b hbl _ hc)
  have a2 := h3 k (W e) (by rw [hI.1]; exact hk) (by rw [List.getElem?_eq_getElem hk, hke])
  have := wLt_sto.tot a1 a2
  rw [← this]
  exact hI.2 i v x h1 h2
end
section
variable {h₀ : Heap} {L : Addr} {s : Shared} {h' : Heap} {tk : Nat} {m' m₀ : Str → Option Value} {hr it : Addr} {B led G' : Led} {oi : Obj} {hs' : List Value} {hn' : Nat} {stored : List Str} {P : GrS → Prop}
theorem hr_end (F : Fr h₀ L h' m') (N : News h₀ L h' led) (hit : (it, oi) ∈ led) (hhr : (hr, listOf hs'.toArray hn') ∈ led) (hB : ∀ q ∈ B, q ∈ led) (hG : ∀ q ∈ G', q ∈ led) (n1 : hr ≠ it) (n2 : ∀ q ∈ B, q.1 ≠ it) (n3 : ∀ q ∈ G', q.1 ≠ it)
    (hm : ∀ z, stored.contains z = false → m' z = m₀ z) (hP : P (G', hs', hn')) :
    FEnd h₀ L s (hrLd hr B) (fun _ => []) stored m₀ P [(it, oi)] { s with heap := h', toks := tk } := by
  refine ⟨(G', hs', hn'), h', tk, m', led, rfl, F, N, ?_, ?_, ?_, (fun _ hq => nomatch hq), fun z _ hz => hm z hz, hP⟩
  · intro q hq; rcases List.mem_singleton.mp hq with rfl; exact hit
  · intro q hq
    rcases List.mem_cons.mp hq with rfl | hq
    · exact hhr
    rcases List.mem_append.mp hq with hq | hq
    · exact hB q hq
    · exact hG q hq
  · intro p hp q hq
    rcases List.mem_singleton.mp hq with rfl
    rcases List.mem_cons.mp hp with rfl | hp
    · exact n1
    rcases List.mem_append.mp hp with hp | hp
    · exact n2 p hp
    · exact n3 p hp
end
section
variable {prog : Program} {w : World} {A : Around} {E : Value → Shared → Prop} {s : Shared} {h₀ : Heap} {L r : Addr} {m : Str → Option Value} {news : Led} {a b : Int} {t u v : Tok}
theorem range_iter2 {Q : Value → Shared → Prop} (F : Fr h₀ L s.heap m) (N : News h₀ L s.heap news) (hr : IsRange s.heap r a b 1 t u v) (n : Nat) (hab : (n : Int) = if a < b then b - a else 0) (h1 : -1000000 ≤ a) (h2 : b ≤ 1000000) (h3 : a ≤ 1000000) (h4 : -1000000 ≤ b)
    (h : ∀ it h', Fr h₀ L h' m → News h₀ L h' ((it, { cls := .type "range_iterator", data := .fields #[rawInt (a + ((0 : Nat) : Int)), rawInt ((n : Int) - ((0 : Nat) : Int)), rawInt 1] }) :: news) → (∀ p ∈ news, p.1 < it) → Q (.ref it) { s with heap := h' }) :
    wpAny (model prog w) A (pyIter (.ref r)) Q E s := by
  refine wpAny_pyIter_range hr (small_one (by omega) (by omega) (by omega) (by omega)) ?_
  have e : Builtin.Range.rangeSize a b 1 = (n : Int) - ((0 : Nat) : Int) := by
    rw [rangeSize_one, ← hab]
    simp
  rw [e]
  have e2 : a = a + ((0 : Nat) : Int) := by omega
  have z := h s.heap.objs.size _ (F.push _) (News.push F N { cls := .type "range_iterator", data := .fields #[rawInt (a + ((0 : Nat) : Int)), rawInt ((n : Int) - ((0 : Nat) : Int)), rawInt 1] }) fun p hp => Heap.lt_size (N p hp).1
  rw [← e2] at z
  exact z
theorem assign_led {env : Env} {elts : List PySem.Expr} {k : Nat} {pos : Pos} {x : Addr} {vs : List Value} {Q : Unit → Shared → Prop} (F : Fr h₀ L s.heap m) (N : News h₀ L s.heap news) (hm : (x, tupO vs) ∈ news) (hh : A.handled = none) (hn : (assignEach elts env).length = vs.length) (hstar : (assignEach elts env).findIdx? (·.1) = none)
    (h : ∀ h', Fr h₀ L h' m → News h₀ L h' news → wpAny (model prog w) A (assignInOrder ((assignEach elts env).map (·.2)) vs) Q E { s with heap := h' }) : wpAny (model prog w) A (assign (.Tuple elts k pos) env (.ref x)) Q E s :=
  unpackN_ F N (tup_of N hm) hh (by simpa using hn) hstar (by simpa using h)
end
theorem tri_is {G : Led} {a : Addr} {t : Tri} {x y z : Int} {i j k : Tok} (h : (a, tupO [.int x i, .int y j, .int z k]) ∈ G) (e1 : x = t.1) (e2 : y = t.2.1) (e3 : z = t.2.2) : TriIs G (.ref a) t := by
  subst e1 e2 e3
  exact ⟨a, i, j, k, rfl, h⟩
theorem way_is {G : Led} {a : Addr} {x : Way} {c : Int} {t : Tok} {p : Value} (h : (a, tupO [.int c t, p]) ∈ G) (e : c = x.1) (hp : PcsIs G p x.2) : WayIs G (.ref a) x := by
  subst e
  exact ⟨a, t, p, rfl, h, hp⟩
theorem en_is {G : Led} {a : Addr} {x : En} {c e : Int} {t u : Tok} {p : Value} (h : (a, tupO [.int c t, p, .int e u]) ∈ G) (e1 : c = x.1) (e2 : e = x.2.2) (hp : PcsIs G p x.2.1) : EnIs G (.ref a) x := by
  subst e1 e2
  exact ⟨a, t, p, u, rfl, h, hp⟩
theorem best_len {xs ys : List Int} {fee : Int} {n : Nat} {W : Nat → Way} (hW : Best xs ys fee n W) : ∀ e, e ≤ n → (W e).2.length ≤ e := by
  intro e
  induction e using Nat.strongRecOn with
  | ind e ih =>
    intro he
    rcases Nat.eq_zero_or_pos e with rfl | h0
    · rw [hW.1]; exact Nat.le_refl _
    · obtain ⟨⟨b, hb, hc⟩, _⟩ := hW.2 e h0 he
      have := ih b hb (by omega)
      rcases hc with ⟨_, q⟩ | ⟨j, _, q⟩
      · rw [q]; simp [oneW]; omega
      · rw [q]; simp [cpyW]; omega
section
variable {prog : Program} {w : World} {A : Around} {E : Value → Shared → Prop} {s : Shared} {h₀ : Heap} {L : Addr} {m : Str → Option Value} {news : Led}
theorem app_led {R0 : Led} {a : Addr} {vs : List Value} {n : Nat} {v : Value} {Q : Value → Shared → Prop} (F : Fr h₀ L s.heap m) (N : News h₀ L s.heap news) (hm : (a, listOf vs.toArray n) ∈ news) (hR : ∀ q ∈ R0, q ∈ news ∧ q.1 ≠ a) (hz : vs.length < 2 ^ 20)
    (h : ∀ h', Fr h₀ L h' m → News h₀ L h' ((a, listOf (vs ++ [v]).toArray (n + 1)) :: R0) → Q .none { s with heap := h' }) : wpAny (model prog w) A (call (.builtin "list.append") [.ref a, v]) Q E s := by
  refine app_nat F (R := R0) (fun q hq => ?_) (fun q hq => (hR q hq).2) hz h
  rcases List.mem_cons.mp hq with rfl | hq
  · exact N _ hm
  · exact N q (hR q hq).1
theorem slice_nat {value slice : PySem.Expr} {l : Addr} {vs : List Value} {n lo hi : Nat} {ns : List Int} {x y : Int} {t u : Tok} {Q : Value → Shared → Prop} (F : Fr h₀ L s.heap m) (N : News h₀ L s.heap news) (hm : (l, listOf vs.toArray n) ∈ news) (hI : IntsAre vs ns) (ex : x = (lo : Int)) (ey : y = (hi : Int)) (hh : hi ≤ ns.length) (hz : ns.length ≤ 70)
    (h : ∀ D ws h', Fr h₀ L h' m → News h₀ L h' ((D, listOf (List.toArray ws) 0) :: news) → (∀ p ∈ news, p.1 < D) → IntsAre ws ((ns.drop lo).take (hi - lo)) → Q (.ref D) { s with heap := h' })
    (hs : subscripted slice false (.ref l) (.ref s.heap.objs.size) = operate [.ref s.heap.objs.size, .ref l] (getItem (.ref l) (.ref s.heap.objs.size)) := by with_unfolding_all rfl) (ht : ∀ r, letTemporaryGo value (.ref l) r = pure () := by intro _; with_unfolding_all rfl) :
    wpAny (model prog w) A (subscriptTail value slice (.ref l) (.ref s.heap.objs.size)) Q E { s with heap := s.heap.push { cls := .type "slice", data := .fields #[.int x t, .int y u, .none] } } := by
  have hl : s.heap.IsList l vs.toArray := PySem.IsL.isList (n := n) (N _ hm).1
  subst ex ey
  refine kmk_slice_ints (lo := some (lo : Int)) (hi := some (hi : Int)) F N hl (.int _ _) (.int _ _) hI (kmk_run hI (by omega) (by omega)) rfl ?_ hs ht (by rw [sizeLine_eq, List.size_toArray, hI.length]; omega)
  intro D ws h' F' N' l1 hI' _ _
  refine h D ws h' F' N' l1 ?_
  rw [show min ((hi : Int).toNat) ns.length - (lo : Int).toNat = hi - lo by omega, show (lo : Int).toNat = lo by omega] at hI'
  exact hI'
end
end Mine
end
section
open PySem PySem.W PyProof.Rows PySem.Spec PySem.Calls
set_option maxRecDepth 100000
namespace Mine
theorem Tab.mono {ys : List Int} {i : Nat} {f : Int → Option Value} {R R' : Led} (h : Tab ys i f R) (s : ∀ p ∈ R, p ∈ R') : Tab ys i f R' := by
  intro x
  rcases h x with h | ⟨l, vs, n, h1, h2, h3⟩
  · exact .inl h
  · exact .inr ⟨l, vs, n, h1, s _ h2, h3⟩
theorem EnsP.led {G G' : Led} {vs : List Value} {H : List En} (h : EnsP (EnIs G) vs H) (s : ∀ p ∈ G, p ∈ G') : EnsP (EnIs G') vs H := h.mono fun _ _ q => q.mono s
/-- the law's state between the turns -/
structure LwC where
  G : Led
  hs : List Value
  hn : Nat
  H : List En
  ds : List Value
  dn : Nat
  D : List Nat
noncomputable abbrev lwLd (hp dl : Addr) (B : Led) (c : LwC) : Led := (hp, listOf c.hs.toArray c.hn) :: (dl, listOf c.ds.toArray c.dn) :: (B ++ c.G)
noncomputable def natsI (D : List Nat) : List Int := D.map fun (b : Nat) => (b : Int)
structure LwP (xs ys : List Int) (fee : Int) (W : Nat → Way) (G0 : Led) (hp dl : Addr) (c : LwC) : Prop where
  sub : ∀ p ∈ G0, p ∈ c.G
  apart : ∀ p ∈ c.G, p.1 ≠ hp ∧ p.1 ≠ dl
  ens : EnsP (EnIs c.G) c.hs c.H
  heap : IsHeap eLt c.H
  inv : Inv xs ys fee W xs.length c.H c.D
  done : IntsAre c.ds (natsI c.D)
  size : c.H.length ≤ 1 + 100 * c.D.length
/-- amid a turn that lays out -/
structure LwM where
  G : Led
  hs : List Value
  hn : Nat
  H : List En
noncomputable abbrev lmLd (hp dl : Addr) (ds : List Value) (dn : Nat) (B : Led) (c : LwM) : Led := (hp, listOf c.hs.toArray c.hn) :: (dl, listOf ds.toArray dn) :: (B ++ c.G)
structure LmP (xs ys : List Int) (fee : Int) (W : Nat → Way) (G0 : Led) (hp dl : Addr) (D : List Nat) (hl b t : Nat) (c : LwM) : Prop where
  sub : ∀ p ∈ G0, p ∈ c.G
  apart : ∀ p ∈ c.G, p.1 ≠ hp ∧ p.1 ≠ dl
  ens : EnsP (EnIs c.G) c.hs c.H
  heap : IsHeap eLt c.H
  inv : InvX xs ys fee W xs.length c.H D b t
  size : c.H.length ≤ hl + t
theorem natsI_mem {D : List Nat} {b : Nat} : ((b : Int) ∈ natsI D) ↔ b ∈ D := by
  unfold natsI
  rw [List.mem_map]
  constructor
  · rintro ⟨a, h, e⟩
    have e2 : a = b := by omega
    rw [← e2]; exact h
  · intro h
    exact ⟨b, h, rfl⟩
theorem natsI_snoc {D : List Nat} {b : Nat} : natsI (D ++ [b]) = natsI D ++ [(b : Int)] := by simp [natsI]
theorem pop_room {xs ys : List Int} {fee : Int} {W : Nat → Way} {n : Nat} {H : List En} {D : List Nat} (B : Best xs ys fee n W) (hf : 1 ≤ fee) (I : Inv xs ys fee W n H D) (h0 : 0 < H.length) {e : Nat} (he : H[0].2.2 = (e : Int)) (hD : e ∈ D) : 1 < H.length := by
  have hP : (H[0] :: H.tail).Perm H := by
    cases H with
    | nil => simp at h0
    | cons a r => exact List.Perm.refl _
  have := (I.pop B hf h0 he hD hP).2
  rw [List.length_tail] at this
  omega
noncomputable abbrev lwNames (fee : Int) (tf : Tok) (hp dl la lb x : Addr) : List (Str × Value) := [(Str.ofString "fee", .int fee tf), (Str.ofString "heap", .ref hp), (Str.ofString "done", .ref dl), (Str.ofString "new", .ref la), (Str.ofString "old", .ref lb), (Str.ofString "matcher", .ref x)]
theorem lw_six {m : Str → Option Value} {fee : Int} {tf : Tok} {hp dl la lb x : Addr} (h1 : m (Str.ofString "fee") = some (.int fee tf)) (h2 : m (Str.ofString "heap") = some (.ref hp)) (h3 : m (Str.ofString "done") = some (.ref dl)) (h4 : m (Str.ofString "new") = some (.ref la)) (h5 : m (Str.ofString "old") = some (.ref lb)) (h6 : m (Str.ofString "matcher") = some (.ref x)) : ∀ q ∈ lwNames fee tf hp dl la lb x, m q.1 = some q.2 :=
  all_cons h1 (all_cons h2 (all_cons h3 (all_cons h4 (all_cons h5 (all_cons h6 fun _ h => nomatch h)))))
noncomputable def LwJ (xs ys : List Int) (fee : Int) (W : Nat → Way) (G0 : Led) (hp dl la lb x : Addr) (tf : Tok) (B : Led) (m' : Str → Option Value) (news' : Led) : Prop :=
  ∃ c : LwC, (∀ q ∈ lwNames fee tf hp dl la lb x, m' q.1 = some q.2) ∧ news' = lwLd hp dl B c ∧ LwP xs ys fee W G0 hp dl c ∧ ∃ h0 : 0 < c.H.length, (xs.length : Int) ≤ (c.H[0]'h0).2.2
theorem any_natsI {D : List Nat} {b : Nat} : (natsI D).any (· == (b : Int)) = decide (b ∈ D) := by
  by_cases h : b ∈ D
  · rw [decide_eq_true h]
    exact List.any_eq_true.mpr ⟨(b : Int), natsI_mem.mpr h, by simp⟩
  · rw [decide_eq_false h]
    rw [List.any_eq_false]
    intro x hx e
    have e2 : x = (b : Int) := by simpa using e
    rw [e2] at hx
    exact h (natsI_mem.mp hx)
section
variable {prog : Program} {w : World} {A : Around} {E : Value → Shared → Prop} {s : Shared} {h₀ : Heap} {L : Addr} {m : Str → Option Value} {news : Led} {a : Addr} {vs : List Value}
theorem tup_at {value slice : PySem.Expr} {p : Nat} {k : Int} {u : Tok} {x : Value} {Q : Value → Shared → Prop} (N : News h₀ L s.heap news) (hm : (a, tupO vs) ∈ news) (hk : k = (p : Int)) (hx : vs[p]? = some x) (hz : vs.length ≤ 1000) (h : Q x s)
    (hs : subscripted slice false (.ref a) (.int k u) = operate [.ref a, .int k u] (getItem (.ref a) (.int k u)) := by with_unfolding_all rfl) :
    wpAny (model prog w) A (subscriptTail value slice (.ref a) (.int k u)) Q E s := by
  have hp : p < vs.length := by
    rcases Nat.lt_or_ge p vs.length with q | q
    · exact q
    · rw [List.getElem?_eq_none q] at hx; cases hx
  refine item_tupleT (l := vs) (j := p) (tup_of N hm) (by omega) (by omega) ?_ hx h hs
  subst hk
  unfold seqIndex?
  simp
  omega
theorem in_led {n : Nat} {ns : List Int} {k : Int} {t : Tok} {Q : Value → Shared → Prop} (N : News h₀ L s.heap news) (hm : (a, listOf vs.toArray n) ∈ news) (hi : IntsAre vs ns) (h : Q (.bool (ns.any (· == k))) s) : wpAny (model prog w) A (compareOp .In (.int k t) (.ref a)) Q E s :=
  in_list_ints (PySem.IsL.isList (n := n) (N _ hm).1) hi h
end
theorem lw_end {h₀ : Heap} {L : Addr} {s : Shared} {h' : Heap} {tk : Nat} {m' m₀ : Str → Option Value} {hp dl : Addr} {B led : Led} {stored : List Str} {P : LwC → Prop} {μ : LwC → Nat} {c : LwC} (c' : LwC) (F : Fr h₀ L h' m') (N : News h₀ L h' led) (hsub : ∀ p ∈ lwLd hp dl B c', p ∈ led)
    (hm : ∀ z, stored.contains z = false → m' z = m₀ z) (hP : P c') (hμ : μ c' < μ c) : KswEnd h₀ L s (lwLd hp dl B) (fun _ => []) (fun _ => True) stored m₀ P μ c { s with heap := h', toks := tk } :=
  ksw_end c' F N hsub trivial (fun _ h => nomatch h) (fun z _ h => hm z h) hP hμ
theorem lm_end {h₀ : Heap} {L : Addr} {s : Shared} {h' : Heap} {tk : Nat} {m' m₀ : Str → Option Value} {hp dl it : Addr} {B led : Led} {stored : List Str} {P : LwM → Prop} {ds : List Value} {dn : Nat} {oi : Obj} (c' : LwM) (F : Fr h₀ L h' m') (N : News h₀ L h' led) (hit : (it, oi) ∈ led) (hsub : ∀ p ∈ lmLd hp dl ds dn B c', p ∈ led) (hne : ∀ p ∈ lmLd hp dl ds dn B c', p.1 ≠ it)
    (hm : ∀ z, stored.contains z = false → m' z = m₀ z) (hP : P c') : FEnd h₀ L s (lmLd hp dl ds dn B) (fun _ => []) stored m₀ P [(it, oi)] { s with heap := h', toks := tk } := by
  refine ⟨c', h', tk, m', led, rfl, F, N, fun q hq => ?_, hsub, fun p hp q hq => ?_, (fun _ h => nomatch h), fun z _ h => hm z h, hP⟩
  · rcases List.mem_singleton.mp hq with rfl; exact hit
  · rcases List.mem_singleton.mp hq with rfl; exact hne p hp
theorem fl_first {xs ys : List Int} {lo hi i j k : Nat} (h : FlR xs ys lo hi i j k) (hl : lo < hi) (h1 : i = lo) (h2 : k = hi - lo) : First xs ys lo (hi - lo) j := by
  subst h1 h2
  have hb : Blk xs ys i (i + (hi - i)) i j (hi - i) := by
    rw [show i + (hi - i) = hi by omega]; exact h.1
  obtain ⟨p, hp⟩ := first_of hb.whole
  rw [(h.2 p hp).2.2]; exact hp
theorem fl_none {xs ys : List Int} {lo hi i j k : Nat} (h : FlR xs ys lo hi i j k) (hn : ¬ (i = lo ∧ k = hi - lo)) : ∀ q, ¬ Whole xs ys lo (hi - lo) q := by
  intro q hq
  obtain ⟨p, hp⟩ := first_of hq
  have := h.2 p hp
  exact hn ⟨this.2.1, this.1⟩
end Mine
end
section
open PySem PySem.W PyProof.Rows PySem.Spec PySem.Calls
set_option maxRecDepth 100000
namespace Mine
section
variable {prog : Program} {w : World} {A : Around} {E : Value → Shared → Prop} {s : Shared} {h₀ : Heap} {L : Addr} {m : Str → Option Value} {news : Led}
theorem sliceApplied_two {sl : Addr} {u : Tok} {Q : Int × Int × Nat → Shared → Prop} (hs : s.heap.IsSliceOf sl .none (.int 2 u) .none) (h : Q (0, 1, 2) s) :
    wpAny (model prog w) A (Builtin.Slice.sliceApplied (.ref sl) (pure 3)) Q E s := by
  obtain ⟨os, hos, hcs, hds⟩ := id hs
  unfold Builtin.Slice.sliceApplied Builtin.Slice.sliceFields
  refine wpAny_bind (wpAny_bind (wpAny_field hos hds (x := .none) rfl (wpAny_bind (wpAny_field hos hds (x := .int 2 u) rfl (wpAny_bind (wpAny_field hos hds (x := .none) rfl (wpAny_pure ?_)))))))
  refine wpAny_bind (slicePart_none ?_)
  show wpAny _ _ (if ((1 : Int) == 0) = true then _ else _) _ _ s
  rw [if_neg (by decide)]
  refine wpAny_bind (slicePart_none (wpAny_bind (slicePart_int (wpAny_bind (wpAny_pure ?_)))))
  show wpAny _ _ (match Builtin.Slice.sliceAdjust none (some (2 : Int)) 1 3 with | (lo, hi) => pure (lo, (1 : Int), Builtin.Slice.slicePlaces lo hi 1)) _ _ s
  rw [show Builtin.Slice.sliceAdjust none (some (2 : Int)) 1 3 = (0, 2) by decide]
  show wpAny _ _ (pure ((0 : Int), (1 : Int), Builtin.Slice.slicePlaces 0 2 1)) _ _ s
  rw [show Builtin.Slice.slicePlaces 0 2 1 = 2 by decide]
  exact wpAny_pure h
theorem getItem_two {t sl : Addr} {v1 v2 v3 : Value} {u : Tok} {Q : Value → Shared → Prop} (ht : IsTup s.heap t #[v1, v2, v3]) (hs : s.heap.IsSliceOf sl .none (.int 2 u) .none)
    (h : Q (.ref s.heap.objs.size) { s with heap := s.heap.push (tupO [v1, v2]) }) : wpAny (model prog w) A (getItem (.ref t) (.ref sl)) Q E s := by
  obtain ⟨os, hos, hcs, hds⟩ := id hs
  have hTs : s.TypeIs (.ref sl) "slice" := ⟨os, hos, hcs⟩
  unfold getItem
  try with_reducible refine wpAny_holding ?_
  first | refine wpAny_bind (wpAny_pure ?_) | skip
  refine wpAny_bind (wpAny_sequenceKey ht.typeIs (by decide) ?_)
  refine wpAny_bind (wpAny_callSpecial?_slot (name := Str.ofString "__getitem__") ht.typeIs slot_tuple_getitem
    (wpAny_call_entry slot_tuple_getitem ht.typeIs entry_tuple_getitem ?_ (args_tuple_getitem _ _)))
  show wpAny _ _ (Builtin.Tuple.tupleItemsOf (.ref t) >>= _) _ _ s
  refine wpAny_bind (tupleItemsOf_ ht ?_)
  refine wpAny_bind (wpAny_typeOf hTs ?_)
  rw [if_pos (by decide)]
  refine wpAny_bind (sliceApplied_two hs ?_)
  have hsz : sizeOk (.seq #[v1, v2]) := by
    show (#[v1, v2] : Array Value).size ≤ sizeLine
    rw [sizeLine_eq]; simp
  show wpAny _ _ (if ((0 : Int) == 0 && (1 : Int) == 1 && (2 : Nat) == (#[v1, v2, v3] : Array Value).size) = true then _ else _) _ _ s
  rw [if_neg (by simp)]
  have e : ((List.range 2).filterMap fun (k : Nat) => (#[v1, v2, v3] : Array Value)[((0 : Int) + (k : Int) * 1).toNat]?).toArray = #[v1, v2] := by rfl
  rw [e]
  first
    | exact wpAny_bind (m := Builtin.Tuple.tupleExact _) (wpAny_newObj_type (wpAny_pure ⟨_, rfl, wpAny_pure h⟩) hsz)
    | exact wpAny_bind (m := Builtin.Tuple.tupleExact _) (wpAny_newObj_type (wpAny_bind (wpAny_pure (wpAny_pure ⟨_, rfl, wpAny_pure h⟩))) hsz)
    | exact wpAny_bind (wpAny_bind (m := Builtin.Tuple.tupleExact _) (wpAny_newObj_type (wpAny_pure (wpAny_pure ⟨_, rfl, wpAny_pure h⟩)) hsz))
    | exact wpAny_bind (wpAny_bind (m := Builtin.Tuple.tupleExact _) (wpAny_newObj_type (wpAny_pure ⟨_, rfl, wpAny_pure h⟩) hsz))
theorem tup_pair {value slice : PySem.Expr} {t : Addr} {v1 v2 v3 : Value} {u : Tok} {Q : Value → Shared → Prop} (F : Fr h₀ L s.heap m) (N : News h₀ L s.heap news) (hm : (t, tupO [v1, v2, v3]) ∈ news)
    (h : ∀ D h', Fr h₀ L h' m → News h₀ L h' ((D, tupO [v1, v2]) :: news) → (∀ p ∈ news, p.1 < D) → Q (.ref D) { s with heap := h' })
    (hs : subscripted slice false (.ref t) (.ref s.heap.objs.size) = operate [.ref s.heap.objs.size, .ref t] (getItem (.ref t) (.ref s.heap.objs.size)) := by with_unfolding_all rfl) :
    wpAny (model prog w) A (subscriptTail value slice (.ref t) (.ref s.heap.objs.size)) Q E { s with heap := s.heap.push { cls := .type "slice", data := .fields #[.none, .int 2 u, .none] } } := by
  have ht : IsTup (s.heap.push { cls := .type "slice", data := .fields #[.none, .int 2 u, .none] }) t #[v1, v2, v3] := IsTup.keeps (tup_of N hm) fun _ _ e => Heap.get?_push_of_some _ e
  refine tail_any (s := { s with heap := s.heap.push { cls := .type "slice", data := .fields #[.none, .int 2 u, .none] } }) ht.typeIs slot_tuple_getitem.lookup (getItem_two (u := u) ht (Heap.IsSliceOf.new ..) ?_) hs
  have N1 := News.push (F.push { cls := .type "slice", data := .fields #[.none, .int 2 u, .none] }) (N.grown fun _ _ e => Heap.get?_push_of_some _ e) (tupO [v1, v2])
  rw [Heap.size_push] at N1
  show Q (.ref (s.heap.push _).objs.size) _
  rw [Heap.size_push]
  exact h _ _ ((F.push _).push _) N1 fun p hp => Nat.lt_succ_of_lt (Heap.lt_size (N p hp).1)
end
end Mine
end
section
local macro_rules | `(tactic| k_all) => `(tactic| first | assumption | (intro q9 hq9; exact Nat.ne_of_lt (by first | exact (by assumption : ∀ p ∈ _, p.1 < _) q9 hq9 | exact Nat.lt_trans ((by assumption : ∀ p ∈ _, p.1 < _) q9 hq9) (by omega))))
section
local macro_rules | `(tactic| k_room) => `(tactic| ktr_room)
section
open PySem PySem.W PyProof.Rows PySem.Spec PySem.Calls
set_option maxRecDepth 100000
namespace Mine
theorem filledCb : PySem.Challenge.rw_nq0313_01.prog = PySem.Challenge.rw_nq0313_01.prog ∧ K = K := by
  k_fill
  exact ⟨rfl, rfl⟩
local macro_rules
  | `(tactic| walk_at "exec For Tuple Call") => `(tactic| refine hold ?_)
  | `(tactic| walk_at "call ref") => `(tactic| refine hold ?_)

noncomputable abbrev setE (b : Bool) : Obj := { cls := .type "set", data := .set #[] 0 (SetTable.fresh 0 0 b) }
/-- the matcher's dict when it is made -/
noncomputable abbrev smDict (w : World) (va : Value) (lb d sj sp : Addr) (t1 t2 t3 t4 t5 t6 t7 t8 t9 t10 : Nat) : Obj := dictOf [⟨PyData.keyHash w.params (Str.ofString "isjunk"), .str (Str.ofString "isjunk") t1, .none⟩, ⟨PyData.keyHash w.params (Str.ofString "a"), .str (Str.ofString "a") t2, va⟩, ⟨PyData.keyHash w.params (Str.ofString "b"), .str (Str.ofString "b") t3, .ref lb⟩, ⟨PyData.keyHash w.params (Str.ofString "autojunk"), .str (Str.ofString "autojunk") t4, .bool false⟩, ⟨PyData.keyHash w.params (Str.ofString "matching_blocks"), .str (Str.ofString "matching_blocks") t5, .none⟩, ⟨PyData.keyHash w.params (Str.ofString "opcodes"), .str (Str.ofString "opcodes") t6, .none⟩, ⟨PyData.keyHash w.params (Str.ofString "fullbcount"), .str (Str.ofString "fullbcount") t7, .none⟩, ⟨PyData.keyHash w.params (Str.ofString "b2j"), .str (Str.ofString "b2j") t8, .ref d⟩, ⟨PyData.keyHash w.params (Str.ofString "bjunk"), .str (Str.ofString "bjunk") t9, .ref sj⟩, ⟨PyData.keyHash w.params (Str.ofString "bpopular"), .str (Str.ofString "bpopular") t10, .ref sp⟩] 10
/-- the ledger behind the matcher's making -/
noncomputable abbrev smLed (w : World) (x dx lb d sj sp : Addr) (va : Value) (o : Obj) (ls R : Led) (b1 b2 : Bool) (t1 t2 t3 t4 t5 t6 t7 t8 t9 t10 : Nat) : Led :=
  (x, instObj 242 dx) :: (dx, smDict w va lb d sj sp t1 t2 t3 t4 t5 t6 t7 t8 t9 t10) :: (sj, setE b1) :: (sp, setE b2) :: (d, o) :: (ls ++ R)
noncomputable def SmPost (w : World) (x dx lb : Addr) (va : Value) (ys : List Int) (R : Led) (t1 t2 t3 t4 t5 t6 t7 : Nat) (news' : Led) : Prop :=
  ∃ (d : Addr) (o : Obj) (ls : Led) (sj sp : Addr) (b1 b2 : Bool) (t8 t9 t10 : Nat), news' = smLed w x dx lb d sj sp va o ls R b1 b2 t1 t2 t3 t4 t5 t6 t7 t8 t9 t10 ∧ cbP d ys ys.length (o, ls) ∧ (d == sysModules) = false ∧ x < d
theorem chain_end {w : World} {x dx lb d sj sp : Addr} {va : Value} {o : Obj} {ls R R2 : Led} {b1 b2 : Bool} {t1 t2 t3 t4 t5 t6 t7 t8 t9 t10 : Nat} {ys : List Int} {h₀ h : Heap} {L : Addr} (N : News h₀ L h ((sp, setE b2) :: (sj, setE b1) :: (x, instObj 242 dx) :: (dx, smDict w va lb d sj sp t1 t2 t3 t4 t5 t6 t7 t8 t9 t10) :: R2))
    (hR2 : R2 = (d, o) :: (ls ++ R)) (hP : cbP d ys ys.length (o, ls)) (lo : (d == sysModules) = false) (hx : x < d) : ∃ news', News h₀ L h news' ∧ SmPost w x dx lb va ys R t1 t2 t3 t4 t5 t6 t7 news' := by
  refine ⟨_, News.sub N (news' := smLed w x dx lb d sj sp va o ls R b1 b2 t1 t2 t3 t4 t5 t6 t7 t8 t9 t10) ?_, d, o, ls, sj, sp, b1, b2, t8, t9, t10, rfl, hP, lo, hx⟩
  intro q hq
  subst hR2
  rcases List.mem_cons.mp hq with rfl | hq
  · exact .tail _ (.tail _ (.head _))
  rcases List.mem_cons.mp hq with rfl | hq
  · exact .tail _ (.tail _ (.tail _ (.head _)))
  rcases List.mem_cons.mp hq with rfl | hq
  · exact .tail _ (.head _)
  rcases List.mem_cons.mp hq with rfl | hq
  · exact .head _
  · exact .tail _ (.tail _ (.tail _ (.tail _ hq)))
set_option maxHeartbeats 0 in
theorem chain_spec (w : World) (R : Led) (x dx lb : Addr) (bs : List Value) (ys : List Int) (nb t1 t2 t3 t4 t5 t6 t7 : Nat) (va : Value) (hy : IntsAre bs ys) (hys : ys.length ≤ 70) (mb' : (lb, listOf bs.toArray nb) ∈ R) (hR : ∀ p ∈ R, p.1 < dx) (hxd : dx < x) :
  CallOk w 188 [.ref x] ((x, instObj 242 dx) :: (dx, dictOf [⟨PyData.keyHash w.params (Str.ofString "isjunk"), .str (Str.ofString "isjunk") t1, .none⟩, ⟨PyData.keyHash w.params (Str.ofString "a"), .str (Str.ofString "a") t2, va⟩,
     ⟨PyData.keyHash w.params (Str.ofString "b"), .str (Str.ofString "b") t3, .ref lb⟩, ⟨PyData.keyHash w.params (Str.ofString "autojunk"), .str (Str.ofString "autojunk") t4, .bool false⟩, ⟨PyData.keyHash w.params (Str.ofString "matching_blocks"), .str (Str.ofString "matching_blocks") t5, .none⟩, ⟨PyData.keyHash w.params (Str.ofString "opcodes"), .str (Str.ofString "opcodes") t6, .none⟩, ⟨PyData.keyHash w.params (Str.ofString "fullbcount"), .str (Str.ofString "fullbcount") t7, .none⟩] 7) :: R) 4 30 (fun r news' => r = .none ∧ SmPost w x dx lb va ys R t1 t2 t3 t4 t5 t6 t7 news') := by
  unfold CallOk
  intro prog pp loose mean mg mb dp un gd cn cs a ccd cl outer A₀ base h₀ L m s Q E B F X N T hk hd hu hret
  have l2 := hxd
  k_lt2 l2
  refine wpAny_call ?_
  k_dflt ktr_enter
  k_steps
  unfold Held
  refine wpAny_For ?_
  k_steps
  refine enum_call (vs := bs) (n := nb) (by k_asm) (by k_asm) (.tail _ (.tail _ (.tail _ mb'))) ?_
  intro e it oi h3 F3 N3 hoi hlt3 hlt4
  refine wpAny_pyIter_enum (N3 _ (.head _)).1 ?_
  rename_i hq2 d hq1 o1 lo1 _ _ hi1 _ ld hq3 hq4 Fq Nq
  obtain ⟨ld1, ld2, ld3⟩ := ld
  have hRd : ∀ p ∈ R, p.1 < d := fun p hp => Nat.lt_trans (hR p hp) ld2
  dsimp only at N3 hlt3
  generalize hdx : dictOf _ _ = odx at N3 hlt3
  have hbase : ∀ p ∈ ((x, instObj 242 dx) :: (dx, odx) :: R : Led), p.1 < d := by
    intro p hp
    rcases List.mem_cons.mp hp with rfl | hp
    · exact ld1
    rcases List.mem_cons.mp hp with rfl | hp
    · exact ld2
    · exact hRd p hp
  refine for_enum (σ := Obj × Led) (it := it) (l := lb) (vs := bs) (cbLd d ((x, instObj 242 dx) :: (dx, odx) :: R)) (fun _ => []) [Str.ofString "i", Str.ofString "elt", Str.ofString "indices"] (cbP d ys) (o1, []) oi rfl rfl rfl rfl ?_ ?_ ?_ F3 N3 hoi ?_ ?_ ?_ ?_ ?_ ?_
  · exact Nat.ne_of_gt hlt4
  · exact Nat.ne_of_lt (Nat.lt_trans (hlt3 (lb, _) (.tail _ (.tail _ (.tail _ mb')))) hlt4)
  · exact Nat.ne_of_lt (hlt3 (lb, _) (.tail _ (.tail _ (.tail _ mb'))))
  · intro p hp
    have : p.1 < it := hlt3 p hp
    exact ⟨Nat.ne_of_lt (Nat.lt_trans this hlt4), Nat.ne_of_lt this⟩
  · intro q hq; cases hq
  · exact ⟨fun _ => none, IMap.empty hi1, fun x => .inl ⟨rfl, rfl⟩, (fun x y l h => nomatch h), fun p hp => nomatch hp⟩
  · intro c h N4 _
    exact PySem.IsL.isList (n := nb) (N4 (lb, _) (.tail _ (List.mem_append.mpr (.inr (.tail _ (.tail _ mb')))))).1
  · rintro i v t ⟨o4, ls⟩ u h tk4 oe o hv hP hne4 F4 N4
    obtain ⟨y, ty, rfl, hyi⟩ := hy.at i v hv
    obtain ⟨f, hf, htab, hinj, hls⟩ := id hP
    dsimp only at hf htab hls hne4 F4 N4 ⊢
    k_steps
    refine imap_method_sd N4 (.tail _ (.tail _ (.head _))) hf ?_
    k_steps
    rename_i l0 hq7 Fr7 Nr7 ln7
    obtain ⟨ln1, ln2, ln3, ln4⟩ := ln7
    have hdl0 : ∀ q ∈ ((l0, listOf #[] 0) :: (e, oe) :: (it, o) :: (ls ++ (x, instObj 242 dx) :: (dx, odx) :: R) : Led), q.1 ≠ d := by
      intro q hq
      rcases List.mem_cons.mp hq with rfl | hq
      · exact Nat.ne_of_gt ln3
      rcases List.mem_cons.mp hq with rfl | hq
      · exact Ne.symm (hne4 (d, o4) (.head _)).1
      rcases List.mem_cons.mp hq with rfl | hq
      · exact Ne.symm (hne4 (d, o4) (.head _)).2
      rcases List.mem_append.mp hq with hq | hq
      · exact Nat.ne_of_gt (hls q hq)
      · exact Nat.ne_of_lt (hbase q hq)
    have N8 := News.sub Nr7 (news' := (d, o4) :: (l0, listOf #[] 0) :: (e, oe) :: (it, o) :: (ls ++ (x, instObj 242 dx) :: (dx, odx) :: R)) (by
      intro q hq
      simp only [List.mem_cons, List.mem_append] at hq ⊢
      rcases hq with hq | hq | hq | hq | hq | hq | hq | hq <;> simp only [hq, true_or, or_true])
    have hil : i ≤ 1000000 := by
      have := hy.length
      have : i < bs.length := by
        rcases Nat.lt_or_ge i bs.length with q | q
        · exact q
        · rw [List.getElem?_eq_none q] at hv; cases hv
      omega
    refine imap_setdefault Fr7 N8 hdl0 hf lo1 hil ?_ ?_
    · intro v hfy
      rcases htab y with ⟨hn, _⟩ | ⟨l, vs, nl, hfl, hml, hvs⟩
      · rw [hn] at hfy; cases hfy
      obtain rfl : v = .ref l := by rw [hfl] at hfy; cases hfy; rfl
      k_steps
      rename News _ _ _ _ => N10
      have hml10 : (l, listOf vs.toArray nl) ∈ ((d, o4) :: (l0, listOf #[] 0) :: (e, oe) :: (it, o) :: (ls ++ (x, instObj 242 dx) :: (dx, odx) :: R) : Led) := .tail _ (.tail _ (.tail _ (.tail _ (List.mem_append.mpr (.inl hml)))))
      refine list_method_app N10 hml10 ?_
      k_steps
      have hdl : d < l := hls (l, _) hml
      have hel := hne4 (l, listOf vs.toArray nl) (.tail _ (List.mem_append.mpr (.inl hml)))
      refine app_nat (by k_asm) (News.at_front N10 hml10) filter_ne (by have := hvs.length; have := posUp_length ys i y; omega) ?_
      intro h11 F11 N11
      k_steps
      refine cb_fend (o1 := o4) (ls := ls) (l := l) (by k_asm) N11 (.head _) ⟨.tail _ (mem_filter_ne (.tail _ (.tail _ (.head _))) (Ne.symm hel.1)), .tail _ (mem_filter_ne (.tail _ (.tail _ (.tail _ (.head _)))) (Ne.symm hel.2))⟩ ?_ hel.1 hel.2 hdl hbase hne4 (cb_append (hf.le (Nat.le_succ i)) (fun x _ => htab x) hfl hvs hinj hls hdl hyi) ?_
      · intro q hq hql
        refine .tail _ (mem_filter_ne ?_ hql)
        simp only [List.mem_cons, List.mem_append] at hq ⊢
        rcases hq with hq | hq | hq | hq | hq <;> simp only [hq, true_or, or_true]
      · intro z z2
        repeat (refine skip_if (fun e => absurd z2 (by rw [e]; (try dsimp only); decide)) ?_)
        exact if_neg (by rw [z2]; exact Bool.false_ne_true)
    · intro hfn h9 o9 F9 N9 hm9
      k_steps
      rename News _ _ _ _ => N10
      have hlt : ∀ q ∈ (ls ++ (x, instObj 242 dx) :: (dx, odx) :: R : Led), q.1 < l0 := ktn_ltOf ln4
      have hpy : posUp ys i y = [] := by
        rcases htab y with ⟨_, h⟩ | ⟨l, vs, nl, hfl, _, _⟩
        · exact h
        · rw [hfn] at hfl; cases hfl
      refine cb_fend (o1 := o9) (ls := ls) (l := l0) (by k_asm) N10 (.tail _ (.head _)) ⟨.tail _ (.tail _ (.head _)), .tail _ (.tail _ (.tail _ (.head _)))⟩ ?_ (Nat.ne_of_gt ln1) (Nat.ne_of_gt ln2) ln3 hbase ?_ (cb_append (vs := []) (n := 0) hm9 ?_ (if_pos rfl) (by rw [hpy]; exact .nil) ?_ hls ln3 hyi) ?_
      · intro q hq hql
        simp only [List.mem_cons, List.mem_append] at hq ⊢
        rcases hq with hq | hq | hq | hq | hq <;> simp only [hq, true_or, or_true]
      · intro q hq
        rcases List.mem_cons.mp hq with rfl | hq
        · exact hne4 (d, o4) (.head _)
        · exact hne4 q (.tail _ hq)
      · intro x' hx'
        try dsimp only
        rw [if_neg hx']
        exact htab x'
      · intro a' b' l' ha' hb'
        try dsimp only at ha' hb'
        have fresh : ∀ z, f z = some (.ref l0) → False := by
          intro z hz
          rcases htab z with ⟨h, _⟩ | ⟨l, vs, nl, hfl, hml, _⟩
          · rw [h] at hz; cases hz
          · rw [hfl] at hz
            cases hz
            exact Nat.lt_irrefl _ (hlt (l0, _) (List.mem_append.mpr (.inl hml)))
        by_cases e1 : a' = y <;> by_cases e2 : b' = y
        · rw [e1, e2]
        · rw [if_pos e1] at ha'; cases ha'; rw [if_neg e2] at hb'; exact (fresh _ hb').elim
        · rw [if_pos e2] at hb'; cases hb'; rw [if_neg e1] at ha'; exact (fresh _ ha').elim
        · rw [if_neg e1] at ha'; rw [if_neg e2] at hb'; exact hinj _ _ _ ha' hb'
      · intro z z2
        repeat (refine skip_if (fun e => absurd z2 (by rw [e]; (try dsimp only); decide)) ?_)
        exact if_neg (by rw [z2]; exact Bool.false_ne_true)
  · rintro ⟨o4, ls⟩ u h tk4 hP F4 N4
    dsimp only at hP F4 N4 ⊢
    subst hdx
    obtain ⟨R2, hR2⟩ : ∃ R2 : Led, R2 = (d, o4) :: (ls ++ R) := ⟨_, rfl⟩
    have hR2d : ∀ q ∈ R2, q.1 ≠ dx := by
      obtain ⟨f, hf, htab, hinj, hls⟩ := hP
      intro q hq
      rw [hR2] at hq
      rcases List.mem_cons.mp hq with rfl | hq
      · exact Nat.ne_of_gt ld2
      rcases List.mem_append.mp hq with hq | hq
      · exact Nat.ne_of_gt (Nat.lt_trans ld2 (hls q hq))
      · exact Nat.ne_of_lt (hR q hq)
    have hR2l : (lb, listOf bs.toArray nb) ∈ R2 := by rw [hR2]; exact .tail _ (List.mem_append.mpr (.inr mb'))
    have N5 := News.sub N4 (news' := (x, instObj 242 dx) :: (dx, _) :: R2) (by
      intro q hq
      rcases List.mem_cons.mp hq with rfl | hq
      · exact .tail _ (List.mem_append.mpr (.inr (.head _)))
      rcases List.mem_cons.mp hq with rfl | hq
      · exact .tail _ (List.mem_append.mpr (.inr (.tail _ (.head _))))
      rw [hR2] at hq
      rcases List.mem_cons.mp hq with rfl | hq
      · exact .head _
      rcases List.mem_append.mp hq with hq | hq
      · exact .tail _ (List.mem_append.mpr (.inl hq))
      · exact .tail _ (List.mem_append.mpr (.inr (.tail _ (.tail _ hq)))))
    clear N4 N3 hlt3 hbase
    k_steps
    refine len_nat (by k_asm) (.tail _ (.tail _ (.tail _ (.tail _ hR2l)))) (by have := hy.length; omega) ?_
    k_steps
    rename News h₀ L _ _ => kN9
    rw [hy.length] at hP
    obtain ⟨news', N', P'⟩ := chain_end (o := o4) (ls := ls) (R := R) (b1 := _) (ys := ys) kN9 hR2 hP lo1 ld1
    exact hret _ _ _ _ (by k_asm) N' ⟨rfl, P'⟩
end Mine
end
section
open PySem PySem.W PyProof.Rows PySem.Spec PySem.Calls
set_option maxRecDepth 100000
namespace Mine
theorem filledSm : PySem.Challenge.rw_nq0313_01.prog = PySem.Challenge.rw_nq0313_01.prog ∧ K = K := by
  k_fill
  exact ⟨rfl, rfl⟩
local macro_rules | `(tactic| walk_at "none 0") => `(tactic| skip)
local macro_rules | `(tactic| walk_at "call ref") => `(tactic| ((with_reducible show wpAny _ _ (call (Value.ref 188) _) _ _ _); refine hold ?_))

set_option maxHeartbeats 0 in
theorem matcher_spec (w : World) (news : Led) (la lb : Addr) (bs : List Value) (ys : List Int) (nb : Nat) (hy : IntsAre bs ys) (hys : ys.length ≤ 70) (mb' : (lb, listOf bs.toArray nb) ∈ news) :
  CallOk w 242 [.none, .ref la, .ref lb, .bool false] news 12 80 (fun r news' => ∃ x dx t1 t2 t3 t4 t5 t6 t7, r = .ref x ∧ SmPost w x dx lb (.ref la) ys news t1 t2 t3 t4 t5 t6 t7 news' ∧ (∀ p ∈ news, p.1 < dx) ∧ dx < x) := by
  unfold CallOk
  intro prog pp loose mean mg mb dp un gd cn cs a ccd cl outer A₀ base h₀ L m s Q E B F X N T hk hd hu hret
  k_dflt (refine' call_cls ?k1 ?k2 ?k3 ?k4 ?k5 ?k6 ?_; (case k1 => k_asm); (case k2 => k_asm); (case k3 => k_asm); (case k4 => k_is); (case k5 => k_is); (case k6 => k_is))
  intro x dx h1 F1 N1 l1 l2
  k_lt2 l2
  k_dflt (refine' code_def ?k1 ?k2 ?k3 ?k4 ?k5 ?kA ?kF ?kK ?k6 ?k7 ?k8 ?k9 ?kB ?_ ?c2 ?c3 ?c4 ?c5; (case kA => exact rfl); (case kF => exact rfl); (case kK => assumption); (case k1 => k_asm); (case k2 => k_asm); (case k3 => k_asm); (case k4 => k_asm); (case k5 => k_asm); (case k6 => k_is); (case k7 => k_is); (case k8 => ktr_room); (case k9 => first | exact BindsTo.of_eq rfl | exact binds_K (by k_in) rfl (by k_is) rfl rfl rfl); (case c5 => decide); (case kB => exact locs rfl); (case c2 => exact rfl); (case c3 => exact rfl); (case c4 => exact rfl); k_whole; intro g' L' h' FG' F' N' B' X' T'; (try dsimp only); (try k_fold))
  k_steps
  unfold Held
  refine (chain_spec w news x dx lb bs ys nb _ _ _ _ _ _ _ (.ref la) hy hys mb' l1 l2).use (by k_asm) (by k_asm) (by k_asm) (by k_asm) (by k_asm) rfl (by ktr_room) ?_ ?_
  · show un + 1 + 3 + 3 + 3 + 30 < cLine
    omega
  rintro r news' h6 tk6 F6 N6 ⟨rfl, P6⟩
  k_steps
  exact hret _ _ _ _ (by k_asm) (by k_asm) ⟨x, dx, _, _, _, _, _, _, _, rfl, P6, l1, l2⟩
end Mine
end
section
open PySem PySem.W PyProof.Rows PySem.Spec PySem.Calls
set_option maxRecDepth 100000
namespace Mine
theorem filledFl : PySem.Challenge.rw_nq0313_01.prog = PySem.Challenge.rw_nq0313_01.prog ∧ K = K := by
  k_fill
  exact ⟨rfl, rfl⟩
local macro_rules | `(tactic| walk_at "none 0") => `(tactic| skip)
local macro_rules
  | `(tactic| walk_at "call ref") => `(tactic| refine hold ?_)
  | `(tactic| walk_at "exec For Name Call cons nil") => `(tactic| refine hold ?_)
  | `(tactic| walk_at "exec While BoolOp cons nil") => `(tactic| refine hold ?_)
  | `(tactic| walk_at "subscriptTail Name BinOp ref int") => `(tactic| refine hold ?_)
  | `(tactic| walk_at "subscriptTail Name Name ref int") => `(tactic| refine hold ?_)
  | `(tactic| walk_at "Mid next") => `(tactic| refine hold ?_)
  | `(tactic| walk_at "KswEnd") => `(tactic| refine hold ?_)
  | `(tactic| walk_at "FPost next") => `(tactic| refine hold ?_)
local macro_rules | `(tactic| walk_at "callWith ref nil nil") => `(tactic| ((fail_if_success (with_reducible show wpAny _ _ (callWith _ (Value.ref 135) _ _ _) _ _ _)); refine hold ?_))

set_option maxHeartbeats 0 in
theorem flm_spec (w : World) (R : Led) (x dx la lb d sj sp : Addr) (o : Obj) (b1 b2 : Bool) (as bs : List Value) (xs ys : List Int) (na nb t1 t2 t3 t4 t5 t6 t7 t8 t9 t10 : Nat) (hx : IntsAre as xs) (hy : IntsAre bs ys) (hxs : xs.length ≤ 70) (hys : ys.length ≤ 70)
  (ma : (la, listOf as.toArray na) ∈ R) (mb' : (lb, listOf bs.toArray nb) ∈ R) (f : Int → Option Value) (hf : IMap ys.length o f) (htab : Tab ys ys.length f R) (lod : (d == sysModules) = false) (lo hi : Nat) (tl th : Tok) (hlo : lo < hi) (hhi : hi ≤ xs.length) :
  CallOk w 196 [.ref x, .int (lo : Int) tl, .int (hi : Int) th] ((x, instObj 242 dx) :: (dx, smDict w (.ref la) lb d sj sp t1 t2 t3 t4 t5 t6 t7 t8 t9 t10) :: (sj, setE b1) :: (d, o) :: R) 12 80 (FlPost xs ys lo hi ((x, instObj 242 dx) :: (dx, smDict w (.ref la) lb d sj sp t1 t2 t3 t4 t5 t6 t7 t8 t9 t10) :: (sj, setE b1) :: (d, o) :: R)) := by
  unfold CallOk
  intro prog pp loose mean mg mb dp un gd cn cs a ccd cl outer A₀ base h₀ L m s Q E B F X N T hk hd hu hret
  refine wpAny_call ?_
  k_dflt (refine' code_def ?k1 ?k2 ?k3 ?k4 ?k5 ?kA ?kF ?kK ?k6 ?k7 ?k8 ?k9 ?kB ?_ ?c2 ?c3 ?c4 ?c5; (case kA => exact rfl); (case kF => exact rfl); (case kK => first | assumption | exact rfl); (case k1 => k_asm); (case k2 => k_asm); (case k3 => k_asm); (case k4 => k_asm); (case k5 => k_asm); (case k6 => k_is); (case k7 => k_is); (case k8 => ktr_room); (case k9 => first | exact BindsTo.of_eq rfl | exact binds_K (by k_in) rfl (by k_is) rfl rfl rfl); (case c5 => decide); (case kB => exact locs rfl); (case c2 => exact rfl); (case c3 => exact rfl); (case c4 => exact rfl); k_whole; intro g' L' h' FG' F' N' B' X' T'; (try dsimp only); (try k_fold))
  k_steps
  refine attr_set_contains (by k_asm) (by k_asm) (by k_mem) ?_
  intro xc hxc Fc Nc lc
  k_lt lc
  k_steps
  refine len_nat (vs := bs) (n := nb) (by k_asm) (.tail _ (.tail _ (.tail _ (.tail _ (.tail _ (.tail _ mb')))))) (by have := hy.length; omega) ?_
  k_steps
  unfold Held
  refine wpAny_For ?_
  k_steps
  rename_i tkz _ _ _ _ _ _ _ _ jd0 hq1 jo0 lo0 _ _ hi0 _ lj0 hq2 ln0 hq3 ll0 hq4 Fq Nq hq5 tq t1q t2q t3q rgq Frq Nrq kpq
  refine range_iter Frq Nrq rgq (hi - lo) (by omega) (by omega) (by omega) ?_
  intro it hI FI NI li
  obtain ⟨B2, hB2⟩ : ∃ B2 : Led, B2 = (ln0, listOf #[] 0) :: (xc, bnd "set.__contains__" sj) :: (x, instObj 242 dx) :: (dx, smDict w (.ref la) lb d sj sp t1 t2 t3 t4 t5 t6 t7 t8 t9 t10) :: (sj, setE b1) :: (d, o) :: R := ⟨_, rfl⟩
  have NI2 := News.sub NI (news' := (it, { cls := .type "range_iterator", data := .fields #[rawInt ((lo : Int) + ((0 : Nat) : Int)), rawInt (((hi - lo : Nat) : Int) - ((0 : Nat) : Int)), rawInt 1] }) :: (jd0, jo0) :: B2) (by
    intro q hq
    rw [hB2] at hq
    simp only [List.mem_cons] at hq ⊢
    rcases hq with hq | hq | hq | hq | hq | hq | hq | hq | hq <;> simp only [hq, true_or, or_true])
  have hBj : ∀ q ∈ B2, q.1 ≠ jd0 := by
    intro q hq
    rw [hB2] at hq
    simp only [List.mem_cons] at hq
    obtain ⟨a1, a2, a3, a4, a5, a6, a7, a8⟩ := lj0
    rcases hq with rfl | rfl | rfl | rfl | rfl | rfl | hq
    · exact Nat.ne_of_gt ll0.1
    · exact Nat.ne_of_lt a3
    · exact Nat.ne_of_lt a4
    · exact Nat.ne_of_lt a5
    · exact Nat.ne_of_lt a6
    · exact Nat.ne_of_lt a7
    · exact Nat.ne_of_lt (ktn_ltOf a8 q hq)
  have hBi : ∀ q ∈ B2, q.1 < it := by
    intro q hq
    refine li q ?_
    rw [hB2] at hq
    simp only [List.mem_cons] at hq ⊢
    rcases hq with hq | hq | hq | hq | hq | hq | hq <;> simp only [hq, true_or, or_true]
  refine for_nameG (Iter.range rfl it (lo : Int) (hi - lo)) (flLd B2) flPs [Str.ofString "i", Str.ofString "j2lenget", Str.ofString "newj2len", Str.ofString "j", Str.ofString "k"] (flP xs ys lo B2) ⟨jd0, jo0, lo, 0, 0, tl, 465, tkz⟩ _ rfl rfl FI NI2 rfl ?_ ?_ ?_ ?_ ?_ ?_
  · intro q hq
    rcases List.mem_cons.mp hq with rfl | hq
    · exact Nat.ne_of_lt (li (jd0, jo0) (.tail _ (.head _)))
    · exact Nat.ne_of_lt (hBi q hq)
  · intro q hq
    rcases List.mem_cons.mp hq with rfl | hq
    · rfl
    rcases List.mem_cons.mp hq with rfl | hq
    · rfl
    rcases List.mem_cons.mp hq with rfl | hq
    · rfl
    rcases List.mem_cons.mp hq with rfl | hq
    · rfl
    cases hq
  · exact ⟨Row.first, lo0, hBj, fun _ => none, (IMap.empty hi0).le (Nat.zero_le _), fun j t => ⟨t, by rw [LnI_zero]; rfl⟩⟩
  · intro _ _ _ _; trivial
  · intro QQ0 qb0 qn0 qc0
    rintro n v ⟨jd, jo, bi, bj, bk, ti, tj, tk3⟩ u h tk4 o4 ⟨t4q, rfl⟩ hn ho4 ⟨hrow, loj, hBj2, jf, hjm, hjv⟩ hne4 F4 N4
    dsimp only at hrow loj hBj2 hjm hjv hne4 F4 N4 ⊢
    have hBit : ∀ q ∈ B2, q.1 ≠ it := fun q hq => hne4 q (.tail _ hq)
    have hjit : jd ≠ it := hne4 (jd, jo) (.head _)
    subst hB2
    dsimp only [flLd, flPs] at F4 N4 ⊢
    clear Nq Nrq NI NI2 kpq rgq Fq Frq FI hne4
    k_steps
    refine attr_dict_get (by k_asm) (by k_asm) (.tail _ (.head _)) hjm ?_
    intro xg hg Fg Ng lg
    k_steps
    unfold Held
    refine wpAny_For ?_
    k_steps
    rename_i nd _ no lon _ _ hin _ ln1 _ Fn Nn
    refine imap_method (by k_asm) (.tail _ (.tail _ (.tail _ (.tail _ (.tail _ (.tail _ (.tail _ (.tail _ (.tail _ (.head _)))))))))) hf ?_
    k_steps
    have hlen : lo + n < as.length := by have := hx.length; omega
    have hav : as[lo + n]? = some as[lo + n] := List.getElem?_eq_getElem hlen
    obtain ⟨v, tv, hv, hxv⟩ := hx.at (lo + n) _ hav
    rw [hv] at hav
    refine item_nat (p := lo + n) (by k_asm) (.tail _ (.tail _ (.tail _ (.tail _ (.tail _ (.tail _ (.tail _ (.tail _ (.tail _ (.tail _ ma)))))))))) (by omega) hav (by have := hx.length; omega) ?_
    k_steps
    refine imap_get2 (by k_asm) (.tail _ (.tail _ (.tail _ (.tail _ (.tail _ (.tail _ (.tail _ (.tail _ (.tail _ (.head _)))))))))) hf lod ?_
    obtain ⟨l, vs, nl, h1, h2, h3⟩ := tab_list (ln := ln0) htab v
    rw [h1]
    k_steps
    rename News _ _ _ _ => N5
    refine list_iter (vs := vs) (k := nl) (by k_asm) N5 (by
      rcases List.mem_cons.mp h2 with h2 | h2
      · rw [h2]; exact .tail _ (.tail _ (.tail _ (.tail _ (.head _))))
      · exact .tail _ (.tail _ (.tail _ (.tail _ (.tail _ (.tail _ (.tail _ (.tail _ (.tail _ (.tail _ h2)))))))))) ?_
    intro it2 oi2 h6 F6 N6 hoi2 l6
    obtain ⟨B3, hB3⟩ : ∃ B3 : Led, B3 = (xg, bnd "dict.get" jd) :: (it, o4) :: (jd, jo) :: (ln0, listOf #[] 0) :: (xc, bnd "set.__contains__" sj) :: (x, instObj 242 dx) :: (dx, smDict w (.ref la) lb d sj sp t1 t2 t3 t4 t5 t6 t7 t8 t9 t10) :: (sj, setE b1) :: (d, o) :: R := ⟨_, rfl⟩
    have hB3n : ∀ q ∈ B3, q.1 ≠ nd := by
      intro q hq
      rw [hB3] at hq
      simp only [List.mem_cons] at hq
      obtain ⟨a0, a1, a2, a3, a4, a5, a6, a7, a8, a9⟩ := ln1
      rcases hq with rfl | rfl | rfl | rfl | rfl | rfl | rfl | rfl | rfl | hq
      · exact Nat.ne_of_lt a0
      · exact Nat.ne_of_lt a1
      · exact Nat.ne_of_lt a2
      · exact Nat.ne_of_lt a3
      · exact Nat.ne_of_lt a4
      · exact Nat.ne_of_lt a5
      · exact Nat.ne_of_lt a6
      · exact Nat.ne_of_lt a7
      · exact Nat.ne_of_lt a8
      · exact Nat.ne_of_lt (ktn_ltOf a9 q hq)
    rw [← hB3] at N6 l6
    refine for_nameG (Iter.list rfl it2 l vs) (ftLd nd B3) ftPs [Str.ofString "j", Str.ofString "k"] (ftP xs ys lo n v) ⟨no, bi, bj, bk, ti, tj, tk3⟩ oi2 rfl rfl F6 N6 hoi2 ?_ ?_ ?_ ?_ ?_ ?_
    · intro q hq
      exact Nat.ne_of_lt (l6 q hq)
    · intro q hq
      rcases List.mem_cons.mp hq with rfl | hq
      · rfl
      rcases List.mem_cons.mp hq with rfl | hq
      · rfl
      rcases List.mem_cons.mp hq with rfl | hq
      · rfl
      cases hq
    · exact ⟨hrow.start.to_first hxv, _, IMap.empty hin, JPart.start hxv⟩
    · intro c h N7 _
      refine PySem.IsL.isList (n := nl) (N7 (l, _) (.tail _ ?_)).1
      rw [hB3]
      rcases List.mem_cons.mp h2 with h2 | h2
      · rw [h2]; exact .tail _ (.tail _ (.tail _ (.head _)))
      · exact .tail _ (.tail _ (.tail _ (.tail _ (.tail _ (.tail _ (.tail _ (.tail _ (.tail _ h2))))))))
    · intro QQ1 qb1 qn1 qc1
      rintro i vj ⟨no2, ci, cj, ck, ui, uj, uk⟩ u2 h7 tk7 oi7 hvj hni hoi7 ⟨hrow7, nf, hnm, hnp⟩ hne7 F7 N7
      dsimp only [ftLd, ftPs] at hrow7 hnm hnp hne7 F7 N7 ⊢
      obtain ⟨jj, tj7, rfl, hji⟩ := h3.at i vj hvj
      obtain ⟨e1, e2, e3⟩ := jat_at hji
      subst e1
      have hip : i < (posUp ys ys.length v).length := by
        rcases Nat.lt_or_ge i (posUp ys ys.length v).length with q | q
        · exact q
        · rw [List.getElem?_eq_none q] at hji; cases hji
      have hLn := Ln_at (lo := lo) (n := n) hxv e3
      have hLn' : (Ln xs ys lo (n + 1) (jat ys ys.length v i) : Int) = (LnI xs ys lo n ((jat ys ys.length v i : Int) - 1) : Int) + 1 := by omega
      have hLe := Ln_le (xs := xs) (ys := ys) (lo := lo) (n + 1) (jat ys ys.length v i)
      have hst := hrow7.step
      have hnp2 := fun k t (q : k = (Ln xs ys lo (n + 1) (jat ys ys.length v i) : Int)) => hnp.step (k := k) (t := t) hip hxv q
      have hnext : ∀ bi bj bk, Row xs ys lo n (jat ys ys.length v i + 1) bi bj bk → Row xs ys lo n (jat ys ys.length v (i + 1)) bi bj bk := fun _ _ _ h => h.to_next hip hxv
      generalize hJ : jat ys ys.length v i = J at *
      clear N6 N5 Ng N4 l6 lg
      subst hB3
      k_steps
      · exfalso
        have := hy.length
        omega
      refine callWith_bd (id := "dict.get") (a := jd) ?_
      k_steps
      refine hold (P := _ ∧ _) ⟨(N7 (xg, _) (by k_mem)).1, ?_⟩
      refine call_dict_get (a := jd) (by k_asm) (by k_mem) (by k_mem) hjm loj ?_
      obtain ⟨tz, hz⟩ := hjv ((J : Int) - 1) _
      rw [hz]
      k_steps
      rename Fr _ _ _ _ => F8
      rename News _ _ _ _ => N8
      have hit2n : it2 ≠ nd := Ne.symm (hne7 (nd, _) (.head _))
      have N9 := News.sub N8 (news' := (nd, no2) :: (it2, oi7) :: (xg, bnd "dict.get" jd) :: (it, o4) :: (jd, jo) :: (ln0, listOf #[] 0) :: (xc, bnd "set.__contains__" sj) :: (x, instObj 242 dx) :: (dx, smDict w (.ref la) lb d sj sp t1 t2 t3 t4 t5 t6 t7 t8 t9 t10) :: (sj, setE b1) :: (d, o) :: R) (by
        intro q hq
        rcases List.mem_cons.mp hq with rfl | hq
        · exact .tail _ (.head _)
        rcases List.mem_cons.mp hq with rfl | hq
        · exact .head _
        · exact .tail _ (.tail _ hq))
      refine imap_set F8 N9 (by
        intro q hq
        rcases List.mem_cons.mp hq with rfl | hq
        · exact hit2n
        · exact hB3n q hq) hnm (by have := posUp_length ys ys.length v; omega) ?_
      intro h9 no9 F9 N10 hm9
      clear N8 N7 F7 N9 F8
      rw [← hLn'] at hm9
      k_steps
      · rename (_ < _ + 1) => hlt
        refine qn1 _ _ _ ?_
        refine ft_end (by k_asm) (by k_asm) (.tail _ (.tail _ (.head _))) (.tail _ (.head _)) ?_ (Ne.symm hit2n) (fun q hq => hne7 q (.tail _ hq)) rfl rfl rfl (lo + n + 1 - Ln xs ys lo (n + 1) J) (J + 1 - Ln xs ys lo (n + 1) J) (Ln xs ys lo (n + 1) J) (by omega) (by omega) (by omega) ?_ ?_
        · intro q hq
          exact .tail _ (.tail _ (.tail _ hq))
        · intro z z1 z2
          repeat (refine skip_if (by first | exact (fun e => absurd z2 (by rw [e]; (try dsimp only); decide)) | (have e := z1 _ (.head _); exact e) | (have e := z1 _ (.tail _ (.head _)); exact e) | (have e := z1 _ (.tail _ (.tail _ (.head _))); exact e)) ?_)
          exact same_of (ps := []) z2 (fun _ h => nomatch h)
        · intro _ _ _
          exact ⟨hnext _ _ _ (hst.1 (by omega)), _, hm9, hnp2 _ _ rfl⟩
      · rename (¬ _ < _ + 1) => hlt
        refine qn1 _ _ _ ?_
        refine ft_end (by k_asm) (by k_asm) (.tail _ (.head _)) (.head _) ?_ (Ne.symm hit2n) (fun q hq => hne7 q (.tail _ hq)) rfl rfl rfl ci cj ck rfl rfl rfl ?_ ?_
        · intro q hq
          exact .tail _ (.tail _ hq)
        · intro z z1 z2
          repeat (refine skip_if (by first | exact (fun e => absurd z2 (by rw [e]; (try dsimp only); decide)) | (have e := z1 _ (.head _); exact e) | (have e := z1 _ (.tail _ (.head _)); exact e) | (have e := z1 _ (.tail _ (.tail _ (.head _))); exact e)) ?_)
          exact same_of (ps := []) z2 (fun _ h => nomatch h)
        · intro _ _ _
          exact ⟨hnext _ _ _ (hst.2 (by omega)), _, hm9, hnp2 _ _ rfl⟩
    · rintro ⟨no2, ci, cj, ck, ui, uj, uk⟩ u2 h7 tk7 ⟨hrow7, nf, hnm, hnp⟩ F7 N7
      dsimp only [ftLd, ftPs] at hrow7 hnm hnp F7 N7 ⊢
      have hBn : ∀ q ∈ ((ln0, listOf #[] 0) :: (xc, bnd "set.__contains__" sj) :: (x, instObj 242 dx) :: (dx, smDict w (.ref la) lb d sj sp t1 t2 t3 t4 t5 t6 t7 t8 t9 t10) :: (sj, setE b1) :: (d, o) :: R : Led), q.1 ≠ nd := fun q hq => hB3n q (by rw [hB3]; exact .tail _ (.tail _ (.tail _ hq)))
      have hitn : it ≠ nd := hB3n (it, o4) (by rw [hB3]; exact .tail _ (.head _))
      subst hB3
      clear N6 N5 Ng N4 l6 lg
      have hpl := h3.length
      rw [hpl] at hrow7 hnm hnp
      rw [jat_end (Nat.le_refl _)] at hrow7
      have hpu := posUp_length ys ys.length v
      k_steps
      refine qn0 _ _ _ ?_
      refine fl_end (by k_asm) (by k_asm) (.tail _ (.tail _ (.head _))) (.head _) ?_ (Ne.symm hitn) hBit rfl rfl rfl rfl ci cj ck rfl rfl rfl ?_ ?_
      · intro q hq
        exact .tail _ (.tail _ (.tail _ (.tail _ hq)))
      · intro z z1 z2
        repeat (refine skip_if (by first | exact (fun e => absurd z2 (by rw [e]; (try dsimp only); decide)) | (have e := z1 _ (.head _); exact e) | (have e := z1 _ (.tail _ (.head _)); exact e) | (have e := z1 _ (.tail _ (.tail _ (.head _))); exact e) | (have e := z1 _ (.tail _ (.tail _ (.tail _ (.head _)))); exact e)) ?_)
        refine kstB_ne (ps := []) (fun _ h => nomatch h) ?_
        refine skip_stored (contains_sub z2 (by decide)) ?_
        repeat (refine skip_if (by first | exact (fun e => absurd z2 (by rw [e]; (try dsimp only); decide))) ?_)
        exact same_of (ps := flPs ⟨jd, jo, bi, bj, bk, ti, tj, tk3⟩) z2 (names_ne z1 rfl)
      · intro _ _ _
        exact ⟨hrow7, lon, hBn, nf, hnm.le (by omega), hnp.done⟩
  · rintro ⟨jd, jo, bi, bj, bk, ti, tj, tk3⟩ u h tk4 ⟨hrow, -, -, -⟩ F4 N4
    dsimp only [flLd, flPs] at hrow F4 N4 ⊢
    have hR := FlR.of_rows hrow hlo
    subst hB2
    obtain ⟨B5, hB5⟩ : ∃ B5 : Led, B5 = (xc, bnd "set.__contains__" sj) :: (x, instObj 242 dx) :: (dx, smDict w (.ref la) lb d sj sp t1 t2 t3 t4 t5 t6 t7 t8 t9 t10) :: (sj, setE b1) :: (d, o) :: R := ⟨_, rfl⟩
    have N5 : News _ _ _ B5 := News.sub N4 (news' := B5) (by rw [hB5]; exact fun q hq => .tail _ (.tail _ hq))
    clear Nq Nrq NI NI2 kpq rgq Fq Frq FI N4
    k_steps
    obtain ⟨m0, hm0, F5⟩ := fr_map F4
    obtain ⟨tb, h7⟩ : ∃ tb, ∀ q ∈ flNames lo hi bs.length tl th tb la lb xc, m0 q.1 = some q.2 := by
      rw [hm0]
      exact ⟨_, seven rfl rfl rfl rfl rfl rfl rfl⟩
    have h10 : ∀ q ∈ flThree (bi, bj, bk, ti, tj, tk3) ++ flNames lo hi bs.length tl th tb la lb xc, m0 q.1 = some q.2 := ten (by rw [hm0]; rfl) (by rw [hm0]; rfl) (by rw [hm0]; rfl) h7
    clear hm0 F4 h7 hrow
    have F6 := Fr.told F5 h10
    dsimp only [flThree, flNames, List.cons_append, List.nil_append] at F6
    clear F5 h10
    -- while 1
    unfold Held
    refine wpAny_mono (ksw_whileG (Q := Mid F6 s (FlMid xs ys lo hi bs.length tl th tb la lb xc B5)) (σ := Nat × Nat × Nat × Tok × Tok × Tok) (fun _ => B5) flThree (fun _ => True) [] (fun c => FlR xs ys lo hi c.1 c.2.1 c.2.2.1) (fun c => c.1) (bi, bj, bk, ti, tj, tk3) F6 N5 trivial ?_ hR ?_) ?_ ?_
    · intro q hq
      rcases List.mem_cons.mp hq with rfl | hq
      · rfl
      rcases List.mem_cons.mp hq with rfl | hq
      · rfl
      rcases List.mem_cons.mp hq with rfl | hq
      · rfl
      cases hq
    · clear hR N5
      intro QX QQ qx qb qn qc
      rintro ⟨ci, cj, ck, ui, uj, uk⟩ u2 h7 tk7 - hR F7 N7
      dsimp only [flThree] at hR F7 N7 ⊢
      rw [hB5] at N7
      k_steps
      · obtain ⟨hb1, hb2, hb3, hb4⟩ := id hR.1
        have hlx := hx.length
        have hly := hy.length
        have hj : cj - 1 < bs.length := by omega
        obtain ⟨yv, ty, hyv, hyy⟩ := hy.at (cj - 1) _ (List.getElem?_eq_getElem hj)
        have hyb : bs[cj - 1]? = some (.int yv ty) := by rw [List.getElem?_eq_getElem hj, hyv]
        have hi' : ci - 1 < as.length := by omega
        obtain ⟨xv, tx, hxv, hxx⟩ := hx.at (ci - 1) _ (List.getElem?_eq_getElem hi')
        have hxb : as[ci - 1]? = some (.int xv tx) := by rw [List.getElem?_eq_getElem hi', hxv]
        refine callWith_bd (id := "set.__contains__") (a := sj) ?_
        k_steps
        refine item_nat (p := cj - 1) (by k_asm) (.tail _ (.tail _ (.tail _ (.tail _ (.tail _ mb'))))) (by omega) hyb (by omega) ?_
        k_steps
        rename News _ _ _ _ => N8
        refine hold (P := _ ∧ _) ⟨(N8 (xc, _) (.head _)).1, ?_⟩
        refine call_set_contains (by k_asm) (.head _) (.tail _ (.tail _ (.tail _ (.head _)))) ?_
        dsimp only
        k_steps
        refine item_nat (p := ci - 1) (by k_asm) (.tail _ (.tail _ (.tail _ (.tail _ (.tail _ ma))))) (by omega) hxb (by omega) ?_
        dsimp only
        k_steps
        refine item_nat (p := cj - 1) (by k_asm) (.tail _ (.tail _ (.tail _ (.tail _ (.tail _ mb'))))) (by omega) hyb (by omega) ?_
        dsimp only
        k_steps
        · rename (xv = yv) => hxy
          refine qn _ _ ?_
          refine fw_end (by k_asm) (by k_asm) (by rw [hB5]; exact fun q hq => .tail _ hq) rfl rfl rfl (ci - 1) (cj - 1) (ck + 1) (by omega) (by omega) (by omega) ?_ ?_ ?_
          · intro z z1 z2
            iterate 3 (refine skip_if (by first | (have e := z1 _ (.head _); exact e) | (have e := z1 _ (.tail _ (.head _)); exact e) | (have e := z1 _ (.tail _ (.tail _ (.head _))); exact e)) ?_)
            exact same_of (ps := flThree (ci, cj, ck, ui, uj, uk)) z2 (names_ne z1 rfl)
          · exact fun _ _ _ => hR.left (by omega) (by omega) (by rw [hxx, hyy, hxy])
          · intro _ _ _
            show ci - 1 < ci
            omega
        · refine qx _ ?_
          refine ⟨rfl, _, _, _, _, rfl, by k_asm, by k_asm, ?_⟩
          rw [← hB5]; exact fl_mid rfl rfl rfl (seven rfl rfl rfl rfl rfl rfl rfl) ci cj ck rfl rfl rfl hR
      · refine qx _ ?_
        refine ⟨rfl, _, _, _, _, rfl, by k_asm, by k_asm, ?_⟩
        rw [← hB5]; exact fl_mid rfl rfl rfl (seven rfl rfl rfl rfl rfl rfl rfl) ci cj ck rfl rfl rfl hR
      · refine qx _ ?_
        refine ⟨rfl, _, _, _, _, rfl, by k_asm, by k_asm, ?_⟩
        rw [← hB5]; exact fl_mid rfl rfl rfl (seven rfl rfl rfl rfl rfl rfl rfl) ci cj ck rfl rfl rfl hR
    rotate_left
    · intro _ _ q; exact q.elim
    rintro fl s9 ⟨rfl, h21, tk21, m21, n21, rfl, F9, N5, ⟨di1, dj1, dk1, vi1, vj1, vk1⟩, h10, hn9, hR⟩
    rw [hn9] at N5
    clear F6 hn9
    have F6 := Fr.told F9 h10
    dsimp only [flThree, flNames, List.cons_append, List.nil_append] at F6 hR
    clear F9 h10
    k_steps
    -- while 2
    unfold Held
    refine wpAny_mono (ksw_whileG (Q := Mid F6 s (FlMid xs ys lo hi bs.length tl th tb la lb xc B5)) (σ := Nat × Nat × Nat × Tok × Tok × Tok) (fun _ => B5) flThree (fun _ => True) [] (fun c => FlR xs ys lo hi c.1 c.2.1 c.2.2.1) (fun c => hi - (c.1 + c.2.2.1)) (di1, dj1, dk1, vi1, vj1, vk1) F6 N5 trivial ?_ hR ?_) ?_ ?_
    · intro q hq
      rcases List.mem_cons.mp hq with rfl | hq
      · rfl
      rcases List.mem_cons.mp hq with rfl | hq
      · rfl
      rcases List.mem_cons.mp hq with rfl | hq
      · rfl
      cases hq
    · clear hR N5
      intro QX QQ qx qb qn qc
      rintro ⟨ci, cj, ck, ui, uj, uk⟩ u2 h7 tk7 - hR F7 N7
      dsimp only [flThree] at hR F7 N7 ⊢
      rw [hB5] at N7
      k_steps
      · obtain ⟨hb1, hb2, hb3, hb4⟩ := id hR.1
        have hlx := hx.length
        have hly := hy.length
        have hj : cj + ck < bs.length := by omega
        obtain ⟨yv, ty, hyv, hyy⟩ := hy.at (cj + ck) _ (List.getElem?_eq_getElem hj)
        have hyb : bs[cj + ck]? = some (.int yv ty) := by rw [List.getElem?_eq_getElem hj, hyv]
        have hi' : ci + ck < as.length := by omega
        obtain ⟨xv, tx, hxv, hxx⟩ := hx.at (ci + ck) _ (List.getElem?_eq_getElem hi')
        have hxb : as[ci + ck]? = some (.int xv tx) := by rw [List.getElem?_eq_getElem hi', hxv]
        refine callWith_bd (id := "set.__contains__") (a := sj) ?_
        k_steps
        refine item_nat (p := cj + ck) (by k_asm) (.tail _ (.tail _ (.tail _ (.tail _ (.tail _ mb'))))) (by omega) hyb (by omega) ?_
        k_steps
        rename News _ _ _ _ => N8
        refine hold (P := _ ∧ _) ⟨(N8 (xc, _) (.head _)).1, ?_⟩
        refine call_set_contains (by k_asm) (.head _) (.tail _ (.tail _ (.tail _ (.head _)))) ?_
        dsimp only
        k_steps
        refine item_nat (p := ci + ck) (by k_asm) (.tail _ (.tail _ (.tail _ (.tail _ (.tail _ ma))))) (by omega) hxb (by omega) ?_
        dsimp only
        k_steps
        refine item_nat (p := cj + ck) (by k_asm) (.tail _ (.tail _ (.tail _ (.tail _ (.tail _ mb'))))) (by omega) hyb (by omega) ?_
        dsimp only
        k_steps
        · rename (xv = yv) => hxy
          refine qn _ _ ?_
          refine fw_end (by k_asm) (by k_asm) (by rw [hB5]; exact fun q hq => hq) rfl rfl rfl ci cj (ck + 1) rfl rfl (by omega) ?_ ?_ ?_
          · intro z z1 z2
            iterate 1 (refine skip_if (by first | (have e := z1 _ (.head _); exact e) | (have e := z1 _ (.tail _ (.head _)); exact e) | (have e := z1 _ (.tail _ (.tail _ (.head _))); exact e)) ?_)
            exact same_of (ps := flThree (ci, cj, ck, ui, uj, uk)) z2 (names_ne z1 rfl)
          · exact fun _ _ _ => hR.right (by omega) (by omega) (by rw [hxx, hyy, hxy])
          · intro _ _ _
            show hi - (ci + (ck + 1)) < hi - (ci + ck)
            omega
        · refine qx _ ?_
          refine ⟨rfl, _, _, _, _, rfl, by k_asm, by k_asm, ?_⟩
          rw [← hB5]; exact fl_mid rfl rfl rfl (seven rfl rfl rfl rfl rfl rfl rfl) ci cj ck rfl rfl rfl hR
      · refine qx _ ?_
        refine ⟨rfl, _, _, _, _, rfl, by k_asm, by k_asm, ?_⟩
        rw [← hB5]; exact fl_mid rfl rfl rfl (seven rfl rfl rfl rfl rfl rfl rfl) ci cj ck rfl rfl rfl hR
      · refine qx _ ?_
        refine ⟨rfl, _, _, _, _, rfl, by k_asm, by k_asm, ?_⟩
        rw [← hB5]; exact fl_mid rfl rfl rfl (seven rfl rfl rfl rfl rfl rfl rfl) ci cj ck rfl rfl rfl hR
    rotate_left
    · intro _ _ q; exact q.elim
    rintro fl s9 ⟨rfl, h22, tk22, m22, n22, rfl, F9, N5, ⟨di2, dj2, dk2, vi2, vj2, vk2⟩, h10, hn9, hR⟩
    rw [hn9] at N5
    clear F6 hn9
    have F6 := Fr.told F9 h10
    dsimp only [flThree, flNames, List.cons_append, List.nil_append] at F6 hR
    clear F9 h10
    k_steps
    -- while 3
    unfold Held
    refine wpAny_mono (ksw_whileG (Q := Mid F6 s (FlMid xs ys lo hi bs.length tl th tb la lb xc B5)) (σ := Nat × Nat × Nat × Tok × Tok × Tok) (fun _ => B5) flThree (fun _ => True) [] (fun c => FlR xs ys lo hi c.1 c.2.1 c.2.2.1) (fun c => c.1) (di2, dj2, dk2, vi2, vj2, vk2) F6 N5 trivial ?_ hR ?_) ?_ ?_
    · intro q hq
      rcases List.mem_cons.mp hq with rfl | hq
      · rfl
      rcases List.mem_cons.mp hq with rfl | hq
      · rfl
      rcases List.mem_cons.mp hq with rfl | hq
      · rfl
      cases hq
    · clear hR N5
      intro QX QQ qx qb qn qc
      rintro ⟨ci, cj, ck, ui, uj, uk⟩ u2 h7 tk7 - hR F7 N7
      dsimp only [flThree] at hR F7 N7 ⊢
      rw [hB5] at N7
      k_steps
      · obtain ⟨hb1, hb2, hb3, hb4⟩ := id hR.1
        have hlx := hx.length
        have hly := hy.length
        have hj : cj - 1 < bs.length := by omega
        obtain ⟨yv, ty, hyv, hyy⟩ := hy.at (cj - 1) _ (List.getElem?_eq_getElem hj)
        have hyb : bs[cj - 1]? = some (.int yv ty) := by rw [List.getElem?_eq_getElem hj, hyv]
        refine callWith_bd (id := "set.__contains__") (a := sj) ?_
        k_steps
        refine item_nat (p := cj - 1) (by k_asm) (.tail _ (.tail _ (.tail _ (.tail _ (.tail _ mb'))))) (by omega) hyb (by omega) ?_
        k_steps
        rename News _ _ _ _ => N8
        refine hold (P := _ ∧ _) ⟨(N8 (xc, _) (.head _)).1, ?_⟩
        refine call_set_contains (by k_asm) (.head _) (.tail _ (.tail _ (.tail _ (.head _)))) ?_
        dsimp only
        k_steps
        refine qx _ ?_
        refine ⟨rfl, _, _, _, _, rfl, by k_asm, by k_asm, ?_⟩
        rw [← hB5]; exact fl_mid rfl rfl rfl (seven rfl rfl rfl rfl rfl rfl rfl) ci cj ck rfl rfl rfl hR
      · refine qx _ ?_
        refine ⟨rfl, _, _, _, _, rfl, by k_asm, by k_asm, ?_⟩
        rw [← hB5]; exact fl_mid rfl rfl rfl (seven rfl rfl rfl rfl rfl rfl rfl) ci cj ck rfl rfl rfl hR
      · refine qx _ ?_
        refine ⟨rfl, _, _, _, _, rfl, by k_asm, by k_asm, ?_⟩
        rw [← hB5]; exact fl_mid rfl rfl rfl (seven rfl rfl rfl rfl rfl rfl rfl) ci cj ck rfl rfl rfl hR
    rotate_left
    · intro _ _ q; exact q.elim
    rintro fl s9 ⟨rfl, h23, tk23, m23, n23, rfl, F9, N5, ⟨di3, dj3, dk3, vi3, vj3, vk3⟩, h10, hn9, hR⟩
    rw [hn9] at N5
    clear F6 hn9
    have F6 := Fr.told F9 h10
    dsimp only [flThree, flNames, List.cons_append, List.nil_append] at F6 hR
    clear F9 h10
    k_steps
    -- while 4
    unfold Held
    refine wpAny_mono (ksw_whileG (Q := Mid F6 s (FlMid xs ys lo hi bs.length tl th tb la lb xc B5)) (σ := Nat × Nat × Nat × Tok × Tok × Tok) (fun _ => B5) flThree (fun _ => True) [] (fun c => FlR xs ys lo hi c.1 c.2.1 c.2.2.1) (fun c => hi - (c.1 + c.2.2.1)) (di3, dj3, dk3, vi3, vj3, vk3) F6 N5 trivial ?_ hR ?_) ?_ ?_
    · intro q hq
      rcases List.mem_cons.mp hq with rfl | hq
      · rfl
      rcases List.mem_cons.mp hq with rfl | hq
      · rfl
      rcases List.mem_cons.mp hq with rfl | hq
      · rfl
      cases hq
    · clear hR N5
      intro QX QQ qx qb qn qc
      rintro ⟨ci, cj, ck, ui, uj, uk⟩ u2 h7 tk7 - hR F7 N7
      dsimp only [flThree] at hR F7 N7 ⊢
      rw [hB5] at N7
      k_steps
      · obtain ⟨hb1, hb2, hb3, hb4⟩ := id hR.1
        have hlx := hx.length
        have hly := hy.length
        have hj : cj + ck < bs.length := by omega
        obtain ⟨yv, ty, hyv, hyy⟩ := hy.at (cj + ck) _ (List.getElem?_eq_getElem hj)
        have hyb : bs[cj + ck]? = some (.int yv ty) := by rw [List.getElem?_eq_getElem hj, hyv]
        refine callWith_bd (id := "set.__contains__") (a := sj) ?_
        k_steps
        refine item_nat (p := cj + ck) (by k_asm) (.tail _ (.tail _ (.tail _ (.tail _ (.tail _ mb'))))) (by omega) hyb (by omega) ?_
        k_steps
        rename News _ _ _ _ => N8
        refine hold (P := _ ∧ _) ⟨(N8 (xc, _) (.head _)).1, ?_⟩
        refine call_set_contains (by k_asm) (.head _) (.tail _ (.tail _ (.tail _ (.head _)))) ?_
        dsimp only
        k_steps
        refine qx _ ?_
        refine ⟨rfl, _, _, _, _, rfl, by k_asm, by k_asm, ?_⟩
        rw [← hB5]; exact fl_mid rfl rfl rfl (seven rfl rfl rfl rfl rfl rfl rfl) ci cj ck rfl rfl rfl hR
      · refine qx _ ?_
        refine ⟨rfl, _, _, _, _, rfl, by k_asm, by k_asm, ?_⟩
        rw [← hB5]; exact fl_mid rfl rfl rfl (seven rfl rfl rfl rfl rfl rfl rfl) ci cj ck rfl rfl rfl hR
      · refine qx _ ?_
        refine ⟨rfl, _, _, _, _, rfl, by k_asm, by k_asm, ?_⟩
        rw [← hB5]; exact fl_mid rfl rfl rfl (seven rfl rfl rfl rfl rfl rfl rfl) ci cj ck rfl rfl rfl hR
    rotate_left
    · intro _ _ q; exact q.elim
    rintro fl s9 ⟨rfl, h24, tk24, m24, n24, rfl, F9, N5, ⟨di4, dj4, dk4, vi4, vj4, vk4⟩, h10, hn9, hR⟩
    rw [hn9] at N5
    clear F6 hn9
    have F6 := Fr.told F9 h10
    dsimp only [flThree, flNames, List.cons_append, List.nil_append] at F6 hR
    clear F9 h10
    k_steps
    refine mt_call (X'.keeps F6.keep) ?_
    k_dflt (refine' code_def ?k1 ?k2 ?k3 ?k4 ?k5 ?kA ?kF ?kK ?k6 ?k7 ?k8 ?k9 ?kB ?_ ?c2 ?c3 ?c4 ?c5; (case kA => exact rfl); (case kF => exact rfl); (case kK => first | assumption | exact rfl); (case k1 => k_asm); (case k2 => k_asm); (case k3 => k_asm); (case k4 => k_asm); (case k5 => k_asm); (case k6 => k_is); (case k7 => k_is); (case k8 => ktr_room); (case k9 => first | exact BindsTo.of_eq rfl | exact binds_K (by k_in) rfl (by k_is) rfl rfl rfl); (case c5 => decide); (case kB => exact locs rfl); (case c2 => exact rfl); (case c3 => exact rfl); (case c4 => exact rfl); k_whole; intro g' L' h' FG' F' N' B' X' T'; (try dsimp only); (try k_fold))
    k_steps
    refine method_type (T := "tuple") (v := .builtin "tuple.__new__") (by k_asm) (by k_asm) (by kernel_rfl) (by decide +kernel) (by rfl) rfl ?_
    k_steps
    rename News _ _ _ _ => N30
    refine mt_new (by k_asm) X' N30 (.head _) (by simp) ?_
    intro mx mdx h30 F30 N31 l30 l31
    k_steps
    rename News _ _ _ _ => kN9
    rename (K w.params).In _ => kX9
    rename Fr _ _ _ _ => kF9
    refine ⟨mx, mdx, _, rfl, (kN9 _ (.head _)).1, kX9.keeps kF9.keep, ?_⟩
    dsimp only
    k_steps
    rename News _ _ _ _ => kN10
    rename Fr _ _ _ _ => kF10
    subst hB5
    refine hret (.ref mx) ((mx, _) :: _) _ _ kF10 (News.sub kN10 ?_) ⟨mx, mdx, di4, dj4, dk4, vi4, vj4, vk4, rfl, rfl, ?_, hR⟩
    · intro q hq
      rcases List.mem_cons.mp hq with rfl | hq
      · exact .head _
      · exact .tail _ (.tail _ (.tail _ (.tail _ hq)))
    · intro p hp
      exact Nat.lt_trans (l30 p (.tail _ (.tail _ hp))) l31
end Mine
end
section
open PySem PySem.W PyProof.Rows PySem.Spec PySem.Calls
set_option maxRecDepth 100000
namespace Mine
theorem filledLc : PySem.Challenge.rw_nq0313_01.prog = PySem.Challenge.rw_nq0313_01.prog ∧ K = K := by
  k_fill
  exact ⟨rfl, rfl⟩
local macro_rules
  | `(tactic| walk_at "call ref") => `(tactic| refine hold ?_)
  | `(tactic| walk_at "exec For Name Call cons nil") => `(tactic| refine hold ?_)
  | `(tactic| walk_at "FPost next") => `(tactic| refine hold ?_)
  | `(tactic| walk_at "subscriptTail Name Name ref int") => `(tactic| refine hold ?_)
  | `(tactic| walk_at "unpackItems ref") => `(tactic| refine hold ?_)
  | `(tactic| walk_at "assign Tuple cons ref") => `(tactic| refine hold ?_)
  | `(tactic| walk_at "exec If Compare cons nil") => `(tactic| refine hold ?_)
  | `(tactic| walk_at "Mid next") => `(tactic| refine hold ?_)
  | `(tactic| walk_at "binaryOp Add ref") => `(tactic| refine hold ?_)
  | `(tactic| walk_at "call builtin:list.append cons nil") => `(tactic| refine hold ?_)
  | `(tactic| walk_at "subscriptTail Name Slice ref ref") => `(tactic| refine hold ?_)
  | `(tactic| walk_at "call builtin:min cons nil") => `(tactic| refine hold ?_)
  | `(tactic| walk_at "subscriptTail Name UnaryOp ref int") => `(tactic| refine hold ?_)

set_option maxHeartbeats 0 in
theorem cheapest_spec (w : World) (R : Led) (la lb : Addr) (as bs : List Value) (xs ys : List Int) (na nb : Nat) (fee : Int) (tf : Tok) (W : Nat → Way) (hx : IntsAre as xs) (hy : IntsAre bs ys) (hxs : xs.length ≤ 70) (hys : ys.length ≤ 70)
  (ma : (la, listOf as.toArray na) ∈ R) (mb' : (lb, listOf bs.toArray nb) ∈ R) (hW : Best xs ys fee xs.length W) :
  CallOk w 295 [.ref la, .ref lb, .int fee tf] R 12 80 (fun r news' => (∀ p ∈ R, p ∈ news') ∧ WayIs news' r (W xs.length)) := by
  unfold CallOk
  intro prog pp loose mean mg mb dp un gd cn cs a ccd cl outer A₀ base h₀ L m s Q E B F X N T hk hd hu hret
  have hlx := hx.length
  have hly := hy.length
  refine wpAny_call ?_
  k_dflt ktr_enter
  k_steps
  rename_i g' L' h' FG' B' X' T' tz D1 _ l1 D2 _ l2 wy _ l3 _ F3 N3
  unfold Held
  refine wpAny_For ?_
  k_steps
  refine len_nat (vs := as) (n := na) (by k_asm) (.tail _ (.tail _ (.tail _ ma))) (by have := hx.length; omega) ?_
  dsimp only
  k_steps
  rename_i tk1 _ _ _ _ _ rg Frg Nrg kprg
  refine range_iter Frg Nrg rg as.length (by omega) (by omega) (by have := hx.length; omega) ?_
  intro it0 hI FI NI li
  have NI2 := News.sub NI (news' := (it0, { cls := .type "range_iterator", data := .fields #[rawInt ((1 : Int) + ((0 : Nat) : Int)), rawInt ((as.length : Int) - ((0 : Nat) : Int)), rawInt 1] }) :: (wy, listOf #[.ref D2] 0) :: (D2, tupO [.int 0 tz, .ref D1]) :: (D1, tupO []) :: R) (fun q hq => hq)
  obtain ⟨a1, a2, a3⟩ := l3
  have hRw : ∀ q ∈ R, q.1 ≠ wy := fun q hq => Nat.ne_of_lt (ktn_ltOf a3 q hq)
  refine for_nameG (Iter.range rfl it0 (1 : Int) as.length) (hrLd wy []) (fun _ => []) [Str.ofString "end", Str.ofString "here", Str.ofString "begin", Str.ofString "cost", Str.ofString "pieces", Str.ofString "j"]
    (fun i (c : GrS) => (∀ p ∈ R, p ∈ c.1) ∧ (∀ p ∈ c.1, p.1 ≠ wy) ∧ WayTab c.1 c.2.1 W (i + 1)) ((D2, tupO [.int 0 tz, .ref D1]) :: (D1, tupO []) :: R, [.ref D2], 0) _ rfl rfl FI NI2 rfl ?_ ?_ ?_ ?_ ?_ ?_
  · intro q hq
    exact Nat.ne_of_lt (li q hq)
  · intro q hq; cases hq
  · refine ⟨fun p hp => .tail _ (.tail _ hp), ?_, rfl, ?_⟩
    · intro p hp
      rcases List.mem_cons.mp hp with rfl | hp
      · exact Nat.ne_of_lt a1
      rcases List.mem_cons.mp hp with rfl | hp
      · exact Nat.ne_of_lt a2
      · exact hRw p hp
    · intro e v he
      cases e with
      | zero =>
        cases he
        rw [hW.1]
        exact ⟨D2, tz, .ref D1, rfl, .head _, D1, [], rfl, .tail _ (.head _), .nil⟩
      | succ e => simp at he
  · intro _ _ _ _; trivial
  · intro QQ0 qb0 qn0 qc0
    rintro n v ⟨G, vs, vn⟩ u h tk4 o4 ⟨t4q, rfl⟩ hn ho4 ⟨hRG, hGw, hT⟩ hne4 F4 N4
    dsimp only [hrLd, List.nil_append] at hRG hGw hT hne4 F4 N4 ⊢
    clear NI NI2 Nrg Frg rg FI
    have hGi : ∀ q ∈ G, q.1 ≠ it0 := fun q hq => hne4 q (.tail _ hq)
    have hwi : wy ≠ it0 := hne4 (wy, _) (.head _)
    k_steps
    rename_i hr _ _ _ lh _ Fh Nh
    unfold Held
    refine wpAny_For ?_
    k_steps
    rename_i rg1 Frg1 Nrg1 kprg1
    refine range_iter Frg1 Nrg1 rg1 (n + 1) (by omega) (by omega) (by have := hx.length; omega) ?_
    intro it1 h1 F1 N1 li1
    obtain ⟨b1, b2, b3⟩ := lh
    refine for_nameG (Iter.range rfl it1 (0 : Int) (n + 1)) (hrLd hr [(it0, o4), (wy, listOf vs.toArray vn)]) (fun _ => []) [Str.ofString "begin", Str.ofString "cost", Str.ofString "pieces", Str.ofString "j"]
      (fun b (c : GrS) => (∀ p ∈ G, p ∈ c.1) ∧ (∀ p ∈ c.1, p.1 ≠ hr ∧ p.1 ≠ it0 ∧ p.1 ≠ wy) ∧ ∃ ws, WaysIs c.1 c.2.1 ws ∧ HereSpec xs ys fee W (n + 1) b ws ∧ ws.length ≤ 100 * b) (G, [], 0) _ rfl rfl F1 N1 rfl ?_ ?_ ?_ ?_ ?_ ?_
    · intro q hq
      exact Nat.ne_of_lt (li1 q hq)
    · intro q hq; cases hq
    · exact ⟨fun p hp => hp, fun p hp => ⟨Nat.ne_of_lt (ktn_ltOf b3 p hp), hGi p hp, hGw p hp⟩, [], WaysIs.nil, HereSpec.start, Nat.zero_le _⟩
    · intro _ _ _ _; trivial
    · intro QQ1 qb1 qn1 qc1
      rintro b v ⟨G1, hs, hn1⟩ u1 h5 tk5 o5 ⟨t5q, rfl⟩ hb ho5 ⟨hGG, hG1, ws, hws, hspec, hlen⟩ hne5 F5 N5
      dsimp only [hrLd, List.cons_append, List.nil_append] at hGG hG1 hws hne5 F5 N5 ⊢
      clear N1 F1
      k_steps
      have hbv : b < vs.length := by rw [hT.1]; exact hb
      have hvb : vs[b]? = some vs[b] := List.getElem?_eq_getElem hbv
      refine hide ?_
      intro G9 hG9
      obtain ⟨wa, wt, wp, hwe, wm, wpc⟩ := (hT.2 b _ hvb).mono hGG
      refine hG9 ?_
      clear hG9 G9
      rw [hwe] at hvb
      refine item_nat (p := b) (by k_asm) (.tail _ (.tail _ (.tail _ (.head _)))) (by omega) hvb (by have := hx.length; have := hT.1; omega) ?_
      dsimp only
      k_steps
      refine assign_led (x := wa) (vs := [.int (W b).1 wt, wp]) (by k_asm) (by k_asm) (.tail _ (.tail _ (.tail _ (.tail _ wm)))) rfl rfl rfl ?_
      intro h6 F6 N6
      dsimp only
      k_steps
      rename Fr _ _ _ _ => F7
      rename News _ _ _ _ => N7
      obtain ⟨mc, hmc, Fc⟩ := fr_map F7
      unfold Held
      refine wpAny_mono (E := ek) (Q := Mid Fc s (fun m' news' => m' = mc ∧ ∃ (G2 : Led) (hs2 : List Value) (hn2 : Nat), news' = (it1, o5) :: (hr, listOf hs2.toArray hn2) :: (it0, o4) :: (wy, listOf vs.toArray vn) :: G2 ∧ (∀ p ∈ G1, p ∈ G2) ∧ (∀ p ∈ G2, p.1 ≠ hr ∧ p.1 ≠ it0 ∧ p.1 ≠ wy ∧ p.1 ≠ it1) ∧
        ∃ ws2, WaysIs G2 hs2 ws2 ∧ HereMid xs ys fee W (n + 1) b 0 ws2 ∧ ws2.length ≤ 100 * b + 1)) (wpAny_If ?_) ?_ ?_
      · subst hmc
        k_steps
        · rename (_ = 1 + (n : Int)) => hbe
          have hbx : b < as.length := by omega
          have hax : as[b]? = some as[b] := List.getElem?_eq_getElem hbx
          refine hide ?_
          intro G9 hG9
          obtain ⟨xv, tx, hxe, hxx⟩ := hx.at b _ hax
          refine hG9 ?_
          clear hG9 G9
          rw [hxe] at hax
          refine item_nat (p := b) (by k_asm) (.tail _ (.tail _ (.tail _ (.tail _ (hGG _ (hRG _ ma)))))) (by omega) hax (by have := hx.length; omega) ?_
          dsimp only
          k_steps
          rename_i ta _ lta qa _ Fq Nq lqa
          have hbn : b + 1 = n + 1 := by omega
          refine pcs_add (q := qa) (tv := .ref ta) (ps := (W b).2) (t := ((b : Int), (b : Int) + 1, (-1 : Int))) (G := G1) (G' := (qa, _) :: (ta, _) :: G1) Fq Nq wpc (fun p hp => .tail _ (.tail _ hp)) (all_cons (.head _) (all_cons (.tail _ (.head _)) fun p hp => .tail _ (.tail _ (.tail _ (.tail _ (.tail _ (.tail _ hp))))))) (.head _) (tri_is (.tail _ (.head _)) (by show (0 : Int) + (b : Int) = (b : Int); omega) (by show (1 : Int) + (n : Int) = (b : Int) + 1; omega) rfl)
            (by have := best_len hW b (by have := hx.length; omega); have := hx.length; omega) ?_
          intro a9 us h9 F9 N9 hqa9 htr9
          dsimp only
          k_steps
          rename_i D3 _ FD ND lD
          have hne : ∀ z : Addr, hr < z ∧ it0 < z ∧ wy < z ∧ it1 < z → z ≠ hr ∧ z ≠ it0 ∧ z ≠ wy ∧ z ≠ it1 := fun z hz => ⟨Nat.ne_of_gt hz.1, Nat.ne_of_gt hz.2.1, Nat.ne_of_gt hz.2.2.1, Nat.ne_of_gt hz.2.2.2⟩
          have nta := hne ta ⟨lta.2.1, lta.2.2.1, lta.2.2.2.1, lta.1⟩
          have nqa := hne qa ⟨lqa.2.2.1, lqa.2.2.2.1, lqa.2.2.2.2.1, lqa.2.1⟩
          have na9 := hne a9 ⟨Nat.lt_of_lt_of_le lqa.2.2.1 hqa9, Nat.lt_of_lt_of_le lqa.2.2.2.1 hqa9, Nat.lt_of_lt_of_le lqa.2.2.2.2.1 hqa9, Nat.lt_of_lt_of_le lqa.2.1 hqa9⟩
          have nD3 := hne D3 ⟨lD.2.2.2.2.1, lD.2.2.2.2.2.1, lD.2.2.2.2.2.2.1, lD.2.2.2.1⟩
          have nG1 : ∀ p ∈ G1, p.1 ≠ hr ∧ p.1 ≠ it0 ∧ p.1 ≠ wy ∧ p.1 ≠ it1 := fun p hp => ⟨(hG1 p hp).1, (hG1 p hp).2.1, (hG1 p hp).2.2, hne5 p (.tail _ (.tail _ (.tail _ hp)))⟩
          refine app_led (R0 := (it1, o5) :: (it0, o4) :: (wy, listOf vs.toArray vn) :: (D3, _) :: (a9, tupO us) :: (qa, _) :: (ta, _) :: G1) (vs := hs) (n := hn1) FD ND (.tail _ (.tail _ (.tail _ (.tail _ (.tail _ (.head _))))))
            (all_cons ⟨.tail _ (.tail _ (.tail _ (.tail _ (.head _)))), Ne.symm (hne5 (hr, _) (.head _))⟩ (all_cons ⟨.tail _ (.tail _ (.tail _ (.tail _ (.tail _ (.tail _ (.head _)))))), Nat.ne_of_lt b1⟩ (all_cons ⟨.tail _ (.tail _ (.tail _ (.tail _ (.tail _ (.tail _ (.tail _ (.head _))))))), Nat.ne_of_lt b2⟩ (all_cons ⟨.head _, nD3.1⟩ (all_cons ⟨.tail _ (.head _), na9.1⟩ (all_cons ⟨.tail _ (.tail _ (.head _)), nqa.1⟩ (all_cons ⟨.tail _ (.tail _ (.tail _ (.head _))), nta.1⟩ fun p hp => ⟨.tail _ (.tail _ (.tail _ (.tail _ (.tail _ (.tail _ (.tail _ (.tail _ hp))))))), (nG1 p hp).1⟩))))))) (by have := hws.1; have := hx.length; omega) ?_
          intro h10 F10 N10
          dsimp only
          k_steps
          refine ⟨rfl, _, _, _, (it1, o5) :: (hr, listOf (hs ++ [Value.ref D3]).toArray (hn1 + 1)) :: (it0, o4) :: (wy, listOf vs.toArray vn) :: (D3, _) :: (a9, tupO us) :: (qa, _) :: (ta, _) :: G1, rfl, by k_asm, News.sub N10 (all_cons (.tail _ (.head _)) (all_cons (.head _) fun p hp => .tail _ (.tail _ hp))), rfl, (D3, _) :: (a9, tupO us) :: (qa, _) :: (ta, _) :: G1, hs ++ [Value.ref D3], hn1 + 1, rfl, (fun p hp => .tail _ (.tail _ (.tail _ (.tail _ hp)))), all_cons nD3 (all_cons na9 (all_cons nqa (all_cons nta nG1))), ws ++ [oneW xs (W b) b], ?_, hspec.one hbn, by simp; omega⟩
          refine (hws.mono fun p hp => .tail _ (.tail _ (.tail _ (.tail _ hp)))).snoc (way_is (.head _) ?_ ⟨a9, us, rfl, .tail _ (.head _), htr9.mono fun p hp => .tail _ (.tail _ hp)⟩)
          show (W b).1 + 1 + xv.fmod 3 = (W b).1 + 1 + (xs.getD b 0).fmod 3
          rw [List.getD_eq_getElem?_getD, hxx]; rfl
        · refine ⟨rfl, _, _, _, _, rfl, by k_asm, by k_asm, rfl, G1, hs, hn1, rfl, fun p hp => hp, ?_, ws, hws, hspec.noOne (by omega), by omega⟩
          intro p hp
          exact ⟨(hG1 p hp).1, (hG1 p hp).2.1, (hG1 p hp).2.2, hne5 p (.tail _ (.tail _ (.tail _ hp)))⟩
      · rintro fl s9 ⟨rfl, h11, tk11, m11, n11, rfl, F11, N11, rfl, G2, hs2, hn2, rfl, hGG2, hG2, ws2, hws2, hmid, hlen2⟩
        subst hmc
        dsimp only
        clear F7 N7 Fc
        k_steps
        unfold Held
        refine wpAny_For ?_
        k_steps
        refine len_nat (vs := bs) (n := nb) (by k_asm) (.tail _ (.tail _ (.tail _ (.tail _ (hGG2 _ (hGG _ (hRG _ mb'))))))) (by have := hy.length; omega) ?_
        dsimp only
        k_steps
        rename_i rg2 Frg2 Nrg2 kprg2
        refine range_iter2 Frg2 Nrg2 rg2 (ys.length + 1 - (n + 1 - b)) (by split <;> omega) (by omega) (by omega) (by omega) (by omega) ?_
        intro it2 h12 F12 N12 li2
        have N13 := News.sub N12 (news' := (it2, _) :: (hr, listOf hs2.toArray hn2) :: (it1, o5) :: (it0, o4) :: (wy, listOf vs.toArray vn) :: G2) (all_cons (.head _) (all_cons (.tail _ (.tail _ (.head _))) (all_cons (.tail _ (.head _)) (all_cons (.tail _ (.tail _ (.tail _ (.head _)))) (all_cons (.tail _ (.tail _ (.tail _ (.tail _ (.head _))))) fun p hp => .tail _ (.tail _ (.tail _ (.tail _ (.tail _ hp)))))))))
        clear N12
        refine for_nameG (Iter.range rfl it2 (0 : Int) (ys.length + 1 - (n + 1 - b))) (hrLd hr [(it1, o5), (it0, o4), (wy, listOf vs.toArray vn)]) (fun _ => []) [Str.ofString "j"]
          (fun j (c : GrS) => (∀ p ∈ G2, p ∈ c.1) ∧ (∀ p ∈ c.1, p.1 ≠ hr ∧ p.1 ≠ it0 ∧ p.1 ≠ wy ∧ p.1 ≠ it1) ∧ ∃ ws, WaysIs c.1 c.2.1 ws ∧ HereMid xs ys fee W (n + 1) b j ws ∧ ws.length ≤ 100 * b + 1 + j) (G2, hs2, hn2) _ rfl rfl F12 N13 rfl ?_ ?_ ?_ ?_ ?_ ?_
        · refine all_cons ?_ (all_cons ?_ (all_cons ?_ (all_cons ?_ ?_)))
          · exact Nat.ne_of_lt (li2 _ (.tail _ (.head _)))
          · exact Nat.ne_of_lt (li2 _ (.head _))
          · exact Nat.ne_of_lt (li2 _ (.tail _ (.tail _ (.head _))))
          · exact Nat.ne_of_lt (li2 _ (.tail _ (.tail _ (.tail _ (.head _)))))
          · exact fun p hp => Nat.ne_of_lt (li2 p (.tail _ (.tail _ (.tail _ (.tail _ hp)))))
        · intro q hq; cases hq
        · exact ⟨fun p hp => hp, hG2, ws2, hws2, hmid, hlen2⟩
        · intro _ _ _ _; trivial
        · clear N13 F12
          intro QQ2 qb2 qn2 qc2
          rintro j v ⟨G3, hs3, hn3⟩ u3 h14 tk14 o14 ⟨t14, rfl⟩ hj ho14 ⟨hG23, hG3, ws3, hws3, hmid3, hlen3⟩ hne14 F14 N14
          dsimp only [hrLd, List.cons_append, List.nil_append] at hG23 hG3 hws3 hne14 F14 N14 ⊢
          k_steps
          unfold Held
          refine wpAny_If ?_
          k_steps
          rename IntsAre bs ys => hy9
          refine slice_nat (vs := bs) (n := nb) (ns := ys) (lo := j) (hi := j + (n + 1 - b)) (by k_asm) (by k_asm) (.tail _ (.tail _ (.tail _ (.tail _ (.tail _ (hG23 _ (hGG2 _ (hGG _ (hRG _ mb'))))))))) hy9 (by omega) (by omega) (by omega) hys ?_
          intro D5 ws5 h15 F15 N15 l15 hI5
          dsimp only
          k_steps
          refine slice_nat (vs := as) (n := na) (ns := xs) (lo := b) (hi := n + 1) (by k_asm) (by k_asm) (.tail _ (.tail _ (.tail _ (.tail _ (.tail _ (.tail _ (hG23 _ (hGG2 _ (hGG _ (hRG _ ma)))))))))) hx (by omega) (by omega) (by omega) hxs ?_
          intro D6 ws6 h16 F16 N16 l16 hI6
          dsimp only
          k_steps
          · rename (List.take _ _ = List.take _ _) => heq
            rename_i ta _ lta qa _ Fq Nq lqa
            rw [show j + (n + 1 - b) - j = n + 1 - b by omega] at heq
            have hwh : Whole xs ys b (n + 1 - b) j := (whole_iff (by omega) (by omega)).mp heq
            refine pcs_add (q := qa) (tv := .ref ta) (ps := (W b).2) (t := ((b : Int), ((n + 1 : Nat) : Int), (j : Int))) (G := G3) (G' := (qa, _) :: (ta, _) :: G3) Fq Nq (wpc.mono fun p hp => hG23 p (hGG2 p hp)) (fun p hp => .tail _ (.tail _ hp)) (all_cons (.head _) (all_cons (.tail _ (.head _)) fun p hp => .tail _ (.tail _ (.tail _ (.tail _ (.tail _ (.tail _ (.tail _ (.tail _ (.tail _ hp))))))))))
              (.head _) (tri_is (.tail _ (.head _)) (by show (0 : Int) + (b : Int) = (b : Int); omega) (by show (1 : Int) + (n : Int) = ((n + 1 : Nat) : Int); omega) (by show (0 : Int) + (j : Int) = (j : Int); omega)) (by have := best_len hW b (by omega); omega) ?_
            intro a9 us h9 F9 N9 hqa9 htr9
            dsimp only
            k_steps
            rename_i D3 _ FD ND lD
            have hne : ∀ z : Addr, hr < z ∧ it0 < z ∧ wy < z ∧ it1 < z → z ≠ hr ∧ z ≠ it0 ∧ z ≠ wy ∧ z ≠ it1 := fun z hz => ⟨Nat.ne_of_gt hz.1, Nat.ne_of_gt hz.2.1, Nat.ne_of_gt hz.2.2.1, Nat.ne_of_gt hz.2.2.2⟩
            refine hide ?_
            intro G9 hG9
            obtain ⟨c1, c2, c3, c4, c5, c6, c7, -⟩ := lta
            refine hG9 ?_
            clear hG9 G9
            refine hide ?_
            intro G9 hG9
            obtain ⟨d0, d1, d2, d3, d4, d5, d6, d7, -⟩ := lqa
            refine hG9 ?_
            clear hG9 G9
            refine hide ?_
            intro G9 hG9
            obtain ⟨e0, e1, e2, e3, e4, e5, e6, e7, e8, e9, -⟩ := lD
            refine hG9 ?_
            clear hG9 G9
            have nta := hne ta ⟨c4, c6, c7, c5⟩
            have nqa := hne qa ⟨d4, d6, d7, d5⟩
            have na9 := hne a9 ⟨Nat.lt_of_lt_of_le d4 hqa9, Nat.lt_of_lt_of_le d6 hqa9, Nat.lt_of_lt_of_le d7 hqa9, Nat.lt_of_lt_of_le d5 hqa9⟩
            have nD3 := hne D3 ⟨e6, e8, e9, e7⟩
            refine app_led (R0 := (it2, o14) :: (it1, o5) :: (it0, o4) :: (wy, listOf vs.toArray vn) :: (D3, _) :: (a9, tupO us) :: (qa, _) :: (ta, _) :: G3) (vs := hs3) (n := hn3) FD ND (.tail _ (.tail _ (.tail _ (.tail _ (.tail _ (.tail _ (.tail _ (.head _))))))))
              (all_cons ⟨.tail _ (.tail _ (.tail _ (.tail _ (.tail _ (.tail _ (.head _)))))), Ne.symm (hne14 (hr, _) (.head _))⟩ (all_cons ⟨.tail _ (.tail _ (.tail _ (.tail _ (.tail _ (.tail _ (.tail _ (.tail _ (.head _)))))))), Ne.symm (hne5 (hr, _) (.head _))⟩
                (all_cons ⟨.tail _ (.tail _ (.tail _ (.tail _ (.tail _ (.tail _ (.tail _ (.tail _ (.tail _ (.head _))))))))), Nat.ne_of_lt b1⟩ (all_cons ⟨.tail _ (.tail _ (.tail _ (.tail _ (.tail _ (.tail _ (.tail _ (.tail _ (.tail _ (.tail _ (.head _)))))))))), Nat.ne_of_lt b2⟩
                (all_cons ⟨.head _, nD3.1⟩ (all_cons ⟨.tail _ (.head _), na9.1⟩ (all_cons ⟨.tail _ (.tail _ (.head _)), nqa.1⟩ (all_cons ⟨.tail _ (.tail _ (.tail _ (.head _))), nta.1⟩ fun p hp => ⟨.tail _ (.tail _ (.tail _ (.tail _ (.tail _ (.tail _ (.tail _ (.tail _ (.tail _ (.tail _ (.tail _ hp)))))))))), (hG3 p hp).1⟩)))))))) (by have := hws3.1; omega) ?_
            intro h10 F10 N10
            dsimp only
            k_steps
            refine qn2 _ _ _ ?_
            refine hr_end (G' := (D3, _) :: (a9, tupO us) :: (qa, _) :: (ta, _) :: G3) (hs' := hs3 ++ [Value.ref D3]) (hn' := hn3 + 1) (by k_asm) N10 (.tail _ (.head _)) (.head _) (all_cons (.tail _ (.tail _ (.head _))) (all_cons (.tail _ (.tail _ (.tail _ (.head _)))) (all_cons (.tail _ (.tail _ (.tail _ (.tail _ (.head _))))) fun _ h => nomatch h))) (fun p hp => .tail _ (.tail _ (.tail _ (.tail _ (.tail _ hp))))) (hne14 (hr, _) (.head _))
              (all_cons (hne14 (it1, _) (.tail _ (.head _))) (all_cons (hne14 (it0, _) (.tail _ (.tail _ (.head _)))) (all_cons (hne14 (wy, _) (.tail _ (.tail _ (.tail _ (.head _))))) fun _ h => nomatch h))) (all_cons (Nat.ne_of_gt e5) (all_cons (Nat.ne_of_gt (Nat.lt_of_lt_of_le d3 hqa9)) (all_cons (Nat.ne_of_gt d3) (all_cons (Nat.ne_of_gt c3) fun p hp => hne14 p (.tail _ (.tail _ (.tail _ (.tail _ hp)))))))) ?_ ?_
            · intro z z2
              refine skip_if (fun e => absurd z2 (by rw [e]; decide)) ?_
              exact same_of (ps := []) z2 (fun _ h => nomatch h)
            · refine ⟨fun p hp => .tail _ (.tail _ (.tail _ (.tail _ (hG23 p hp)))), all_cons nD3 (all_cons na9 (all_cons nqa (all_cons nta hG3))), ws3 ++ [cpyW fee (W b) b (n + 1) j], ?_, hmid3.yes hwh, by simp; omega⟩
              exact (hws3.mono fun p hp => .tail _ (.tail _ (.tail _ (.tail _ hp)))).snoc (way_is (.head _) rfl ⟨a9, us, rfl, .tail _ (.head _), htr9.mono fun p hp => .tail _ (.tail _ hp)⟩)
          · rename (¬ List.take _ _ = List.take _ _) => hneq
            rw [show j + (n + 1 - b) - j = n + 1 - b by omega] at hneq
            refine qn2 _ _ _ ?_
            refine hr_end (G' := G3) (hs' := hs3) (hn' := hn3) (by k_asm) N16 (.tail _ (.tail _ (.head _))) (.tail _ (.tail _ (.tail _ (.head _)))) (all_cons (.tail _ (.tail _ (.tail _ (.tail _ (.head _))))) (all_cons (.tail _ (.tail _ (.tail _ (.tail _ (.tail _ (.head _)))))) (all_cons (.tail _ (.tail _ (.tail _ (.tail _ (.tail _ (.tail _ (.head _))))))) fun _ h => nomatch h))) (fun p hp => .tail _ (.tail _ (.tail _ (.tail _ (.tail _ (.tail _ (.tail _ hp))))))) (hne14 (hr, _) (.head _))
              (all_cons (hne14 (it1, _) (.tail _ (.head _))) (all_cons (hne14 (it0, _) (.tail _ (.tail _ (.head _)))) (all_cons (hne14 (wy, _) (.tail _ (.tail _ (.tail _ (.head _))))) fun _ h => nomatch h))) (fun p hp => hne14 p (.tail _ (.tail _ (.tail _ (.tail _ hp))))) ?_ ?_
            · intro z z2
              refine skip_if (fun e => absurd z2 (by rw [e]; decide)) ?_
              exact same_of (ps := []) z2 (fun _ h => nomatch h)
            · exact ⟨hG23, hG3, ws3, hws3, hmid3.no fun hw => hneq ((whole_iff (by omega) (by omega)).mpr hw), by omega⟩
        · rintro ⟨G3, hs3, hn3⟩ u3 h14 tk14 ⟨hG23, hG3, ws3, hws3, hmid3, hlen3⟩ F14 N14
          dsimp only [hrLd, List.cons_append, List.nil_append] at hG23 hG3 hws3 F14 N14 ⊢
          clear N13 F12
          k_steps
          refine qn1 _ _ _ ?_
          refine hr_end (G' := G3) (hs' := hs3) (hn' := hn3) (by k_asm) N14 (.tail _ (.head _)) (.head _) (all_cons (.tail _ (.tail _ (.head _))) (all_cons (.tail _ (.tail _ (.tail _ (.head _)))) fun _ h => nomatch h)) (fun p hp => .tail _ (.tail _ (.tail _ (.tail _ hp)))) (hne5 (hr, _) (.head _))
            (all_cons (hne5 (it0, _) (.tail _ (.head _))) (all_cons (hne5 (wy, _) (.tail _ (.tail _ (.head _)))) fun _ h => nomatch h)) (fun p hp => (hG3 p hp).2.2.2) ?_ ?_
          · intro z z2
            refine kstB_ne (ps := []) (fun _ h => nomatch h) ?_
            refine skip_stored (contains_sub z2 (by decide)) ?_
            repeat (refine skip_if (fun e => absurd z2 (by rw [e]; decide)) ?_)
            exact same_of (ps := []) z2 (fun _ h => nomatch h)
          · exact ⟨fun p hp => hG23 p (hGG2 p (hGG p hp)), fun p hp => ⟨(hG3 p hp).1, (hG3 p hp).2.1, (hG3 p hp).2.2.1⟩, ws3, hws3, hmid3.done (by omega), by omega⟩
      · intro _ _ q; exact q
    · rintro ⟨G1, hs, hn1⟩ u1 h5 tk5 ⟨hGG, hG1, ws, hws, hspec, hlen⟩ F5 N5
      dsimp only [hrLd, List.cons_append, List.nil_append] at hGG hG1 hws F5 N5 ⊢
      clear N1 F1
      k_steps
      have hpos : 0 < hs.length := by
        rw [hws.1]
        exact List.length_pos_of_mem (hspec.2 n (by omega) _ (.inl ⟨rfl, rfl⟩))
      refine min_ways (G := G1) (vs := hs) (ws := ws) (n := hn1) rfl (by k_asm) (by k_asm) (.head _) (fun p hp => .tail _ (.tail _ (.tail _ hp))) hws.are hpos (by ktr_units) ?_
      intro v h6 tk6 hbest F6 N6
      have hv := hspec.best hW (by omega) (by omega) hws hbest
      dsimp only
      k_steps
      refine app_led (R0 := (it0, o4) :: G1) (vs := vs) (n := vn) (by k_asm) (by k_asm) (.tail _ (.tail _ (.head _))) (all_cons ⟨.tail _ (.head _), Ne.symm hwi⟩ fun p hp => ⟨.tail _ (.tail _ (.tail _ hp)), (hG1 p hp).2.2⟩) (by have := hT.1; omega) ?_
      intro h7 F7 N7
      dsimp only
      k_steps
      refine qn0 _ _ _ ?_
      refine hr_end (B := []) (G' := G1) (hs' := vs ++ [v]) (hn' := vn + 1) (by k_asm) N7 (.tail _ (.head _)) (.head _) (fun _ h => nomatch h) (fun p hp => .tail _ (.tail _ hp)) hwi (fun _ h => nomatch h) (fun p hp => (hG1 p hp).2.1) ?_ ?_
      · intro z z2
        refine kstB_ne (ps := []) (fun _ h => nomatch h) ?_
        refine skip_stored (contains_sub z2 (by decide)) ?_
        repeat (refine skip_if (fun e => absurd z2 (by rw [e]; decide)) ?_)
        exact same_of (ps := []) z2 (fun _ h => nomatch h)
      · exact ⟨fun p hp => hGG p (hRG p hp), fun p hp => (hG1 p hp).2.2, (hT.mono hGG).snoc hv⟩
  · rintro ⟨G, vs, vn⟩ u h tk4 ⟨hRG, hGw, hT⟩ F4 N4
    dsimp only [hrLd, List.nil_append] at hRG hGw hT F4 N4 ⊢
    clear NI NI2 FI
    k_steps
    have hvl : vs.length = xs.length + 1 := by rw [hT.1, hlx]
    have hlast : xs.length < vs.length := by omega
    have hvx : vs[xs.length]? = some vs[xs.length] := List.getElem?_eq_getElem hlast
    refine kim_back (l := vs) (n := vn) (x := vs[xs.length]) (by k_asm) (.head _) rfl rfl (by omega) (by omega) (by omega) (by rw [← hvx]; congr 1; omega) ?_
    dsimp only
    k_steps
    rename News _ _ _ _ => kN9
    exact hret _ _ _ _ (by k_asm) kN9 ⟨fun p hp => .tail _ (hRG p hp), (hT.2 _ _ hvx).mono fun p hp => .tail _ hp⟩
end Mine
end
end
section
open PySem PySem.W PyProof.Rows PySem.Spec PySem.Calls
set_option maxRecDepth 100000
namespace Mine
theorem filledLw : PySem.Challenge.rw_nq0313_01.prog = PySem.Challenge.rw_nq0313_01.prog ∧ K = K := by
  k_fill
  exact ⟨rfl, rfl⟩
local macro_rules | `(tactic| walk_at "none 0") => `(tactic| skip)
local macro_rules
  | `(tactic| walk_at "call ref") => `(tactic| refine hold ?_)
  | `(tactic| walk_at "exec While Compare cons nil") => `(tactic| refine hold ?_)
  | `(tactic| walk_at "exec For Name Call cons nil") => `(tactic| refine hold ?_)
  | `(tactic| walk_at "Mid next") => `(tactic| refine hold ?_)
  | `(tactic| walk_at "KswEnd") => `(tactic| refine hold ?_)
  | `(tactic| walk_at "FPost next") => `(tactic| refine hold ?_)
  | `(tactic| walk_at "subscriptTail Name Constant ref int") => `(tactic| refine hold ?_)
  | `(tactic| walk_at "subscriptTail Subscript Name Constant Constant ref int") => `(tactic| refine hold ?_)
  | `(tactic| walk_at "subscriptTail Name Name ref int") => `(tactic| refine hold ?_)
  | `(tactic| walk_at "assign Tuple cons ref") => `(tactic| refine hold ?_)
  | `(tactic| walk_at "binaryOp Add ref") => `(tactic| refine hold ?_)
  | `(tactic| walk_at "call builtin:list.append cons nil") => `(tactic| refine hold ?_)
  | `(tactic| walk_at "call builtin:len cons nil") => `(tactic| refine hold ?_)
  | `(tactic| walk_at "compareOp In int ref") => `(tactic| refine hold ?_)
  | `(tactic| walk_at "pyIter ref") => `(tactic| refine hold ?_)
  | `(tactic| walk_at "subscriptTail Subscript Name Constant Slice ref ref") => `(tactic| refine hold ?_)
  | `(tactic| walk_at "compareOp Eq ref ref") => `(tactic| refine hold ?_)
set_option maxHeartbeats 0 in
theorem top0 (said : PySem.Challenge.rw_nq0313_01.row.wellSaid = true) : PySem.Challenge.rw_nq0313_01.row.Holds := by
  w_on
  refine holds_open (q := qvX) (loose := looseL) (Xt := XtF) (XP := XL qvX []) (Yf := HK.obs) (Ya := HK.val) (YP := HK.says) (N := 4888) left HK.of HK.keeps (fun s e => xl_of s (Bool.and_eq_true_iff.mp e).1) XL.keeps (by rfl) (by rfl) (by rfl) (fun s e => recFacts_of (Bool.and_eq_true_iff.mp e).2) (by rfl) (by first | assumption | decide +kernel) (by decide +kernel) ⟨rfl, rfl, rfl, rfl, rfl, by decide +kernel⟩ ?hw ?hc
  case hw => w_witness2
  w_strict (k_go0; (all_goals try k_fold))
  k_steps
  rename_i l svs _ hL _ _ _ hI _ hcond _ K0 _ hh F0 N0
  rename Frag.In _ _ => KX
  rename Top _ _ _ _ _ _ => T
  rename World => w
  rename Shared => sA
  rename List Int => ns
  refine law_rows_spec w [] l svs ns hI (by omega) _ _ _ _ _ _ _ _ _ _ _ _ _ _ _ _ _ _ _ _ _ _ _ hL K0 F0 KX N0 T rfl ?_ ?_ ?_
  · decide
  · decide
  intro rr la lb as bs xs ys na nb nr h1 tk1 F1 N1 hx hy hxs hys _ l1 l2
  obtain ⟨as, rfl⟩ : ∃ l : List Value, as = l.toArray := ⟨as.toList, by simp⟩
  obtain ⟨bs, rfl⟩ : ∃ l : List Value, bs = l.toArray := ⟨bs.toList, by simp⟩
  rw [List.toList_toArray] at hx hy
  k_steps
  refine kun_list (items := #[.ref la, .ref lb]) (by k_asm) (by k_asm) (News.isList (by k_asm) (.head _)) rfl rfl rfl ?_
  intro hU FU NU
  dsimp only
  k_steps
  rename Fr _ _ _ _ => FV
  refine len_list (Fr.lst FV hL) (by rw [List.size_toArray, hI.length]; omega) ?_
  dsimp only
  k_steps
  unfold Held
  refine (matcher_spec w _ la lb bs ys nb hy hys (.tail _ (.tail _ (.head _)))).use K0 (by k_asm) KX (by k_asm) T rfl ?_ ?_ ?_
  · decide
  · decide
  rintro r news' h2 tk2 F2 N2 ⟨x, dx, t1, t2, t3, t4, t5, t6, t7, rfl, ⟨d, o, ls, sj, sp, b1, b2, t8, t9, t10, rfl, ⟨f, hf, htab, _, hls⟩, lod, hxd⟩, hldx, hdxx⟩
  dsimp only at hf htab
  k_steps
  rename_i tz D1 _ m1 D2 _ m2 hp _ m3 _ tk9 dl _ m4 _ F3 N3
  dsimp only [smLed] at N3
  obtain ⟨G0, hG0⟩ : ∃ G0 : Led, G0 = (sp, setE b2) :: (ls ++ [(rr, listOf #[.ref la, .ref lb] nr), (la, listOf as.toArray na), (lb, listOf bs.toArray nb)]) := ⟨_, rfl⟩
  have hf1 : 1 ≤ 2 + ((svs.toArray.size : Nat) : Int).fmod 3 := by have := fmod3_nonneg ((svs.toArray.size : Nat) : Int); omega
  obtain ⟨W, hW⟩ := best_exists xs ys (2 + ((svs.toArray.size : Nat) : Int).fmod 3) xs.length
  obtain ⟨mm, hmm, F4⟩ := fr_map F3
  obtain ⟨tf, h6⟩ : ∃ tf, ∀ q ∈ lwNames (2 + ((svs.toArray.size : Nat) : Int).fmod 3) tf hp dl la lb x, mm q.1 = some q.2 := by
    exact ⟨_, lw_six (by rw [hmm]; rfl) (by rw [hmm]; rfl) (by rw [hmm]; rfl) (by rw [hmm]; rfl) (by rw [hmm]; rfl) (by rw [hmm]; rfl)⟩
  generalize 2 + ((svs.toArray.size : Nat) : Int).fmod 3 = fee at hf1 hW h6
  clear hmm F3
  have F5 := Fr.told F4 h6
  dsimp only [lwNames] at F5
  clear F4 h6
  have mla : (la, listOf as.toArray na) ∈ G0 := by rw [hG0]; exact .tail _ (List.mem_append.mpr (.inr (.tail _ (.head _))))
  have mlb : (lb, listOf bs.toArray nb) ∈ G0 := by rw [hG0]; exact .tail _ (List.mem_append.mpr (.inr (.tail _ (.tail _ (.head _)))))
  have htabG : Tab ys ys.length f G0 := htab.mono fun p hp => by rw [hG0]; exact .tail _ (List.mem_append.mpr (.inl hp))
  refine hide ?_
  intro G9 hG9
  obtain ⟨p1, p2, p3, p4, p5, p6, p7, p8⟩ := m3
  refine hG9 ?_
  clear hG9 G9
  refine hide ?_
  intro G9 hG9
  obtain ⟨q0, q1, q2, q3, q4, q5, q6, q7, q8⟩ := m4
  refine hG9 ?_
  clear hG9 G9
  have aG0 : ∀ p ∈ G0, p.1 ≠ hp ∧ p.1 ≠ dl := by
    rw [hG0]
    exact all_cons ⟨Nat.ne_of_lt p6, Nat.ne_of_lt q6⟩ fun p hq => ⟨Nat.ne_of_lt (ktn_ltOf p8 p hq), Nat.ne_of_lt (ktn_ltOf q8 p hq)⟩
  have N5 : News _ _ _ (lwLd hp dl [(x, instObj 242 dx), (dx, smDict w (.ref la) lb d sj sp t1 t2 t3 t4 t5 t6 t7 t8 t9 t10), (sj, setE b1), (d, o)] ⟨(D2, tupO [.int 0 tz, .ref D1, .int 0 (tz + 1)]) :: (D1, tupO []) :: G0, [.ref D2], 0, [enOf (0, []) 0], [], 0, []⟩) := News.sub N3 (by
    rw [hG0]
    exact all_cons (.tail _ (.head _)) (all_cons (.head _) (all_cons (.tail _ (.tail _ (.tail _ (.tail _ (.head _))))) (all_cons (.tail _ (.tail _ (.tail _ (.tail _ (.tail _ (.head _)))))) (all_cons (.tail _ (.tail _ (.tail _ (.tail _ (.tail _ (.tail _ (.head _))))))) (all_cons (.tail _ (.tail _ (.tail _ (.tail _ (.tail _ (.tail _ (.tail _ (.tail _ (.head _))))))))) (all_cons (.tail _ (.tail _ (.head _))) (all_cons (.tail _ (.tail _ (.tail _ (.head _)))) (all_cons (.tail _ (.tail _ (.tail _ (.tail _ (.tail _ (.tail _ (.tail _ (.head _)))))))) (fun p hq => .tail _ (.tail _ (.tail _ (.tail _ (.tail _ (.tail _ (.tail _ (.tail _ (.tail _ (hq)))))))))))))))))))
  clear N3
  unfold Held
  refine wpAny_mono (ksw_whileG (Q := Mid F5 sA (LwJ xs ys fee W G0 hp dl la lb x tf [(x, instObj 242 dx), (dx, smDict w (.ref la) lb d sj sp t1 t2 t3 t4 t5 t6 t7 t8 t9 t10), (sj, setE b1), (d, o)])) (σ := LwC) (lwLd hp dl [(x, instObj 242 dx), (dx, smDict w (.ref la) lb d sj sp t1 t2 t3 t4 t5 t6 t7 t8 t9 t10), (sj, setE b1), (d, o)]) (fun _ => []) (fun _ => True)
    [Str.ofString "cost", Str.ofString "pieces", Str.ofString "begin", Str.ofString "end", Str.ofString "i", Str.ofString "j", Str.ofString "size"] (LwP xs ys fee W G0 hp dl) (fun c => (xs.length - c.D.length) * 100 + c.H.length) _ F5 N5 trivial ?_ ?_ ?_) ?_ ?_
  · intro q hq; cases hq
  · refine ⟨fun p hq => .tail _ (.tail _ hq), all_cons ⟨Nat.ne_of_lt p1, Nat.ne_of_lt q1⟩ (all_cons ⟨Nat.ne_of_lt p2, Nat.ne_of_lt q2⟩ aG0), ⟨rfl, ?_⟩, ?_, Inv.start hW.1, .nil, by simp⟩
    · intro i v x h1 h2
      cases i with
      | zero =>
        cases h1; cases h2
        exact en_is (.head _) rfl rfl ⟨D1, [], rfl, .tail _ (.head _), .nil⟩
      | succ i => simp at h1
    · intro i h h0
      simp at h
      omega
  · intro QX QQ qx qb qn qc
    rintro ⟨G, hs, hn, H, ds, dn, D⟩ u h tk0 - hP F6 N6
    refine hide ?_
    intro G9 hG9
    obtain ⟨hsub, hap, hens, hheap, hinv, hdone, hsize⟩ := id hP
    refine hG9 ?_
    clear hG9 G9
    dsimp only [lwLd, List.cons_append, List.nil_append] at hsub hap hens hheap hinv hdone hsize F6 N6 ⊢
    clear N5
    k_steps
    have h0 : 0 < H.length := hinv.nonempty hW hf1
    refine hide ?_
    intro G9 hG9
    obtain ⟨v0, hv0, a0, t0, pc, u0, rfl, m0, hpc⟩ := hens.get 0 h0
    refine hG9 ?_
    clear hG9 G9
    refine hide ?_
    intro G9 hG9
    obtain ⟨e0, he0, hen, hok⟩ := hinv.ok H[0] (List.getElem_mem h0)
    refine hG9 ?_
    clear hG9 G9
    have m0' := m0
    rw [he0] at m0'
    have hle := hens.1
    have hdl : D.length ≤ xs.length := nodup_card _ _ hinv.nodup hinv.lt
    have hBG : ∀ p ∈ G, p ∈ ((hp, listOf hs.toArray hn) :: (dl, listOf ds.toArray dn) :: (x, instObj 242 dx) :: (dx, smDict w (.ref la) lb d sj sp t1 t2 t3 t4 t5 t6 t7 t8 t9 t10) :: (sj, setE b1) :: (d, o) :: G : Led) := fun p hq => .tail _ (.tail _ (.tail _ (.tail _ (.tail _ (.tail _ hq)))))
    refine item_nat (p := 0) (by k_asm) (.head _) rfl hv0 (by omega) ?_
    dsimp only
    k_steps
    refine tup_at (p := 2) (vs := [.int H[0].1 t0, pc, .int (e0 : Int) u0]) (by k_asm) (hBG _ m0') rfl rfl (by simp) ?_
    dsimp only
    k_steps
    refine len_nat (vs := as) (n := na) (by k_asm) (hBG _ (hsub _ mla)) (by have := hx.length; omega) ?_
    dsimp only
    k_steps
    · rename (_ < (as.length : Int)) => hlt0
      have hlx := hx.length
      have hRsub : ∀ p ∈ G, p ∈ ((dl, listOf ds.toArray dn) :: (x, instObj 242 dx) :: (dx, smDict w (.ref la) lb d sj sp t1 t2 t3 t4 t5 t6 t7 t8 t9 t10) :: (sj, setE b1) :: (d, o) :: G : Led) := fun p hq => .tail _ (.tail _ (.tail _ (.tail _ (.tail _ hq))))
      refine item_nat (p := 0) (by k_asm) (.head _) rfl hv0 (by omega) ?_
      dsimp only
      k_steps
      refine assign_led (x := a0) (vs := [.int H[0].1 t0, pc, .int (e0 : Int) u0]) (by k_asm) (by k_asm) (hBG _ m0') rfl rfl rfl ?_
      intro h7 F7 N7
      dsimp only
      k_steps
      refine in_led (vs := ds) (n := dn) (ns := natsI D) (by k_asm) (.tail _ (.head _)) hdone ?_
      rw [any_natsI]
      by_cases hD : e0 ∈ D
      · rw [decide_eq_true hD]
        k_steps
        have hroom := pop_room hW hf1 hinv h0 he0 hD
        refine (heappop_spec w hp hs hn _ H (EnIs G) (fun v y q => (q.rd).mono hRsub) hens hheap hroom (all_cons (Nat.ne_of_gt q0) (all_cons (Nat.ne_of_lt p3) (all_cons (Nat.ne_of_lt p4) (all_cons (Nat.ne_of_lt p5) (all_cons (Nat.ne_of_lt p7) fun p hq => (hap p hq).1))))) (by omega)).use K0 (by k_asm) KX (by k_asm) T rfl ?_ ?_ ?_
        · decide
        · decide
        rintro r9 news9 h9 tk9 F9 N9 hP99
        refine hide ?_
        intro G9 hG9
        obtain ⟨vs9, H9, eq90, hE9, hI9, hP9⟩ := hP99
        refine hG9 ?_
        clear hG9 G9
        subst eq90
        k_steps
        have hl9 := hP9.length_eq
        rw [List.length_cons] at hl9
        refine qn _ _ ?_
        refine lw_end ⟨G, vs9, hn + 1, H9, ds, dn, D⟩ (by k_asm) N9 (fun p h => h) ?_ ⟨hsub, hap, hE9, hI9, (hinv.pop hW hf1 h0 he0 hD hP9).1, hdone, by dsimp only; omega⟩ ?_
        · intro z z2
          repeat (refine skip_if (fun e => absurd z2 (by rw [e]; decide)) ?_)
          exact same_of (ps := []) z2 (fun _ h => nomatch h)
        · show (xs.length - D.length) * 100 + H9.length < (xs.length - D.length) * 100 + H.length
          omega
      · rw [decide_eq_false hD]
        k_steps
        obtain ⟨-, hTop⟩ := hinv.top hW hf1 hheap h0 he0 hD
        have hen0 : e0 < xs.length := by omega
        have hc0 : H[0].1 = (W e0).1 := by rw [hTop]
        have hdl9 : ds.length = D.length := by rw [hdone.length]; simp [natsI]
        have hpc0 : PcsIs G pc (W e0).2 := by rw [hTop] at hpc; exact hpc
        refine app_led (R0 := (hp, listOf hs.toArray hn) :: (x, instObj 242 dx) :: (dx, smDict w (.ref la) lb d sj sp t1 t2 t3 t4 t5 t6 t7 t8 t9 t10) :: (sj, setE b1) :: (d, o) :: G) (vs := ds) (n := dn) (by k_asm) (by k_asm) (.tail _ (.head _))
          (all_cons ⟨.head _, Nat.ne_of_lt q0⟩ (all_cons ⟨.tail _ (.tail _ (.head _)), Nat.ne_of_lt q3⟩ (all_cons ⟨.tail _ (.tail _ (.tail _ (.head _))), Nat.ne_of_lt q4⟩ (all_cons ⟨.tail _ (.tail _ (.tail _ (.tail _ (.head _)))), Nat.ne_of_lt q5⟩ (all_cons ⟨.tail _ (.tail _ (.tail _ (.tail _ (.tail _ (.head _))))), Nat.ne_of_lt q7⟩ fun p hq => ⟨hBG p hq, (hap p hq).2⟩))))) (by omega) ?_
        intro h9 F9 N9
        have N10 := News.sub N9 (news' := (hp, listOf hs.toArray hn) :: (dl, listOf (ds ++ [Value.int (e0 : Int) u0]).toArray (dn + 1)) :: (x, instObj 242 dx) :: (dx, smDict w (.ref la) lb d sj sp t1 t2 t3 t4 t5 t6 t7 t8 t9 t10) :: (sj, setE b1) :: (d, o) :: G) (all_cons (.tail _ (.head _)) (all_cons (.head _) fun p hq => .tail _ (.tail _ hq)))
        clear N9
        have hBG' : ∀ p ∈ G, p ∈ ((hp, listOf hs.toArray hn) :: (dl, listOf (ds ++ [Value.int (e0 : Int) u0]).toArray (dn + 1)) :: (x, instObj 242 dx) :: (dx, smDict w (.ref la) lb d sj sp t1 t2 t3 t4 t5 t6 t7 t8 t9 t10) :: (sj, setE b1) :: (d, o) :: G : Led) := fun p hq => .tail _ (.tail _ (.tail _ (.tail _ (.tail _ (.tail _ hq)))))
        dsimp only
        k_steps
        have hbx : e0 < as.length := by omega
        have hax : as[e0]? = some as[e0] := List.getElem?_eq_getElem hbx
        refine hide ?_
        intro G9 hG9
        obtain ⟨xv, tx, hxe, hxx⟩ := hx.at e0 _ hax
        refine hG9 ?_
        clear hG9 G9
        rw [hxe] at hax
        refine item_nat (p := e0) (by k_asm) (.tail _ (.tail _ (.tail _ (.tail _ (.tail _ (.tail _ (hsub _ mla))))))) rfl hax (by omega) ?_
        dsimp only
        k_steps
        rename_i ta _ lta qa _ Fq Nq lqa
        refine pcs_add (q := qa) (tv := .ref ta) (ps := (W e0).2) (t := ((e0 : Int), (e0 : Int) + 1, (-1 : Int))) (G := G) (G' := (qa, _) :: (ta, _) :: G) Fq Nq hpc0 (fun p hq => .tail _ (.tail _ hq)) (all_cons (.head _) (all_cons (.tail _ (.head _)) fun p hq => .tail _ (.tail _ (hBG' p hq)))) (.head _) (tri_is (.tail _ (.head _)) rfl rfl rfl) (by have := best_len hW e0 (by omega); omega) ?_
        intro a9 us h10 F10 N11 hqa9 htr9
        dsimp only
        k_steps
        rename_i D3 _ FD ND lD
        obtain ⟨c1, c2, -⟩ := lta
        refine hide ?_
        intro G9 hG9
        obtain ⟨d0, d1, d2, -⟩ := lqa
        refine hG9 ?_
        clear hG9 G9
        refine hide ?_
        intro G9 hG9
        obtain ⟨g0, g1, g2, g3, g4, -⟩ := lD
        refine hG9 ?_
        clear hG9 G9
        obtain ⟨G1, NG1, hGG1, hapG1, hen1⟩ : ∃ G1 : Led, News _ _ _ ((hp, listOf hs.toArray hn) :: (dl, listOf (ds ++ [Value.int (e0 : Int) u0]).toArray (dn + 1)) :: (x, instObj 242 dx) :: (dx, smDict w (.ref la) lb d sj sp t1 t2 t3 t4 t5 t6 t7 t8 t9 t10) :: (sj, setE b1) :: (d, o) :: G1) ∧ (∀ p ∈ G, p ∈ G1) ∧ (∀ p ∈ G1, p.1 ≠ hp ∧ p.1 ≠ dl) ∧ EnIs G1 (.ref D3) (enOf (oneW xs (W e0) e0) (e0 + 1)) := by
          refine ⟨(D3, _) :: (a9, tupO us) :: (qa, _) :: (ta, _) :: G, News.sub ND (all_cons (.tail _ (.tail _ (.tail _ (.tail _ (.head _))))) (all_cons (.tail _ (.tail _ (.tail _ (.tail _ (.tail _ (.head _)))))) (all_cons (.tail _ (.tail _ (.tail _ (.tail _ (.tail _ (.tail _ (.head _))))))) (all_cons (.tail _ (.tail _ (.tail _ (.tail _ (.tail _ (.tail _ (.tail _ (.head _)))))))) (all_cons (.tail _ (.tail _ (.tail _ (.tail _ (.tail _ (.tail _ (.tail _ (.tail _ (.head _))))))))) (all_cons (.tail _ (.tail _ (.tail _ (.tail _ (.tail _ (.tail _ (.tail _ (.tail _ (.tail _ (.head _)))))))))) (all_cons (.head _) (all_cons (.tail _ (.head _)) (all_cons (.tail _ (.tail _ (.head _))) (all_cons (.tail _ (.tail _ (.tail _ (.head _)))) (fun p hq => (.tail _ (.tail _ (.tail _ (.tail _ (hBG' p hq)))))))))))))))),
            fun p hq => .tail _ (.tail _ (.tail _ (.tail _ hq))), all_cons ⟨Nat.ne_of_gt g3, Nat.ne_of_gt g4⟩ (all_cons ⟨Nat.ne_of_gt (Nat.lt_of_lt_of_le d1 hqa9), Nat.ne_of_gt (Nat.lt_of_lt_of_le d2 hqa9)⟩ (all_cons ⟨Nat.ne_of_gt d1, Nat.ne_of_gt d2⟩ (all_cons ⟨Nat.ne_of_gt c1, Nat.ne_of_gt c2⟩ hap))), ?_⟩
          refine en_is (.head _) ?_ ?_ ⟨a9, us, rfl, .tail _ (.head _), htr9.mono fun p hq => .tail _ (.tail _ hq)⟩
          · show H[0].1 + 1 + xv.fmod 3 = (W e0).1 + 1 + (xs.getD e0 0).fmod 3
            rw [List.getD_eq_getElem?_getD, hxx, hc0]; rfl
          · show (e0 : Int) + 1 = ((e0 + 1 : Nat) : Int)
            omega
        clear ND htr9
        refine (heapreplace_spec w hp hs hn _ H (.ref D3) (enOf (oneW xs (W e0) e0) (e0 + 1)) (EnIs G1) (fun v y q => (q.rd).mono fun p hq => .tail _ (.tail _ (.tail _ (.tail _ (.tail _ hq))))) (hens.led hGG1) hheap hen1 h0 (all_cons (Nat.ne_of_gt q0) (all_cons (Nat.ne_of_lt p3) (all_cons (Nat.ne_of_lt p4) (all_cons (Nat.ne_of_lt p5) (all_cons (Nat.ne_of_lt p7) fun p hq => (hapG1 p hq).1))))) (by omega)).use K0 (by k_asm) KX NG1 T rfl ?_ ?_ ?_
        · decide
        · decide
        rintro r12 news12 h12 tk12 F12 N12 hP99
        refine hide ?_
        intro G9 hG9
        obtain ⟨vs12, H12, eq90, hE12, hI12, hP12⟩ := hP99
        refine hG9 ?_
        clear hG9 G9
        subst eq90
        have hX := hinv.expand hW h0 hTop hen0 hD hP12
        have hl12 := hP12.length_eq
        rw [List.length_cons, List.length_cons] at hl12
        k_steps
        unfold Held
        refine wpAny_For ?_
        k_steps
        refine len_nat (vs := as) (n := na) (by k_asm) (.tail _ (.tail _ (.tail _ (.tail _ (.tail _ (.tail _ (hGG1 _ (hsub _ mla)))))))) (by omega) ?_
        dsimp only
        k_steps
        rename_i rg Frg Nrg kprg
        refine range_iter Frg Nrg rg (xs.length - e0) (by omega) (by omega) (by omega) ?_
        intro it h13 F13 N13 li
        refine for_name (Iter.range rfl it ((e0 : Int) + 1) (xs.length - e0)) (lmLd hp dl (ds ++ [Value.int (e0 : Int) u0]) (dn + 1) [(x, instObj 242 dx), (dx, smDict w (.ref la) lb d sj sp t1 t2 t3 t4 t5 t6 t7 t8 t9 t10), (sj, setE b1), (d, o)]) (fun _ => []) [Str.ofString "end", Str.ofString "i", Str.ofString "j", Str.ofString "size"]
          (LmP xs ys fee W G hp dl D H.length e0) ⟨G1, vs12, hn, H12⟩ _ rfl rfl F13 N13 rfl ?_ ?_ ?_ ?_ ?_ ?_
        · exact fun p hq => Nat.ne_of_lt (li p hq)
        · intro q hq; cases hq
        · exact ⟨hGG1, hapG1, hE12, hI12, hX, by dsimp only; omega⟩
        · intro _ _ _ _; trivial
        · rintro t v ⟨G2, hs2, hn2, H2⟩ u2 h14 tk14 o14 ⟨t14, rfl⟩ ht ho14 hM hne14 F14 N14
          refine genQ ?_
          intro QQ1 hQ1
          refine hide ?_
          intro G9 hG9
          obtain ⟨s1, s2, s3, s4, s5, s6⟩ := id hM
          refine hG9 ?_
          clear hG9 G9
          dsimp only [lmLd, List.cons_append, List.nil_append] at s1 s2 s3 s4 s5 s6 hne14 F14 N14 ⊢
          clear F13 N13
          k_steps
          have hcast : (e0 : Int) + 1 + (t : Int) = ((e0 + 1 + t : Nat) : Int) := by omega
          rw [hcast]
          have N15 := News.sub N14 (news' := (x, instObj 242 dx) :: (dx, smDict w (.ref la) lb d sj sp t1 t2 t3 t4 t5 t6 t7 t8 t9 t10) :: (sj, setE b1) :: (d, o) :: (it, o14) :: (hp, listOf hs2.toArray hn2) :: (dl, listOf (ds ++ [Value.int (e0 : Int) u0]).toArray (dn + 1)) :: G2) (all_cons (.tail _ (.tail _ (.tail _ (.head _)))) (all_cons (.tail _ (.tail _ (.tail _ (.tail _ (.head _))))) (all_cons (.tail _ (.tail _ (.tail _ (.tail _ (.tail _ (.head _)))))) (all_cons (.tail _ (.tail _ (.tail _ (.tail _ (.tail _ (.tail _ (.head _))))))) (all_cons (.head _) (all_cons (.tail _ (.head _)) (all_cons (.tail _ (.tail _ (.head _))) (fun p hq => (.tail _ (.tail _ (.tail _ (.tail _ (.tail _ (.tail _ (.tail _ (hq))))))))))))))))
          refine (flm_spec w ((it, o14) :: (hp, listOf hs2.toArray hn2) :: (dl, listOf (ds ++ [Value.int (e0 : Int) u0]).toArray (dn + 1)) :: G2) x dx la lb d sj sp o b1 b2 as bs xs ys na nb t1 t2 t3 t4 t5 t6 t7 t8 t9 t10 hx hy hxs hys (.tail _ (.tail _ (.tail _ (s1 _ (hsub _ mla))))) (.tail _ (.tail _ (.tail _ (s1 _ (hsub _ mlb))))) f hf (htabG.mono fun p hq => .tail _ (.tail _ (.tail _ (s1 p (hsub p hq))))) lod e0 (e0 + 1 + t) u0 t14 (by omega) (by omega)).use K0 (by k_asm) KX N15 T rfl ?_ ?_ ?_
          · decide
          · decide
          rintro r16 news16 h16 tk16 F16 N16 hP99
          refine hide ?_
          intro G9 hG9
          obtain ⟨mx, mdx, i, j, k, ti, tj, tkk, eq90, eq91, hlt16, hFl⟩ := hP99
          refine hG9 ?_
          clear hG9 G9
          subst eq90
          subst eq91
          k_steps
          refine mt_unpack (x := mx) (vs := [.int (i : Int) ti, .int (j : Int) tj, .int (k : Int) tkk]) (dd := mdx) F16 KX N16 (.head _) rfl rfl rfl ?_
          intro h17 F17 N17
          dsimp only
          k_steps
          · rename ((_ && _) = true) => heq
            rename_i ta _ lta qa _ Fq Nq lqa
            have hik : i = e0 ∧ k = e0 + 1 + t - e0 := by
              simp only [Bool.and_eq_true, beq_iff_eq] at heq
              omega
            have hFi := fl_first hFl (by omega) hik.1 hik.2
            rw [show e0 + 1 + t - e0 = t + 1 by omega] at hFi
            refine pcs_add (q := qa) (tv := .ref ta) (ps := (W e0).2) (t := ((e0 : Int), ((e0 + (t + 1) : Nat) : Int), (j : Int))) (G := G) (G' := (qa, _) :: (ta, _) :: G2) Fq Nq hpc0 (fun p hq => .tail _ (.tail _ (s1 p hq))) (all_cons (.head _) (all_cons (.tail _ (.head _)) fun p hq => (.tail _ (.tail _ (.tail _ (.tail _ (.tail _ (.tail _ (.tail _ (.tail _ (.tail _ (.tail _ (.tail _ (.tail _ (hq))))))))))))))) (.head _) (tri_is (.tail _ (.head _)) rfl (by show (e0 : Int) + 1 + (t : Int) = ((e0 + (t + 1) : Nat) : Int); omega) rfl) (by have := best_len hW e0 (by omega); omega) ?_
            intro a9 us h20 F20 N20 hqa9 htr9
            dsimp only
            k_steps
            rename_i D3 _ FD ND lD
            refine hide ?_
            intro G9 hG9
            obtain ⟨-, -, -, -, -, -, -, c1, c2, c3, -⟩ := lta
            refine hG9 ?_
            clear hG9 G9
            refine hide ?_
            intro G9 hG9
            obtain ⟨-, -, -, -, -, -, -, -, d1, d2, d3, -⟩ := lqa
            refine hG9 ?_
            clear hG9 G9
            refine hide ?_
            intro G9 hG9
            obtain ⟨-, -, -, -, -, -, -, -, -, -, g1, g2, g3, -⟩ := lD
            refine hG9 ?_
            clear hG9 G9
            have hitp : ∀ p ∈ G2, p.1 ≠ it := fun p hq => hne14 p (.tail _ (.tail _ (.tail _ (.tail _ (.tail _ (.tail _ hq))))))
            obtain ⟨G3, NG3, hGG3, hapG3, hitG3, hen3⟩ : ∃ G3 : Led, News _ _ _ ((hp, listOf hs2.toArray hn2) :: (dl, listOf (ds ++ [Value.int (e0 : Int) u0]).toArray (dn + 1)) :: (x, instObj 242 dx) :: (dx, smDict w (.ref la) lb d sj sp t1 t2 t3 t4 t5 t6 t7 t8 t9 t10) :: (sj, setE b1) :: (d, o) :: (it, o14) :: G3) ∧ (∀ p ∈ G2, p ∈ G3) ∧ (∀ p ∈ G3, p.1 ≠ hp ∧ p.1 ≠ dl) ∧ (∀ p ∈ G3, p.1 ≠ it) ∧ EnIs G3 (.ref D3) (enOf (cpyW fee (W e0) e0 (e0 + (t + 1)) j) (e0 + (t + 1))) := by
              refine ⟨(D3, _) :: (a9, tupO us) :: (qa, _) :: (ta, _) :: G2, News.sub ND (all_cons (.tail _ (.tail _ (.tail _ (.tail _ (.tail _ (.tail _ (.tail _ (.tail _ (.tail _ (.tail _ (.tail _ (.tail _ (.head _))))))))))))) (all_cons (.tail _ (.tail _ (.tail _ (.tail _ (.tail _ (.tail _ (.tail _ (.tail _ (.tail _ (.tail _ (.tail _ (.tail _ (.tail _ (.head _)))))))))))))) (all_cons (.tail _ (.tail _ (.tail _ (.tail _ (.tail _ (.tail _ (.tail _ (.head _)))))))) (all_cons (.tail _ (.tail _ (.tail _ (.tail _ (.tail _ (.tail _ (.tail _ (.tail _ (.head _))))))))) (all_cons (.tail _ (.tail _ (.tail _ (.tail _ (.tail _ (.tail _ (.tail _ (.tail _ (.tail _ (.head _)))))))))) (all_cons (.tail _ (.tail _ (.tail _ (.tail _ (.tail _ (.tail _ (.tail _ (.tail _ (.tail _ (.tail _ (.head _))))))))))) (all_cons (.tail _ (.tail _ (.tail _ (.tail _ (.tail _ (.tail _ (.tail _ (.tail _ (.tail _ (.tail _ (.tail _ (.head _)))))))))))) (all_cons (.head _) (all_cons (.tail _ (.head _)) (all_cons (.tail _ (.tail _ (.head _))) (all_cons (.tail _ (.tail _ (.tail _ (.head _)))) (fun p hq => (.tail _ (.tail _ (.tail _ (.tail _ (.tail _ (.tail _ (.tail _ (.tail _ (.tail _ (.tail _ (.tail _ (.tail _ (.tail _ (.tail _ (hq))))))))))))))))))))))))))),
                fun p hq => .tail _ (.tail _ (.tail _ (.tail _ hq))), all_cons ⟨Nat.ne_of_gt g2, Nat.ne_of_gt g3⟩ (all_cons ⟨Nat.ne_of_gt (Nat.lt_of_lt_of_le d2 hqa9), Nat.ne_of_gt (Nat.lt_of_lt_of_le d3 hqa9)⟩ (all_cons ⟨Nat.ne_of_gt d2, Nat.ne_of_gt d3⟩ (all_cons ⟨Nat.ne_of_gt c2, Nat.ne_of_gt c3⟩ s2))),
                all_cons (Nat.ne_of_gt g1) (all_cons (Nat.ne_of_gt (Nat.lt_of_lt_of_le d1 hqa9)) (all_cons (Nat.ne_of_gt d1) (all_cons (Nat.ne_of_gt c1) hitp))), ?_⟩
              refine en_is (.head _) ?_ ?_ ⟨a9, us, rfl, .tail _ (.head _), htr9.mono fun p hq => .tail _ (.tail _ hq)⟩
              · show H[0].1 + fee = (W e0).1 + fee
                rw [hc0]
              · show (e0 : Int) + 1 + (t : Int) = ((e0 + (t + 1) : Nat) : Int)
                omega
            clear ND htr9
            refine (heappush_spec w hp hs2 hn2 _ H2 (.ref D3) (enOf (cpyW fee (W e0) e0 (e0 + (t + 1)) j) (e0 + (t + 1))) (EnIs G3) (fun v y q => (q.rd).mono fun p hq => .tail _ (.tail _ (.tail _ (.tail _ (.tail _ (.tail _ hq)))))) (s3.led hGG3) s4 hen3 (all_cons (Nat.ne_of_gt q0) (all_cons (Nat.ne_of_lt p3) (all_cons (Nat.ne_of_lt p4) (all_cons (Nat.ne_of_lt p5) (all_cons (Nat.ne_of_lt p7) (all_cons (Ne.symm (hne14 (hp, _) (.head _))) fun p hq => (hapG3 p hq).1)))))) (by have := s3.1; omega)).use K0 (by k_asm) KX NG3 T rfl ?_ ?_ ?_
            · decide
            · decide
            rintro r22 news22 h22 tk22 F22 N22 hP99
            refine hide ?_
            intro G9 hG9
            obtain ⟨eq90, vs22, H22, eq91, hE22, hI22, hP22⟩ := hP99
            refine hG9 ?_
            clear hG9 G9
            subst eq90
            subst eq91
            have hX22 := s5.push hW (by omega) hFi hP22
            have hl22 := hP22.length_eq
            rw [List.length_cons] at hl22
            k_steps
            subst hQ1
            refine lm_end ⟨G3, vs22, hn2 + 1, H22⟩ (by k_asm) N22 (.tail _ (.tail _ (.tail _ (.tail _ (.tail _ (.tail _ (.head _))))))) (all_cons (.head _) (all_cons (.tail _ (.head _)) (all_cons (.tail _ (.tail _ (.head _))) (all_cons (.tail _ (.tail _ (.tail _ (.head _)))) (all_cons (.tail _ (.tail _ (.tail _ (.tail _ (.head _))))) (all_cons (.tail _ (.tail _ (.tail _ (.tail _ (.tail _ (.head _)))))) fun p hq => .tail _ (.tail _ (.tail _ (.tail _ (.tail _ (.tail _ (.tail _ hq))))))))))))
              (all_cons (hne14 (hp, listOf hs2.toArray hn2) (.head _)) (all_cons (hne14 (dl, _) (.tail _ (.head _))) (all_cons (hne14 (x, _) (.tail _ (.tail _ (.head _)))) (all_cons (hne14 (dx, _) (.tail _ (.tail _ (.tail _ (.head _))))) (all_cons (hne14 (sj, _) (.tail _ (.tail _ (.tail _ (.tail _ (.head _)))))) (all_cons (hne14 (d, _) (.tail _ (.tail _ (.tail _ (.tail _ (.tail _ (.head _))))))) hitG3)))))) ?_ ⟨fun p hq => hGG3 p (s1 p hq), hapG3, hE22, hI22, hX22, by dsimp only; omega⟩
            intro z z2
            repeat (refine skip_if (fun e => absurd z2 (by rw [e]; decide)) ?_)
            exact same_of (ps := []) z2 (fun _ h => nomatch h)
          · rename ((_ && _) = false) => hneq
            subst hQ1
            unfold FPost
            dsimp only
            k_steps
            have hno : ¬ (i = e0 ∧ k = e0 + 1 + t - e0) := by
              intro hq
              rw [← Bool.not_eq_true] at hneq
              refine hneq ?_
              simp only [Bool.and_eq_true, beq_iff_eq]
              omega
            have hnw := fl_none hFl hno
            rw [show e0 + 1 + t - e0 = t + 1 by omega] at hnw
            rename News _ _ _ _ => NL
            refine qn _ _ ?_
            refine lw_end ⟨G2, hs2, hn2, H2, ds ++ [Value.int (e0 : Int) u0], dn + 1, D ++ [e0]⟩ (by k_asm) NL (all_cons (.tail _ (.tail _ (.tail _ (.tail _ (.tail _ (.tail _ (.tail _ (.tail _ (.head _))))))))) (all_cons (.tail _ (.tail _ (.tail _ (.tail _ (.tail _ (.tail _ (.tail _ (.tail _ (.tail _ (.head _)))))))))) (all_cons (.tail _ (.tail _ (.tail _ (.head _)))) (all_cons (.tail _ (.tail _ (.tail _ (.tail _ (.head _))))) (all_cons (.tail _ (.tail _ (.tail _ (.tail _ (.tail _ (.head _)))))) (all_cons (.tail _ (.tail _ (.tail _ (.tail _ (.tail _ (.tail _ (.head _))))))) (fun p hq => (.tail _ (.tail _ (.tail _ (.tail _ (.tail _ (.tail _ (.tail _ (.tail _ (.tail _ (.tail _ (hq)))))))))))))))))) ?_ ⟨fun p hq => s1 p (hsub p hq), s2, s3, s4, s5.done (.inr hnw), (by rw [natsI_snoc]; exact hdone.append (IntsAre.cons _ _ .nil)), (by dsimp only; rw [List.length_append, List.length_singleton]; omega)⟩ ?_
            · intro z z2
              repeat (refine skip_if (fun e => absurd z2 (by rw [e]; decide)) ?_)
              refine kstB_ne (ps := []) (fun _ h => nomatch h) ?_
              refine skip_stored (contains_sub z2 (by decide)) ?_
              repeat (refine skip_if (fun e => absurd z2 (by rw [e]; decide)) ?_)
              exact same_of (ps := []) z2 (fun _ h => nomatch h)
            · show (xs.length - (D ++ [e0]).length) * 100 + H2.length < (xs.length - D.length) * 100 + H.length
              have hcd := nodup_card _ _ s5.nodup s5.lt
              rw [List.length_append, List.length_singleton] at hcd ⊢
              omega
        · rintro ⟨G2, hs2, hn2, H2⟩ u2 h14 tk14 hM F14 N14
          refine hide ?_
          intro G9 hG9
          obtain ⟨s1, s2, s3, s4, s5, s6⟩ := id hM
          refine hG9 ?_
          clear hG9 G9
          dsimp only [lmLd, List.cons_append, List.nil_append] at s1 s2 s3 s4 s5 s6 F14 N14 ⊢
          clear F13 N13
          k_steps
          refine qn _ _ ?_
          refine lw_end ⟨G2, hs2, hn2, H2, ds ++ [Value.int (e0 : Int) u0], dn + 1, D ++ [e0]⟩ (by k_asm) N14 (fun p h => h) ?_ ⟨fun p hq => s1 p (hsub p hq), s2, s3, s4, s5.done (.inl (by omega)), (by rw [natsI_snoc]; exact hdone.append (IntsAre.cons _ _ .nil)), (by dsimp only; rw [List.length_append, List.length_singleton]; omega)⟩ ?_
          · intro z z2
            repeat (refine skip_if (fun e => absurd z2 (by rw [e]; decide)) ?_)
            refine kstB_ne (ps := []) (fun _ h => nomatch h) ?_
            refine skip_stored (contains_sub z2 (by decide)) ?_
            repeat (refine skip_if (fun e => absurd z2 (by rw [e]; decide)) ?_)
            exact same_of (ps := []) z2 (fun _ h => nomatch h)
          · show (xs.length - (D ++ [e0]).length) * 100 + H2.length < (xs.length - D.length) * 100 + H.length
            have hcd := nodup_card _ _ s5.nodup s5.lt
            rw [List.length_append, List.length_singleton] at hcd ⊢
            omega
    · rename (¬ _ < (as.length : Int)) => hge
      have hlx := hx.length
      refine qx _ ?_
      refine ⟨rfl, _, _, _, _, rfl, by k_asm, by k_asm, ⟨G, hs, hn, H, ds, dn, D⟩, lw_six rfl rfl rfl rfl rfl rfl, rfl, hP, h0, ?_⟩
      show (xs.length : Int) ≤ H[0].2.2
      omega
  · rintro fl s9 ⟨rfl, h9, tk9, m9, n9, rfl, F9, N9, ⟨G, hs, hn, H, ds, dn, D⟩, h6, rfl, hP, h0, hend⟩
    refine hide ?_
    intro G9 hG9
    obtain ⟨hsub, hap, hens, hheap, hinv, hdone, hsize⟩ := hP
    refine hG9 ?_
    clear hG9 G9
    dsimp only [lwLd, List.cons_append, List.nil_append] at hsub hap hens hheap hinv hdone hsize N9 h0 hend ⊢
    have F10 := Fr.told F9 h6
    dsimp only [lwNames] at F10
    clear F9 h6 F5 N5
    have hdl : D.length ≤ xs.length := nodup_card _ _ hinv.nodup hinv.lt
    have hle := hens.1
    have hres := hinv.result hW hf1 hheap h0 hend
    refine hide ?_
    intro G9 hG9
    obtain ⟨v0, hv0, a0, t0, pc, u0, rfl, m0, hpc⟩ := hens.get 0 h0
    refine hG9 ?_
    clear hG9 G9
    rw [hres] at m0 hpc
    have hBG : ∀ p ∈ G, p ∈ ((hp, listOf hs.toArray hn) :: (dl, listOf ds.toArray dn) :: (x, instObj 242 dx) :: (dx, smDict w (.ref la) lb d sj sp t1 t2 t3 t4 t5 t6 t7 t8 t9 t10) :: (sj, setE b1) :: (d, o) :: G : Led) := fun p hq => .tail _ (.tail _ (.tail _ (.tail _ (.tail _ (.tail _ hq)))))
    k_steps
    refine item_nat (p := 0) (by k_asm) (.head _) rfl hv0 (by omega) ?_
    dsimp only
    k_steps
    refine tup_pair (by k_asm) (by k_asm) (hBG _ m0) ?_
    intro DD h11 F11 N11 l11
    dsimp only
    k_steps
    refine (cheapest_spec w _ la lb as bs xs ys na nb fee tf W hx hy hxs hys (.tail _ (hBG _ (hsub _ mla))) (.tail _ (hBG _ (hsub _ mlb))) hW).use K0 (by k_asm) KX (by k_asm) T rfl ?_ ?_ ?_
    · decide
    · decide
    rintro r news12 h12 tk12 F12 N12 hP99
    refine hide ?_
    intro G9 hG9
    obtain ⟨hs12, hw12⟩ := hP99
    refine hG9 ?_
    clear hG9 G9
    k_steps
    have hwD : WayIs news12 (.ref DD) (W xs.length) := way_is (hs12 _ (.head _)) rfl (hpc.mono fun p hq => hs12 p (.tail _ (hBG p hq)))
    obtain ⟨as9, r1⟩ := hwD.rd h12 fun p hq => (N12 p hq).1
    obtain ⟨bs9, r2⟩ := hw12.rd h12 fun p hq => (N12 p hq).1
    have ly := lay_way (W xs.length)
    refine PySem.SeqAt.compareEq_reads r1 r2 ly.1 ly.1 ?_ ?_
    · have : (wayD (W xs.length)).depth ≤ 5 := ly.2
      rw [Nat.min_self]
      refine Nat.lt_of_le_of_lt (Nat.add_le_add_left this _) ?_
      simp only [units_deeper]
      decide
    · rw [eqv_way, decide_eq_true rfl]
      wrow_close
  · intro _ _ q; exact q.elim
theorem top : PySem.Challenge.rw_nq0313_01.Holds := holdsX top0
end Mine
end
end
end
set_option maxRecDepth 100000 in
theorem PySem.Challenge.cw_nq0313_01_holds : PySem.Challenge.rw_nq0313_01.Holds :=
  Mine.top
