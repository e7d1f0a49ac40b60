import PyProof.Rows.All
import Wide.All
import OpenK.AllK
import Wide.FinOn
import PySem.Challenge.RW_op0006_01

set_option Elab.async false
set_option linter.unusedSectionVars false
set_option linter.unusedVariables false
set_option linter.unusedSimpArgs false

-- M1
noncomputable section
/- The plain law: the free band's least words (no program in sight). -/
namespace Mine
section
variable {α : Type} [DecidableEq α]

theorem revInd {P : List α → Prop} (nil : P []) (append_singleton : ∀ w x, P w → P (w ++ [x])) (w : List α) : P w := by
  have : ∀ l : List α, P l.reverse := by
    intro l
    induction l with
    | nil => simpa using nil
    | cons x l ih => rw [List.reverse_cons]; exact append_singleton _ _ ih
  have := this w.reverse
  rwa [List.reverse_reverse] at this

/-- w = f ++ a :: r, a new at its place, nothing new behind it -/
def Dec (w f : List α) (a : α) : Prop := ∃ r, w = f ++ a :: r ∧ a ∉ f ∧ ∀ b ∈ r, b = a ∨ b ∈ f

theorem Dec.uniq {w f f' : List α} {a a' : α} (h : Dec w f a) (h' : Dec w f' a') : f = f' ∧ a = a' := by
  obtain ⟨r, e, n, c⟩ := h
  obtain ⟨r', e', n', c'⟩ := h'
  rw [e] at e'
  rcases List.append_eq_append_iff.mp e' with ⟨t, h1, h2⟩ | ⟨t, h1, h2⟩
  · cases t with
    | nil => simp at h1 h2; exact ⟨h1.symm, h2.1⟩
    | cons y t =>
      simp at h2
      obtain ⟨rfl, rfl⟩ := h2
      exfalso
      have := c a' (by simp)
      rcases this with rfl | q
      · exact n' (by rw [h1]; simp)
      · exact n' (by rw [h1]; simp [q])
  · cases t with
    | nil => simp at h1 h2; exact ⟨h1, h2.1.symm⟩
    | cons y t =>
      simp at h2
      obtain ⟨rfl, rfl⟩ := h2
      exfalso
      have := c' a (by simp)
      rcases this with rfl | q
      · exact n (by rw [h1]; simp)
      · exact n (by rw [h1]; simp [q])

/-- the names in the order of their first places -/
def dedup (w : List α) : List α := w.foldl (fun acc x => if x ∈ acc then acc else acc ++ [x]) []

def dstep (acc : List α) (x : α) : List α := if x ∈ acc then acc else acc ++ [x]
theorem dedup_eq (w : List α) : dedup w = w.foldl dstep [] := rfl
theorem dedup_snoc (w : List α) (x : α) : dedup (w ++ [x]) = dstep (dedup w) x := by simp [dedup_eq, List.foldl_append]
theorem mem_dedup (w : List α) : ∀ x, x ∈ dedup w ↔ x ∈ w := by
  induction w using revInd with
  | nil => intro x; simp [dedup]
  | append_singleton w y ih =>
    intro x
    rw [dedup_snoc, dstep]
    split
    · rename_i h; rw [ih]; simp; intro e; subst e; exact (ih _).mp h
    · simp [ih]
theorem nodup_dedup (w : List α) : (dedup w).Nodup := by
  induction w using revInd with
  | nil => simp [dedup]
  | append_singleton w y ih =>
    rw [dedup_snoc, dstep]
    split
    · exact ih
    · rename_i h
      rw [List.nodup_append]
      refine ⟨ih, by simp, ?_⟩
      intro a ha b hb
      simp at hb
      subst hb
      intro e; subst e; exact h ha

def lastNew (w : List α) : Option α := (dedup w).getLast?
/-- what stands ahead of the last new name -/
def front (w : List α) : List α := match lastNew w with
  | some a => w.take (w.idxOf a)
  | none => []

theorem dec_dedup (w : List α) : w ≠ [] → ∃ f a, Dec w f a ∧ dedup w = dedup f ++ [a] := by
  induction w using revInd with
  | nil => intro h; exact absurd rfl h
  | append_singleton w x ih =>
    intro _
    by_cases hx : x ∈ w
    · have hw : w ≠ [] := by intro e; rw [e] at hx; cases hx
      obtain ⟨f, a, ⟨r, e, n, c⟩, hd⟩ := ih hw
      refine ⟨f, a, ⟨r ++ [x], by rw [e]; simp, n, ?_⟩, ?_⟩
      · intro b hb
        rcases List.mem_append.mp hb with q | q
        · exact c b q
        · simp at q; subst q
          rw [e] at hx
          rcases List.mem_append.mp hx with q | q
          · exact .inr q
          · rcases List.mem_cons.mp q with q | q
            · exact .inl q
            · exact c _ q
      · rw [dedup_snoc, dstep, if_pos ((mem_dedup w x).mpr hx), hd]
    · refine ⟨w, x, ⟨[], by simp, hx, fun _ h => nomatch h⟩, ?_⟩
      rw [dedup_snoc, dstep, if_neg (fun h => hx ((mem_dedup w x).mp h))]

theorem idxOf_dec {w f : List α} {a : α} (h : Dec w f a) : w.idxOf a = f.length := by
  obtain ⟨r, e, n, _⟩ := h
  rw [e, List.idxOf_append, if_neg n]
  simp
theorem lastNew_dec {w f : List α} {a : α} (h : Dec w f a) : lastNew w = some a := by
  have hw : w ≠ [] := by obtain ⟨r, e, _⟩ := h; rw [e]; simp
  obtain ⟨f', a', h', hd⟩ := dec_dedup w hw
  obtain ⟨rfl, rfl⟩ := h.uniq h'
  simp [lastNew, hd]
theorem dedup_dec {w f : List α} {a : α} (h : Dec w f a) : dedup w = dedup f ++ [a] := by
  have hw : w ≠ [] := by obtain ⟨r, e, _⟩ := h; rw [e]; simp
  obtain ⟨f', a', h', hd⟩ := dec_dedup w hw
  obtain ⟨rfl, rfl⟩ := h.uniq h'
  exact hd
theorem front_dec {w f : List α} {a : α} (h : Dec w f a) : front w = f := by
  rw [front, lastNew_dec h]
  show w.take (w.idxOf a) = f
  rw [idxOf_dec h]
  obtain ⟨r, e, _⟩ := h
  rw [e]; simp
theorem dec_of_ne {w : List α} (h : w ≠ []) : ∃ a, Dec w (front w) a ∧ lastNew w = some a := by
  obtain ⟨f, a, d, _⟩ := dec_dedup w h
  exact ⟨a, by rw [front_dec d]; exact d, lastNew_dec d⟩
theorem dec_lt {w f : List α} {a : α} (h : Dec w f a) : f.length < w.length := by
  obtain ⟨r, e, _⟩ := h
  rw [e]; simp
theorem front_lt {w : List α} (h : w ≠ []) : (front w).length < w.length := by
  obtain ⟨a, d, _⟩ := dec_of_ne h
  exact dec_lt d

inductive Cd (α : Type) where
  | e : Cd α
  | n (f : Cd α) (a : α) (g : Cd α) (b : α) : Cd α

def code (w : List α) : Cd α :=
  if h : w = [] then .e else
    match lastNew w, lastNew w.reverse with
    | some a, some b => .n (code (front w)) a (code (front w.reverse)) b
    | _, _ => .e
termination_by w.length
decreasing_by
  · exact front_lt h
  · have := front_lt (w := w.reverse) (by simpa using h); simpa using this

theorem code_nil : code ([] : List α) = .e := by rw [code]; simp
theorem code_dec {w f g : List α} {a b : α} (h : Dec w f a) (h' : Dec w.reverse g b) : code w = .n (code f) a (code g) b := by
  have hw : w ≠ [] := by obtain ⟨r, e, _⟩ := h; rw [e]; simp
  rw [code, dif_neg hw, lastNew_dec h, lastNew_dec h', front_dec h, front_dec h']
theorem code_cases (w : List α) : w = [] ∨ ∃ f a g b, Dec w f a ∧ Dec w.reverse g b ∧ code w = .n (code f) a (code g) b := by
  by_cases hw : w = []
  · exact .inl hw
  · obtain ⟨a, d, _⟩ := dec_of_ne hw
    obtain ⟨b, d', _⟩ := dec_of_ne (w := w.reverse) (by simpa using hw)
    exact .inr ⟨_, a, _, b, d, d', code_dec d d'⟩

def Cd.swap : Cd α → Cd α
  | .e => .e
  | .n f a g b => .n g b f a
theorem code_reverse (w : List α) : code w.reverse = (code w).swap := by
  rcases code_cases w with rfl | ⟨f, a, g, b, d, d', e⟩
  · simp [code_nil, Cd.swap]
  · rw [e, code_dec d' (by simpa using d)]; rfl

inductive Step : List α → List α → Prop
  | sq (u x v : List α) : Step (u ++ x ++ x ++ v) (u ++ x ++ v)
  | mid (u x y z v : List α) : (∀ a, a ∈ x ↔ a ∈ z) → (∀ a ∈ y, a ∈ x) → Step (u ++ x ++ y ++ z ++ v) (u ++ x ++ z ++ v)

theorem Step.reverse {w w' : List α} (h : Step w w') : Step w.reverse w'.reverse := by
  cases h with
  | sq u x v => simpa using Step.sq v.reverse x.reverse u.reverse
  | mid u x y z v h1 h2 =>
    have := Step.mid v.reverse z.reverse y.reverse x.reverse u.reverse (by intro a; simp [h1]) (by intro a; simp; intro q; exact (h1 a).mp (h2 a q))
    simpa using this
theorem Step.mem {w w' : List α} (h : Step w w') (a : α) : a ∈ w ↔ a ∈ w' := by
  cases h with
  | sq u x v => simp
  | mid u x y z v h1 h2 =>
    simp
    constructor
    · rintro (q | q | q | q | q)
      · exact .inl q
      · exact .inr (.inl q)
      · exact .inr (.inl (h2 a q))
      · exact .inr (.inr (.inl q))
      · exact .inr (.inr (.inr q))
    · rintro (q | q | q | q)
      · exact .inl q
      · exact .inr (.inl q)
      · exact .inr (.inr (.inr (.inl q)))
      · exact .inr (.inr (.inr (.inr q)))

/-- where the last new place lies: in p or behind it -/
theorem place {f r p q : List α} {a : α} (e : f ++ a :: r = p ++ q) : (∃ c, p = f ++ a :: c ∧ r = c ++ q) ∨ ∃ c, f = p ++ c ∧ q = c ++ a :: r := by
  rcases List.append_eq_append_iff.mp e with ⟨t, h1, h2⟩ | ⟨t, h1, h2⟩
  · cases t with
    | nil => right; exact ⟨[], by simpa using h1.symm, by simpa using h2.symm⟩
    | cons y t =>
      simp at h2
      obtain ⟨rfl, rfl⟩ := h2
      exact .inl ⟨t, h1, rfl⟩
  · exact .inr ⟨t, h1, h2⟩

theorem Step.dec {w w' f : List α} {a : α} (h : Step w w') (d : Dec w f a) : ∃ f', Dec w' f' a ∧ (f = f' ∨ Step f f') := by
  have hm := h.mem
  obtain ⟨r, e, n, c⟩ := d
  have all : ∀ b ∈ w', b = a ∨ b ∈ f := fun b hb => by
    have := (hm b).mpr hb
    rw [e] at this
    rcases List.mem_append.mp this with q | q
    · exact .inr q
    · rcases List.mem_cons.mp q with q | q
      · exact .inl q
      · exact c b q
  cases h with
  | sq u x v =>
    have e1 : f ++ a :: r = u ++ (x ++ (x ++ v)) := by rw [← e]; simp
    rcases place e1 with ⟨t, h1, h2⟩ | ⟨t, h1, h2⟩
    · refine ⟨f, ⟨t ++ x ++ v, by rw [h1]; simp, n, fun b hb => all b (by rw [h1]; simp at hb ⊢; rcases hb with q | q | q <;> simp [q])⟩, .inl rfl⟩
    · rcases place h2.symm with ⟨t', h3, h4⟩ | ⟨t', h3, h4⟩
      · refine ⟨f, ⟨t' ++ v, by rw [h1, h3]; simp, n, fun b hb => all b (by rw [h3]; simp at hb ⊢; rcases hb with q | q <;> simp [q])⟩, .inl rfl⟩
      · rcases place h4.symm with ⟨t'', h5, h6⟩ | ⟨t'', h5, h6⟩
        · exact absurd (by rw [h1, h3, h5]; simp) n
        · refine ⟨u ++ x ++ t'', ⟨r, by rw [h6]; simp, ?_, ?_⟩, .inr ?_⟩
          · intro q; apply n; rw [h1, h3, h5]; simp at q ⊢; rcases q with q | q | q <;> simp [q]
          · intro b hb; rcases c b hb with q | q
            · exact .inl q
            · right; rw [h1, h3, h5] at q; simp at q ⊢; exact q
          · have : f = u ++ x ++ x ++ t'' := by rw [h1, h3, h5]; simp
            rw [this]; exact Step.sq u x t''
  | mid u x y z v hxz hyx =>
    have e1 : f ++ a :: r = u ++ (x ++ (y ++ (z ++ v))) := by rw [← e]; simp
    rcases place e1 with ⟨t, h1, h2⟩ | ⟨t, h1, h2⟩
    · refine ⟨f, ⟨t ++ x ++ z ++ v, by rw [h1]; simp, n, fun b hb => all b (by rw [h1]; simp at hb ⊢; rcases hb with q | q | q | q <;> simp [q])⟩, .inl rfl⟩
    · rcases place h2.symm with ⟨t', h3, h4⟩ | ⟨t', h3, h4⟩
      · refine ⟨f, ⟨t' ++ z ++ v, by rw [h1, h3]; simp, n, fun b hb => all b (by rw [h3]; simp at hb ⊢; rcases hb with q | q | q <;> simp [q])⟩, .inl rfl⟩
      · rcases place h4.symm with ⟨t'', h5, h6⟩ | ⟨t'', h5, h6⟩
        · exact absurd (by rw [h1, h3]; simp [hyx a (by rw [h5]; simp)]) n
        · rcases place h6.symm with ⟨t3, h7, h8⟩ | ⟨t3, h7, h8⟩
          · exact absurd (by rw [h1, h3]; simp [(hxz a).mpr (by rw [h7]; simp)]) n
          · refine ⟨u ++ x ++ z ++ t3, ⟨r, by rw [h8]; simp, ?_, ?_⟩, .inr ?_⟩
            · intro q; apply n; rw [h1, h3, h5, h7]; simp at q ⊢; rcases q with q | q | q | q <;> simp [q]
            · intro b hb; rcases c b hb with q | q
              · exact .inl q
              · right; rw [h1, h3, h5, h7] at q; simp at q ⊢
                rcases q with q | q | q | q | q
                · simp [q]
                · simp [q]
                · simp [hyx b q]
                · simp [q]
                · simp [q]
            · have : f = u ++ x ++ y ++ z ++ t3 := by rw [h1, h3, h5, h7]; simp
              rw [this]; exact Step.mid u x y z t3 hxz hyx

theorem step_code : ∀ (k : Nat) (w w' : List α), w.length ≤ k → Step w w' → code w = code w' := by
  intro k
  induction k with
  | zero =>
    intro w w' hk h
    have hw : w = [] := List.eq_nil_of_length_eq_zero (by omega)
    subst hw
    have : w' = [] := by
      cases w' with
      | nil => rfl
      | cons y t => have := (h.mem y).mpr (by simp); cases this
    rw [this]
  | succ k ih =>
    intro w w' hk h
    rcases code_cases w with rfl | ⟨f, a, g, b, d, d', e⟩
    · have : w' = [] := by
        cases w' with
        | nil => rfl
        | cons y t => have := (h.mem y).mpr (by simp); cases this
      rw [this]
    · obtain ⟨f', df, hf⟩ := h.dec d
      obtain ⟨g', dg, hg⟩ := h.reverse.dec d'
      have l1 := dec_lt d
      have l2 := dec_lt d'
      simp at l2
      have e1 : code f = code f' := by
        rcases hf with rfl | hf
        · rfl
        · exact ih _ _ (by omega) hf
      have e2 : code g = code g' := by
        rcases hg with rfl | hg
        · rfl
        · exact ih _ _ (by omega) hg
      rw [e, code_dec df dg, e1, e2]
theorem Step.code {w w' : List α} (h : Step w w') : code w = Mine.code w' := step_code _ _ _ (Nat.le_refl _) h

/-- nothing is left to strike out -/
def Irr (w : List α) : Prop :=
  (∀ u x v, w = u ++ x ++ x ++ v → x = []) ∧
  (∀ u x y z v, w = u ++ x ++ y ++ z ++ v → x ≠ [] → (∀ a, a ∈ x ↔ a ∈ z) → (∀ a ∈ y, a ∈ x) → y = [])
theorem Irr.factor {w p q r : List α} (h : Irr w) (e : w = p ++ q ++ r) : Irr q := by
  refine ⟨fun u x v e' => h.1 (p ++ u) x (v ++ r) (by rw [e, e']; simp), fun u x y z v e' => h.2 (p ++ u) x y z (v ++ r) (by rw [e, e']; simp)⟩
theorem Irr.reverse {w : List α} (h : Irr w) : Irr w.reverse := by
  refine ⟨fun u x v e => ?_, fun u x y z v e hx h1 h2 => ?_⟩
  · have e' : w = v.reverse ++ x.reverse ++ x.reverse ++ u.reverse := by
      have := congrArg List.reverse e; simpa using this
    have := h.1 _ _ _ e'; simpa using this
  · have e' : w = v.reverse ++ z.reverse ++ y.reverse ++ x.reverse ++ u.reverse := by
      have := congrArg List.reverse e; simpa using this
    have hz : z ≠ [] := by
      intro q; subst q
      cases x with
      | nil => exact hx rfl
      | cons c t => have := (h1 c).mp (by simp); cases this
    have := h.2 _ _ _ _ _ e' (by simpa using hz) (by intro a; simp [h1]) (by intro a; simp; intro q; exact (h1 a).mp (h2 a q))
    simpa using this

/-- how far two rows agree: the greatest k at which head's end is tail's beginning -/
def agreed (head tail : List α) : List Nat := (List.range (min head.length tail.length + 1)).filter fun k => head.drop (head.length - k) == tail.take k
def maxOf (l : List Nat) : Nat := l.foldl max 0
theorem foldl_max_ge : ∀ (l : List Nat) (a : Nat), a ≤ l.foldl max a ∧ ∀ x ∈ l, x ≤ l.foldl max a
  | [], a => ⟨Nat.le_refl _, fun _ h => nomatch h⟩
  | y :: l, a => by
    have := foldl_max_ge l (max a y)
    refine ⟨Nat.le_trans (Nat.le_max_left _ _) this.1, fun x hx => ?_⟩
    rcases List.mem_cons.mp hx with rfl | hx
    · exact Nat.le_trans (Nat.le_max_right _ _) this.1
    · exact this.2 x hx
theorem foldl_max_mem : ∀ (l : List Nat) (a : Nat), l.foldl max a = a ∨ l.foldl max a ∈ l
  | [], a => .inl rfl
  | y :: l, a => by
    rcases foldl_max_mem l (max a y) with q | q
    · simp only [List.foldl_cons, q]
      rcases Nat.le_total a y with h | h
      · right; simp [Nat.max_eq_right h]
      · left; simp [Nat.max_eq_left h]
    · right; simp [q]
def least : Cd α → List α
  | .e => []
  | .n f a g b => (least f ++ [a]) ++ (b :: (least g).reverse).drop (maxOf (agreed (least f ++ [a]) (b :: (least g).reverse)))

theorem maxOf_is {l : List Nat} {k : Nat} (hk : k ∈ l) (h : ∀ x ∈ l, x ≤ k) : maxOf l = k := by
  have h1 := (foldl_max_ge l 0).2 k hk
  rcases foldl_max_mem l 0 with q | q
  · have : maxOf l = 0 := q
    have h1' : k ≤ maxOf l := h1
    omega
  · exact Nat.le_antisymm (h _ q) h1

theorem irr_least : ∀ (k : Nat) (w : List α), w.length ≤ k → Irr w → least (code w) = w := by
  intro k
  induction k with
  | zero =>
    intro w hk _
    have hw : w = [] := List.eq_nil_of_length_eq_zero (by omega)
    subst hw; rw [code_nil]; rfl
  | succ k ih =>
    intro w hk hI
    rcases code_cases w with rfl | ⟨f, a, g, b, d, d', e⟩
    · rw [code_nil]; rfl
    · have l1 := dec_lt d
      have l2 := dec_lt d'
      simp at l2
      obtain ⟨r, e1, n1, c1⟩ := d
      obtain ⟨t, e2, n2, c2⟩ := d'
      have e3 : w = t.reverse ++ (b :: g.reverse) := by have := congrArg List.reverse e2; simpa using this
      have e4 : w = (f ++ [a]) ++ r := by rw [e1]; simp
      have if_ : Irr f := hI.factor (p := []) (r := a :: r) (by simpa using e1)
      have ig : Irr g := hI.reverse.factor (p := []) (r := b :: t) (by simpa using e2)
      have ef := ih f (by omega) if_
      have eg := ih g (by omega) ig
      rw [e]
      show (least (Mine.code f) ++ [a]) ++ (b :: (least (Mine.code g)).reverse).drop (maxOf (agreed (least (Mine.code f) ++ [a]) (b :: (least (Mine.code g)).reverse))) = w
      rw [ef, eg]
      have hH : ∀ c ∈ w, c ∈ f ++ [a] := by
        intro c hc; rw [e1] at hc; simp at hc ⊢
        rcases hc with q | q | q
        · simp [q]
        · simp [q]
        · rcases c1 c q with q | q <;> simp [q]
      have hT : ∀ c ∈ w, c ∈ b :: g.reverse := by
        intro c hc
        have hc' : c ∈ w.reverse := by simpa using hc
        rw [e2] at hc'; simp at hc' ⊢
        rcases hc' with q | q | q
        · simp [q]
        · simp [q]
        · rcases c2 c q with q | q <;> simp [q]
      have hHne : f ++ [a] ≠ [] := by simp
      generalize hh : f ++ [a] = H at *
      generalize ht : b :: g.reverse = T at *
      have hlH : H.length + r.length = w.length := by rw [e4]; simp
      have hlT : t.length + T.length = w.length := by rw [e3]; simp
      -- no gap
      have gap : w.length ≤ H.length + T.length := by
        apply Nat.le_of_not_lt
        intro hlt
        have h1 : w = H ++ (r.take (t.length - H.length)) ++ T := by
          have : r = (r.take (t.length - H.length)) ++ r.drop (t.length - H.length) := by simp
          have h2 : r.drop (t.length - H.length) = T := by
            have h3 : w.drop (t.length) = T := by rw [e3]; simp
            rw [e4, List.drop_append] at h3
            have h4 : List.drop t.length H = [] := List.drop_of_length_le (by omega)
            rw [h4] at h3; simpa using h3
          rw [e4]; rw [List.append_assoc]; congr 1; rw [← h2]; exact this
        have h5 := hI.2 [] H (r.take (t.length - H.length)) T [] (by simpa using h1) hHne
          (fun c => ⟨fun hc => hT c (by rw [e4]; simp [hc]), fun hc => hH c (by rw [e3]; simp [hc])⟩)
          (fun c hc => hH c (by rw [h1]; simp [hc]))
        have h6 : (r.take (t.length - H.length)).length = 0 := by rw [h5]; rfl
        rw [List.length_take] at h6
        omega
      -- the place where they meet
      have hk0 : maxOf (agreed H T) = H.length + T.length - w.length := by
        apply maxOf_is
        · simp only [agreed, List.mem_filter, List.mem_range]
          refine ⟨by omega, ?_⟩
          rw [beq_iff_eq]
          have h1 : H.length - (H.length + T.length - w.length) = t.length := by omega
          rw [h1]
          have h3 : w.drop t.length = T := by rw [e3]; simp
          have h4 : w.take H.length = H := by rw [e4]; simp
          have h5 : H.drop t.length = (w.take H.length).drop t.length := by rw [h4]
          have h6 : T.take (H.length + T.length - w.length) = (w.drop t.length).take (H.length + T.length - w.length) := by rw [h3]
          rw [h5, h6, List.take_drop]
          congr 2
          omega
        · intro k hk
          simp only [agreed, List.mem_filter, List.mem_range, beq_iff_eq] at hk
          obtain ⟨hk1, hk2⟩ := hk
          apply Nat.le_of_not_lt
          intro hlt
          -- a square
          have h3 : w.drop t.length = T := by rw [e3]; simp
          have h4 : w.take H.length = H := by rw [e4]; simp
          let s := H.length - k
          let dd := k - (H.length + T.length - w.length)
          have hs : s + dd = t.length := by simp only [s, dd]; omega
          have hp1 : (w.drop s).take k = T.take k := by
            rw [← hk2]
            have : H.drop (H.length - k) = (w.take H.length).drop s := by rw [h4]
            rw [this, List.drop_take]
            congr 1
            simp only [s]; omega
          have hp2 : (w.drop (s + dd)).take k = T.take k := by rw [hs, h3]
          have hdk : dd ≤ k := by simp only [dd]; omega
          have hx1 : (w.drop s).take dd = T.take dd := by
            have := congrArg (List.take dd) hp1
            simpa [List.take_take, Nat.min_eq_left hdk] using this
          have hx2 : (w.drop (s + dd)).take dd = T.take dd := by
            have := congrArg (List.take dd) hp2
            simpa [List.take_take, Nat.min_eq_left hdk] using this
          have hw : w = w.take s ++ T.take dd ++ T.take dd ++ w.drop (s + dd + dd) := by
            have a1 : w.drop (s + dd) = (w.drop (s + dd)).take dd ++ (w.drop (s + dd)).drop dd := (List.take_append_drop _ _).symm
            have a2 : w.drop s = (w.drop s).take dd ++ (w.drop s).drop dd := (List.take_append_drop _ _).symm
            have a3 : w = w.take s ++ w.drop s := (List.take_append_drop _ _).symm
            rw [List.drop_drop] at a1 a2
            rw [hx2] at a1
            rw [hx1, a1] at a2
            rw [a2] at a3
            simpa [List.append_assoc] using a3
          have := hI.1 _ _ _ hw
          have h7 : (T.take dd).length = 0 := by rw [this]; rfl
          rw [List.length_take] at h7
          simp only [dd] at h7
          omega
      rw [hk0]
      have h3 : w.drop t.length = T := by rw [e3]; simp
      have h4 : w.take H.length = H := by rw [e4]; simp
      have h5 : T.drop (H.length + T.length - w.length) = w.drop H.length := by
        have h6 : T.drop (H.length + T.length - w.length) = (w.drop t.length).drop (H.length + T.length - w.length) := by rw [h3]
        rw [h6, List.drop_drop]; congr 1; omega
      rw [h5]
      have h7 : H ++ w.drop H.length = w.take H.length ++ w.drop H.length := by rw [h4]
      rw [h7]
      exact List.take_append_drop _ _
theorem Irr.least {w : List α} (h : Irr w) : least (code w) = w := irr_least _ _ (Nat.le_refl _) h

inductive Steps : List α → List α → Prop
  | refl (w : List α) : Steps w w
  | head {w w' n : List α} : Step w w' → Steps w' n → Steps w n
theorem Steps.code {w n : List α} (h : Steps w n) : Mine.code w = Mine.code n := by
  induction h with
  | refl => rfl
  | head h _ ih => exact h.code.trans ih
theorem law_least {w n : List α} (h : Steps w n) (i : Irr n) : least (code w) = n := by rw [h.code]; exact i.least
theorem law_twice (w : List α) (i j : Nat) (hij : i ≤ j) (hj : j ≤ w.length) : code (w.take j ++ w.drop i) = code w := by
  have h1 : w.take j ++ w.drop i = w.take i ++ (w.drop i).take (j - i) ++ (w.drop i).take (j - i) ++ w.drop j := by
    have a1 : w.take j = w.take i ++ (w.drop i).take (j - i) := by
      have : j = i + (j - i) := by omega
      conv => lhs; rw [this, List.take_add]
    have a2 : w.drop i = (w.drop i).take (j - i) ++ w.drop j := by
      conv => lhs; rw [← List.take_append_drop (j - i) (w.drop i)]
      rw [List.drop_drop]; congr 2; omega
    rw [a1]
    have a3 : List.take i w ++ List.take (j - i) (List.drop i w) ++ List.drop i w = List.take i w ++ List.take (j - i) (List.drop i w) ++ (List.take (j - i) (List.drop i w) ++ List.drop j w) := by rw [← a2]
    rw [a3]
    simp only [List.append_assoc]
  have h2 : w = w.take i ++ (w.drop i).take (j - i) ++ w.drop j := by
    conv => lhs; rw [← List.take_append_drop i w, ← List.take_append_drop (j - i) (w.drop i)]
    rw [List.drop_drop]; simp; congr 2; omega
  rw [h1, (Step.sq _ _ _).code, ← h2]
theorem law_mirror {w n : List α} (h : Steps w n) (i : Irr n) : code w = (code w).swap ↔ n = n.reverse := by
  rw [h.code, ← code_reverse]
  constructor
  · intro e
    have := congrArg Mine.least e
    rw [i.least, i.reverse.least] at this
    exact this
  · intro e
    rw [← e]
end
end Mine
end

-- M2
noncomputable section
namespace Mine
section
variable {α : Type} [DecidableEq α]
def sl (w : List α) (i j : Nat) : List α := (w.drop i).take (j - i)
def subSet (x y : List α) : Bool := x.all (fun a => decide (a ∈ y))
def sameSet (x y : List α) : Bool := subSet x y && subSet y x
def cutsSq (w : List α) : List (Nat × Nat) :=
  (List.range' 1 (w.length / 2)).flatMap fun h => ((List.range (w.length - 2 * h + 1)).filter (fun i => decide (sl w i (i + h) = sl w (i + h) (i + 2 * h)))).map (fun i => (i, i + h))
def cutsMid (w : List α) (i j : Nat) : List (Nat × Nat) :=
  (List.range' (j + 1) (w.length - (j + 1))).flatMap fun k => ((List.range' (k + 1) (w.length + 1 - (k + 1))).filter (fun m => sameSet (sl w k m) (sl w i j) && subSet (sl w j k) (sl w i j))).map fun _ => (j, k)
def cutsMids (w : List α) : List (Nat × Nat) :=
  (List.range (w.length - 2)).flatMap fun i => (List.range' (i + 1) (w.length - 1 - (i + 1))).flatMap fun j => cutsMid w i j
def cuts (w : List α) : List (Nat × Nat) := cutsSq w ++ cutsMids w

theorem sl_split {w : List α} {i j : Nat} (h : i ≤ j) (hj : j ≤ w.length) : w.drop i = sl w i j ++ w.drop j := by
  rw [sl]
  conv => lhs; rw [← List.take_append_drop (j - i) (w.drop i)]
  rw [List.drop_drop]; congr 2; omega
theorem subSet_iff {x y : List α} : subSet x y = true ↔ ∀ a ∈ x, a ∈ y := by simp [subSet]
theorem sameSet_iff {x y : List α} : sameSet x y = true ↔ ∀ a, a ∈ x ↔ a ∈ y := by
  simp [sameSet, subSet_iff]
  exact ⟨fun h a => ⟨h.1 a, h.2 a⟩, fun h => ⟨fun a => (h a).mp, fun a => (h a).mpr⟩⟩

theorem cuts_step {w : List α} {j k : Nat} (h : (j, k) ∈ cuts w) : Step w (w.take j ++ w.drop k) ∧ j < k ∧ k ≤ w.length := by
  rcases List.mem_append.mp h with h | h
  · simp only [cutsSq, List.mem_flatMap, List.mem_map, List.mem_filter, List.mem_range, List.mem_range'_1, decide_eq_true_eq, Prod.mk.injEq] at h
    obtain ⟨d, hd, i, ⟨hi, he⟩, rfl, rfl⟩ := h
    have e1 : w.drop i = sl w i (i + d) ++ w.drop (i + d) := sl_split (by omega) (by omega)
    have e2 : w.drop (i + d) = sl w (i + d) (i + 2 * d) ++ w.drop (i + 2 * d) := sl_split (by omega) (by omega)
    refine ⟨?_, by omega, by omega⟩
    have hw : w = w.take i ++ sl w i (i + d) ++ sl w i (i + d) ++ w.drop (i + 2 * d) := by
      conv => lhs; rw [← List.take_append_drop i w, e1, e2, ← he]
      simp
    have hw' : w.take i ++ w.drop (i + d) = w.take i ++ sl w i (i + d) ++ w.drop (i + 2 * d) := by rw [e2, ← he]; simp
    rw [hw']
    conv => lhs; rw [hw]
    exact Step.sq _ _ _
  · simp only [cutsMids, cutsMid, List.mem_flatMap, List.mem_map, List.mem_filter, List.mem_range, List.mem_range'_1, Prod.mk.injEq, Bool.and_eq_true] at h
    obtain ⟨i, hi, j', hj, k', hk, m, ⟨hm, h1, h2⟩, rfl, rfl⟩ := h
    have e1 : w.drop i = sl w i j' ++ w.drop j' := sl_split (by omega) (by omega)
    have e2 : w.drop j' = sl w j' k' ++ w.drop k' := sl_split (by omega) (by omega)
    have e3 : w.drop k' = sl w k' m ++ w.drop m := sl_split (by omega) (by omega)
    refine ⟨?_, by omega, by omega⟩
    have hw : w = w.take i ++ sl w i j' ++ sl w j' k' ++ sl w k' m ++ w.drop m := by
      conv => lhs; rw [← List.take_append_drop i w, e1, e2, e3]
      simp
    have ht : w.take j' = w.take i ++ sl w i j' := by
      have : j' = i + (j' - i) := by omega
      conv => lhs; rw [this, List.take_add]
      rfl
    have hw' : w.take j' ++ w.drop k' = w.take i ++ sl w i j' ++ sl w k' m ++ w.drop m := by rw [e3, ht]; simp
    rw [hw']
    conv => lhs; rw [hw]
    exact Step.mid _ _ _ _ _ (fun a => (sameSet_iff.mp h1 a).symm) (subSet_iff.mp h2)

theorem cuts_nil {w : List α} (h : cuts w = []) : Irr w := by
  obtain ⟨hs, hm⟩ := List.append_eq_nil_iff.mp h
  refine ⟨fun u x v e => ?_, fun u x y z v e hx h1 h2 => ?_⟩
  · apply Classical.byContradiction
    intro hne
    have hl : 0 < x.length := by cases x with | nil => exact absurd rfl hne | cons _ _ => simp
    have hlen : w.length = u.length + x.length + x.length + v.length := by rw [e]; simp; omega
    have : (u.length, u.length + x.length) ∈ cutsSq w := by
      simp only [cutsSq, List.mem_flatMap, List.mem_map, List.mem_filter, List.mem_range, List.mem_range'_1, decide_eq_true_eq, Prod.mk.injEq]
      refine ⟨x.length, by omega, u.length, ⟨by omega, ?_⟩, rfl, rfl⟩
      have s1 : sl w u.length (u.length + x.length) = x := by
        rw [sl, e]; simp [List.append_assoc]
      have s2 : sl w (u.length + x.length) (u.length + 2 * x.length) = x := by
        have : w = (u ++ x) ++ (x ++ v) := by rw [e]; simp
        rw [sl, this]
        have h3 : List.drop (u.length + x.length) (u ++ x ++ (x ++ v)) = x ++ v := by
          have : u.length + x.length = (u ++ x).length := by simp
          rw [this, List.drop_left]
        rw [h3]
        have : u.length + 2 * x.length - (u.length + x.length) = x.length := by omega
        rw [this]; simp
      rw [s1, s2]
    rw [hs] at this; cases this
  · apply Classical.byContradiction
    intro hne
    have hl : 0 < y.length := by cases y with | nil => exact absurd rfl hne | cons _ _ => simp
    have hlx : 0 < x.length := by cases x with | nil => exact absurd rfl hx | cons _ _ => simp
    have hlz : 0 < z.length := by
      cases z with
      | nil =>
        cases x with
        | nil => exact absurd rfl hx
        | cons c t => have := (h1 c).mp (by simp); cases this
      | cons _ _ => simp
    have hlen : w.length = u.length + x.length + y.length + z.length + v.length := by rw [e]; simp; omega
    have : (u.length + x.length, u.length + x.length + y.length) ∈ cutsMids w := by
      simp only [cutsMids, cutsMid, List.mem_flatMap, List.mem_map, List.mem_filter, List.mem_range, List.mem_range'_1, Prod.mk.injEq, Bool.and_eq_true]
      have s1 : sl w u.length (u.length + x.length) = x := by rw [sl, e]; simp [List.append_assoc]
      have s2 : sl w (u.length + x.length) (u.length + x.length + y.length) = y := by
        have : w = (u ++ x) ++ (y ++ (z ++ v)) := by rw [e]; simp
        rw [sl, this]
        have h3 : List.drop (u.length + x.length) (u ++ x ++ (y ++ (z ++ v))) = y ++ (z ++ v) := by
          have : u.length + x.length = (u ++ x).length := by simp
          rw [this, List.drop_left]
        rw [h3]
        have : u.length + x.length + y.length - (u.length + x.length) = y.length := by omega
        rw [this]; simp
      have s3 : sl w (u.length + x.length + y.length) (u.length + x.length + y.length + z.length) = z := by
        have : w = (u ++ x ++ y) ++ (z ++ v) := by rw [e]; simp
        rw [sl, this]
        have h3 : List.drop (u.length + x.length + y.length) (u ++ x ++ y ++ (z ++ v)) = z ++ v := by
          have : u.length + x.length + y.length = (u ++ x ++ y).length := by simp; omega
          rw [this, List.drop_left]
        rw [h3]
        have : u.length + x.length + y.length + z.length - (u.length + x.length + y.length) = z.length := by omega
        rw [this]; simp
      refine ⟨u.length, by omega, u.length + x.length, by omega, u.length + x.length + y.length, by omega, u.length + x.length + y.length + z.length, ⟨by omega, ?_, ?_⟩, rfl, rfl⟩
      · rw [s3, s1]; exact sameSet_iff.mpr fun a => (h1 a).symm
      · rw [s2, s1]; exact subSet_iff.mpr h2
    rw [hm] at this; cases this

/-- a beginning holds all the names just if it holds the first place of each -/
theorem law_places (w : List α) (k : Nat) : (∀ a, a ∈ w.take k ↔ a ∈ w) ↔ ∀ a ∈ w, w.idxOf a < k := by
  constructor
  · intro h a ha
    have h1 := (h a).mpr ha
    have h2 : (w.take k).idxOf a < (w.take k).length := List.idxOf_lt_length_of_mem h1
    rw [List.length_take] at h2
    have h3 : w.idxOf a = (w.take k).idxOf a := by
      conv => lhs; rw [← List.take_append_drop k w]
      rw [List.idxOf_append, if_pos h1]
    omega
  · intro h a
    refine ⟨fun q => List.mem_of_mem_take q, fun q => ?_⟩
    have h1 := h a q
    have h2 := List.idxOf_lt_length_of_mem q
    have h3 : w[w.idxOf a]? = some a := by
      rw [List.getElem?_eq_getElem h2, List.getElem_idxOf]
    have h4 : (w.take k)[w.idxOf a]? = some a := by rw [List.getElem?_take_of_lt h1, h3]
    exact List.mem_of_getElem? h4
end
end Mine
end

-- W1
noncomputable section
open PySem PySem.W PyProof.Rows
namespace Mine

/-- plain data -/
inductive D where
  | none
  | bool (b : Bool)
  | int (i : Int)
  | str (s : Str)
  | bytes (b : Array UInt8)
  | list (l : List D)
  | tuple (l : List D)

abbrev Vars := Str → Option Value

/-- all that lived lives on unchanged; the frames' own blocks (Z) up to their slots -/
def Ext (Z : List Addr) (h h' : Heap) : Prop := ∀ b o, h.get? b = some o → ∃ sl, h'.get? b = some { o with slots := sl } ∧ (b ∉ Z → sl = o.slots)
theorem Ext.refl (Z : List Addr) (h : Heap) : Ext Z h h := fun _ o e => ⟨o.slots, e, fun _ => rfl⟩
theorem Ext.trans {Z : List Addr} {h h' h'' : Heap} (x : Ext Z h h') (y : Ext Z h' h'') : Ext Z h h'' := fun b o e => by
  obtain ⟨s1, e1, k1⟩ := x b o e
  obtain ⟨s2, e2, k2⟩ := y b _ e1
  exact ⟨s2, e2, fun hb => (k2 hb).trans (k1 hb)⟩
theorem Ext.keep {Z : List Addr} {h h' : Heap} (x : Ext Z h h') {b : Addr} {o : Obj} (hb : b ∉ Z) (e : h.get? b = some o) : h'.get? b = some o := by
  obtain ⟨s1, e1, k1⟩ := x b o e
  rw [e1, k1 hb]
theorem Ext.of_stays {Z : List Addr} {h h' : Heap} (x : h.StaysIn h') : Ext Z h h' := fun b o e => ⟨o.slots, x b o e, fun _ => rfl⟩
theorem Ext.push {Z : List Addr} (h : Heap) (o : Obj) : Ext Z h (h.push o) := Ext.of_stays fun _ _ e => Heap.get?_push_of_some o e
theorem Ext.live {Z : List Addr} {h h' : Heap} (x : Ext Z h h') {b : Addr} (e : ∃ o, h.get? b = some o) : ∃ o, h'.get? b = some o := by
  obtain ⟨o, e⟩ := e
  obtain ⟨s1, e1, _⟩ := x b o e
  exact ⟨_, e1⟩
theorem Ext.ns {Z : List Addr} {h h' : Heap} {a : Addr} {m : Vars} (x : Ext Z h h') (hn : h.Ns a m) : h'.Ns a m := by
  obtain ⟨o, es, ep, ho, hd, r⟩ := hn
  obtain ⟨s1, e1, _⟩ := x a o ho
  exact ⟨_, es, ep, e1, hd, r⟩
theorem Ext.cell {Z : List Addr} {h h' : Heap} {c : Addr} {v : Option Value} (x : Ext Z h h') (hc : h.IsCell c v) : h'.IsCell c v := by
  obtain ⟨o, ho, hd⟩ := hc
  obtain ⟨s1, e1, _⟩ := x c o ho
  exact ⟨_, e1, hd⟩
theorem Ext.funFrames {Z : List Addr} {h h' base : Heap} {l : List Env} (x : Ext Z h h') (hl : h.FunFrames base l) : h'.FunFrames base l :=
  hl.of_keeps fun b o e _ => by
    obtain ⟨s1, e1, _⟩ := x b o e
    exact ⟨_, e1, rfl⟩
/-- what lies outside W lives on unchanged -/
def Mut (W : List Addr) (h h' : Heap) : Prop := ∀ b o, b ∉ W → h.get? b = some o → h'.get? b = some o
theorem Mut.trans {W : List Addr} {h h' h'' : Heap} (x : Mut W h h') (y : Mut W h' h'') : Mut W h h'' := fun b o hb e => y b o hb (x b o hb e)
theorem Ext.mut {Z W : List Addr} {h h' : Heap} (x : Ext Z h h') (hz : ∀ a ∈ Z, a ∈ W) : Mut W h h' := fun b o hb e => x.keep (fun q => hb (hz b q)) e
theorem Mut.of_same {W : List Addr} {h h' : Heap} {a : Addr} (x : Heap.SameBut a h h') (ha : a ∈ W) : Mut W h h' := fun b o hb e => (x.2 b fun q => hb (q ▸ ha)).trans e
theorem Mut.plainList {W : List Addr} {h h' : Heap} {a : Addr} {vs : Array Value} (x : Mut W h h') (ha : a ∉ W) (hl : h.PlainList a vs) : h'.PlainList a vs :=
  let ⟨n, ho⟩ := hl; ⟨n, x a _ ha ho⟩
theorem Mut.isTuple {W : List Addr} {h h' : Heap} {a : Addr} {vs : Array Value} (x : Mut W h h') (ha : a ∉ W) (hl : h.IsTuple a vs) : h'.IsTuple a vs := by
  obtain ⟨o, ho, r⟩ := hl; exact ⟨o, x a o ha ho, r⟩
theorem Mut.mono {W W' : List Addr} {h h' : Heap} (x : Mut W h h') (hw : ∀ a ∈ W, a ∈ W') : Mut W' h h' := fun b o hb e => x b o (fun q => hb (hw b q)) e

mutual
/-- the heap bears d at v, outside W -/
inductive Rep (W : List Addr) (h : Heap) : Value → D → Prop
  | none : Rep W h .none .none
  | bool (b : Bool) : Rep W h (.bool b) (.bool b)
  | int (i : Int) (t : Tok) : Rep W h (.int i t) (.int i)
  | str (x : Str) (t : Tok) : Rep W h (.str x t) (.str x)
  | bytes (x : Array UInt8) (t : Tok) : Rep W h (.bytes x t) (.bytes x)
  | list {a : Addr} {vs : List Value} {ds : List D} : a ∉ W → h.PlainList a vs.toArray → Reps W h vs ds → Rep W h (.ref a) (.list ds)
  | tuple {a : Addr} {vs : List Value} {ds : List D} : a ∉ W → h.IsTuple a vs.toArray → Reps W h vs ds → Rep W h (.ref a) (.tuple ds)
inductive Reps (W : List Addr) (h : Heap) : List Value → List D → Prop
  | nil : Reps W h [] []
  | cons {v : Value} {vs : List Value} {d : D} {ds : List D} : Rep W h v d → Reps W h vs ds → Reps W h (v :: vs) (d :: ds)
end
mutual
theorem Rep.mut {W : List Addr} {h h' : Heap} (x : Mut W h h') : ∀ {v : Value} {d : D}, Rep W h v d → Rep W h' v d
  | _, _, .none => .none
  | _, _, .bool b => .bool b
  | _, _, .int i t => .int i t
  | _, _, .str i t => .str i t
  | _, _, .bytes i t => .bytes i t
  | _, _, .list ha hl r => .list ha (x.plainList ha hl) (Reps.mut x r)
  | _, _, .tuple ha hl r => .tuple ha (x.isTuple ha hl) (Reps.mut x r)
theorem Reps.mut {W : List Addr} {h h' : Heap} (x : Mut W h h') : ∀ {vs : List Value} {ds : List D}, Reps W h vs ds → Reps W h' vs ds
  | _, _, .nil => .nil
  | _, _, .cons a b => .cons (Rep.mut x a) (Reps.mut x b)
end
mutual
theorem Rep.anti {W W' : List Addr} {h : Heap} (hw : ∀ a ∈ W', a ∈ W ∨ h.get? a = none) : ∀ {v : Value} {d : D}, Rep W h v d → Rep W' h v d
  | _, _, .none => .none
  | _, _, .bool b => .bool b
  | _, _, .int i t => .int i t
  | _, _, .str i t => .str i t
  | _, _, .bytes i t => .bytes i t
  | _, _, .list ha hl r => .list (fun q => (hw _ q).elim ha fun e => by obtain ⟨o, ho⟩ := hl; rw [e] at ho; cases ho) hl (Reps.anti hw r)
  | _, _, .tuple ha hl r => .tuple (fun q => (hw _ q).elim ha fun e => by obtain ⟨o, ho, _⟩ := hl; rw [e] at ho; cases ho) hl (Reps.anti hw r)
theorem Reps.anti {W W' : List Addr} {h : Heap} (hw : ∀ a ∈ W', a ∈ W ∨ h.get? a = none) : ∀ {vs : List Value} {ds : List D}, Reps W h vs ds → Reps W' h vs ds
  | _, _, .nil => .nil
  | _, _, .cons a b => .cons (Rep.anti hw a) (Reps.anti hw b)
end
theorem Reps.length {W : List Addr} {h : Heap} {vs : List Value} {ds : List D} (r : Reps W h vs ds) : vs.length = ds.length := by
  induction vs generalizing ds with
  | nil => cases r; rfl
  | cons v vs ih => cases r with | cons _ b => simp [ih b]
theorem Reps.append {W : List Addr} {h : Heap} {vs vs' : List Value} {ds ds' : List D} (r : Reps W h vs ds) (r' : Reps W h vs' ds') : Reps W h (vs ++ vs') (ds ++ ds') := by
  induction vs generalizing ds with
  | nil => cases r; exact r'
  | cons v vs ih => cases r with | cons a b => exact .cons a (ih b)
theorem Reps.drop {W : List Addr} {h : Heap} {vs : List Value} {ds : List D} (r : Reps W h vs ds) (k : Nat) : Reps W h (vs.drop k) (ds.drop k) := by
  induction k generalizing vs ds with
  | zero => simpa using r
  | succ k ih => cases r with | nil => exact .nil | cons a b => simpa using ih b
theorem Reps.take {W : List Addr} {h : Heap} {vs : List Value} {ds : List D} (r : Reps W h vs ds) (k : Nat) : Reps W h (vs.take k) (ds.take k) := by
  induction k generalizing vs ds with
  | zero => simpa using Reps.nil
  | succ k ih => cases r with | nil => exact .nil | cons a b => simpa using .cons a (ih b)
theorem Reps.reverse {W : List Addr} {h : Heap} {vs : List Value} {ds : List D} (r : Reps W h vs ds) : Reps W h vs.reverse ds.reverse := by
  induction vs generalizing ds with
  | nil => cases r; exact .nil
  | cons v vs ih => cases r with | cons a b => rw [List.reverse_cons, List.reverse_cons]; exact (ih b).append (.cons a .nil)
theorem Reps.get {W : List Addr} {h : Heap} {vs : List Value} {ds : List D} (r : Reps W h vs ds) {i : Nat} {v : Value} (e : vs[i]? = some v) : ∃ d, ds[i]? = some d ∧ Rep W h v d := by
  induction i generalizing vs ds with
  | zero => cases r with | nil => cases e | cons a b => simp at e; subst e; exact ⟨_, rfl, a⟩
  | succ i ih => cases r with | nil => cases e | cons a b => simpa using ih b (by simpa using e)
theorem Reps.get' {W : List Addr} {h : Heap} {vs : List Value} {ds : List D} (r : Reps W h vs ds) {i : Nat} {d : D} (e : ds[i]? = some d) : ∃ v, vs[i]? = some v ∧ Rep W h v d := by
  induction i generalizing vs ds with
  | zero => cases r with | nil => cases e | cons a b => simp at e; subst e; exact ⟨_, rfl, a⟩
  | succ i ih => cases r with | nil => cases e | cons a b => simpa using ih b (by simpa using e)

/-- the frames' own blocks on the stack -/
def zone (A : Around) : List Addr := match A.frames with
  | some l => l.filterMap (·.frame)
  | none => []
theorem zone_deeper {A : Around} {env : Env} {l : List Env} {L : Addr} (h : A.frames = some l) (hf : env.frame = some L) : zone (A.deeper env) = L :: zone A := by
  simp [zone, Around.deeper, h, hf]

def R (W : List Addr) (d : D) : Heap → Value → Prop := fun h v => Rep W h v d
/-- nothing but a value: the heap is not asked -/
def V (v : Value) : Heap → Value → Prop := fun _ x => x = v

abbrev P3 := Heap → Value → Prop

/-- a tree that only lets the heap grow and hands back what P says -/
def TE {α : Type} (M : Model) (A : Around) (s : Shared) (t : Sem α) (P : Heap → α → Prop) : Prop :=
  ∀ (Q : α → Shared → Prop) (E : Value → Shared → Prop), (∀ v h' tk, Ext (zone A) s.heap h' → P h' v → Q v { s with heap := h', toks := tk }) → wpAny M A t Q E s

section
variable {α β : Type} {M : Model} {A : Around} {s : Shared}
theorem TE.mono {t : Sem α} {P P' : Heap → α → Prop} (h : TE M A s t P) (hp : ∀ h v, Ext (zone A) s.heap h → P h v → P' h v) : TE M A s t P' :=
  fun Q E k => h Q E fun v h' tk x p => k v h' tk x (hp h' v x p)
end

structure Fx (base : Heap) (W : List Addr) (n : Nat) (A : Around) (env : Env) (h : Heap) (m : Vars) : Prop where
  handled : A.handled = none
  room : A.depth + n ≤ 900
  units : A.units + 20 * n ≤ 9000
  frames : ∃ l, A.frames = some l ∧ h.FunFrames base l
  zoneW : ∀ a ∈ zone A, a ∈ W
  stays : base.StaysIn h
  fresh : ∀ a ∈ W, base.get? a = none
  live : ∀ a ∈ W, ∃ o, h.get? a = some o
  kind : env.scope.kind = .function
  glob : env.globals = mainGlobals
  blt : env.builtins = builtinsNs
  inW : env.locals ∈ W
  ns : ∃ ml, h.Ns env.locals ml ∧ ∀ x, env.kindOf x = some .local → ml x = m x
  cells : ∀ x, (env.kindOf x = some .cell ∨ env.kindOf x = some .free) → ∃ c, env.cells.lookup x = some c ∧ c ∈ W ∧ h.IsCell c (m x)
  cellsW : ∀ c ∈ env.cells.map (·.2), c ∈ W
  inj : ∀ x y c, env.cells.lookup x = some c → env.cells.lookup y = some c → x = y
  ndl : ∀ x c, env.cells.lookup x = some c → c ≠ env.locals

theorem stays_ext {base h h' : Heap} {Z : List Addr} (k : base.StaysIn h) (x : Ext Z h h') (hz : ∀ a ∈ Z, base.get? a = none) : base.StaysIn h' := fun b o e =>
  x.keep (fun q => by rw [hz b q] at e; cases e) (k b o e)

section
variable {base h h' : Heap} {W : List Addr} {n : Nat} {A : Around} {env : Env} {m : Vars}
theorem Fx.ext (F : Fx base W n A env h m) (x : Ext (zone A) h h') : Fx base W n A env h' m where
  handled := F.handled
  room := F.room
  units := F.units
  frames := let ⟨l, a, b⟩ := F.frames; ⟨l, a, x.funFrames b⟩
  zoneW := F.zoneW
  stays := stays_ext F.stays x fun a ha => F.fresh a (F.zoneW a ha)
  fresh := F.fresh
  live := fun a ha => x.live (F.live a ha)
  kind := F.kind
  glob := F.glob
  blt := F.blt
  inW := F.inW
  ns := let ⟨ml, a, b⟩ := F.ns; ⟨ml, x.ns a, b⟩
  cells := fun y hy => let ⟨c, a, b, d⟩ := F.cells y hy; ⟨c, a, b, x.cell d⟩
  cellsW := F.cellsW
  inj := F.inj
  ndl := F.ndl
theorem Fx.mut (F : Fx base W n A env h m) (x : Ext (zone A) h h') : Mut W h h' := x.mut F.zoneW
theorem Rep.ext {v : Value} {d : D} (r : Rep W h v d) (F : Fx base W n A env h m) (x : Ext (zone A) h h') : Rep W h' v d := r.mut (F.mut x)
end

/-- a plain expression, in a frame's state that has only grown since h -/
def PE (M : Model) (A : Around) (env : Env) (h : Heap) (e : Expr) (P : P3) : Prop := ∀ s : Shared, Ext (zone A) h s.heap → TE M A s (eval e env) P
def PT (M : Model) (A : Around) (env : Env) (h : Heap) (e : Expr) (b : Bool) : Prop := ∀ s : Shared, Ext (zone A) h s.heap → TE M A s (isTrue e env (eval e env)) (fun _ v => v = b)

def Stable (A : Around) (P : P3) : Prop := ∀ h h' v, Ext (zone A) h h' → P h v → P h' v
end Mine
end

-- W2
noncomputable section
open PySem PySem.W PyProof.Rows
namespace Mine

section
variable {prog : Program} {w : World} {base h : Heap} {W : List Addr} {n : Nat} {A : Around} {env : Env} {m : Vars}

/-- the plain words of names -/
def plainName (x : Str) : Bool := !(x == ("__debug__" : Str)) && !(x == ("__classdict__" : Str))

theorem PE.name {x : Str} {pos : Pos} {v : Value} {P : P3} (F : Fx base W n A env h m) (hx : m x = some v) (hP : ∀ h', Ext (zone A) h h' → P h' v)
    (hk : env.kindOf x = some .local ∨ env.kindOf x = some .cell ∨ env.kindOf x = some .free) (hd : plainName x = true) : PE (model prog w) A env h (.Name x pos) P := by
  intro s hs Q E k
  have F' := F.ext hs
  have h1 : (x == ("__debug__" : Str)) = false := by simp [plainName] at hd; simpa using hd.1
  have h2 : (x == ("__classdict__" : Str)) = false := by simp [plainName] at hd; simpa using hd.2
  have fin : Q v s := k v s.heap s.toks (Ext.refl _ _) (hP _ hs)
  refine wpAny_Name ?_ h1
  rcases hk with hk | hk | hk
  · obtain ⟨ml, hn, hm⟩ := F'.ns
    exact wpAny_loadName_local F'.kind hk hn ((hm x hk).trans hx) fin
  · obtain ⟨c, hc, _, hv⟩ := F'.cells x (.inl hk)
    rw [hx] at hv
    exact wpAny_loadName_cell F'.kind hk hc hv fin
  · obtain ⟨c, hc, _, hv⟩ := F'.cells x (.inr hk)
    rw [hx] at hv
    exact wpAny_loadName_free F'.kind hk hc hv fin h2

/-- what the text's top has laid -/
structure Glo (base : Heap) (mg mb : Vars) : Prop where
  g : base.Ns mainGlobals mg
  b : base.Ns builtinsNs mb
  lim : base.NoLimit
  free : ∀ x ∈ (["len", "range", "min", "max", "sorted", "sum", "list", "set", "dict", "isinstance", "bytes", "TypeError", "ValueError"] : List Str), mg x = none ∧ mb x = bootBuiltins x

variable {mg mb : Vars}
theorem PE.global {x : Str} {pos : Pos} {v : Value} {P : P3} (F : Fx base W n A env h m) (G : Glo base mg mb) (hx : mg x = some v) (hP : ∀ h', P h' v)
    (hk : env.kindOf x = some .globalImplicit) (hd : plainName x = true) : PE (model prog w) A env h (.Name x pos) P := by
  intro s hs Q E k
  have F' := F.ext hs
  have h1 : (x == ("__debug__" : Str)) = false := by simp [plainName] at hd; simpa using hd.1
  exact Calls.Name_function_global F'.kind hk (Calls.loadGlobal_global (by rw [F'.glob]; exact G.g.keeps F'.stays) hx (k v s.heap s.toks (Ext.refl _ _) (hP _))) h1
theorem PE.builtin {x : Str} {pos : Pos} {v : Value} {P : P3} (F : Fx base W n A env h m) (G : Glo base mg mb)
    (hx : x ∈ (["len", "range", "min", "max", "sorted", "sum", "list", "set", "dict", "isinstance", "bytes", "TypeError", "ValueError"] : List Str)) (hv : bootBuiltins x = some v) (hP : ∀ h', P h' v)
    (hk : env.kindOf x = some .globalImplicit) (hd : plainName x = true) : PE (model prog w) A env h (.Name x pos) P := by
  intro s hs Q E k
  have F' := F.ext hs
  have h1 : (x == ("__debug__" : Str)) = false := by simp [plainName] at hd; simpa using hd.1
  obtain ⟨g1, g2⟩ := G.free x hx
  exact Calls.Name_function_global F'.kind hk (Calls.loadGlobal_builtin (by rw [F'.glob]; exact G.g.keeps F'.stays) g1 (by rw [F'.blt]; exact G.b.keeps F'.stays) (g2.trans hv) (k v s.heap s.toks (Ext.refl _ _) (hP _))) h1

/-- the blocks that a store to a name writes into -/
def blocks (env : Env) : List Addr := env.locals :: env.cells.map (·.2)

abbrev upd (m : Vars) (x : Str) (v : Value) : Vars := fun y => if y = x then some v else m y

theorem mem_cells {l : List (Str × Addr)} {x : Str} {c : Addr} (e : l.lookup x = some c) : c ∈ l.map (·.2) := List.mem_map.mpr ⟨(x, c), mem_of_lookup e, rfl⟩

theorem same_stays {base h h' : Heap} {a : Addr} (k : base.StaysIn h) (x : Heap.SameBut a h h') (ha : base.get? a = none) : base.StaysIn h' := fun b o e =>
  (x.2 b fun q => by rw [q, ha] at e; cases e).trans (k b o e)

/-- the frames' blocks keep their kind when one of them is written -/
theorem funFrames_same {base h h' : Heap} {a : Addr} {o' : Obj} (x : Heap.SameBut a h h') (ho : h'.get? a = some o') (hd : ∀ vs, o'.data ≠ .fields vs) : ∀ {l : List Env}, h.FunFrames base l → h'.FunFrames base l
  | [], _ => trivial
  | env :: rest, ⟨hk, ⟨L, o, hf, hn, hL, hd'⟩, hr⟩ => by
    refine ⟨hk, ?_, funFrames_same x ho hd hr⟩
    by_cases e : L = a
    · subst e; exact ⟨L, o', hf, hn, ho, hd⟩
    · exact ⟨L, o, hf, hn, (x.2 L e).trans hL, hd'⟩

theorem Fx.store {x : Str} {v : Value} {Q : Unit → Shared → Prop} {E : Value → Shared → Prop} {s : Shared} {M : Model} (F : Fx base W n A env s.heap m) (hk : env.kindOf x = some .local ∨ env.kindOf x = some .cell)
    (h : ∀ h' tk a, Heap.SameBut a s.heap h' → a ∈ blocks env → Fx base W n A env h' (upd m x v) → Q () { s with heap := h', toks := tk }) : wpAny M A (storeName env x v) Q E s := by
  have live : ∀ {h' : Heap} {a : Addr}, Heap.SameBut a s.heap h' → (∃ o, h'.get? a = some o) → ∀ b ∈ W, ∃ o, h'.get? b = some o := fun {h' a} hs ho b hb => by
    by_cases e : b = a
    · rw [e]; exact ho
    · obtain ⟨o, q⟩ := F.live b hb; exact ⟨o, (hs.2 b e).trans q⟩
  rcases hk with hk | hk
  · obtain ⟨ml, hn, hm⟩ := F.ns
    refine wpAny_storeName_local hk hn (fun h' hn' hs' => ?_) (by rw [F.kind]; rfl)
    obtain ⟨l, hl, hfr⟩ := F.frames
    have hn'' := hn'
    obtain ⟨o', es, ep, ho', hd', _⟩ := hn''
    refine h h' _ env.locals hs' (.head _) { F with frames := ⟨l, hl, funFrames_same hs' ho' (fun vs q => by rw [hd'] at q; cases q) hfr⟩, stays := same_stays F.stays hs' (F.fresh _ F.inW), live := live hs' ⟨o', ho'⟩, ns := ⟨_, hn', fun y hy => ?_⟩, cells := fun y hy => ?_ }
    · show (if y = x then some v else ml y) = (if y = x then some v else m y)
      by_cases e : y = x
      · simp [e]
      · simp [e, hm y hy]
    · obtain ⟨c, hc, hw, hcell⟩ := F.cells y hy
      refine ⟨c, hc, hw, ?_⟩
      have e : y ≠ x := fun e => by subst e; rw [hk] at hy; rcases hy with q | q <;> cases q
      show h'.IsCell c (if y = x then some v else m y)
      rw [if_neg e]
      exact hcell.sameBut hs' (F.ndl y c hc)
  · obtain ⟨c, hc, hw, hcell⟩ := F.cells x (.inl hk)
    refine wpAny_storeName_cell F.kind hk hc hcell fun h' hc' hs' => ?_
    obtain ⟨l, hl, hfr⟩ := F.frames
    have hc'' := hc'
    obtain ⟨o', ho', hd'⟩ := hc''
    refine h h' s.toks c hs' (.tail _ (mem_cells hc)) { F with frames := ⟨l, hl, funFrames_same hs' ho' (fun vs q => by rw [hd'] at q; cases q) hfr⟩, stays := same_stays F.stays hs' (F.fresh _ hw), live := live hs' ⟨o', ho'⟩, ns := ?_, cells := fun y hy => ?_ }
    · obtain ⟨ml, hn, hm⟩ := F.ns
      refine ⟨ml, hn.sameBut hs' (Ne.symm (F.ndl x c hc)), fun y hy => ?_⟩
      have e : y ≠ x := fun e => by subst e; rw [hk] at hy; cases hy
      show ml y = (if y = x then some v else m y)
      rw [if_neg e]; exact hm y hy
    · obtain ⟨c', hc2, hw', hcell'⟩ := F.cells y hy
      refine ⟨c', hc2, hw', ?_⟩
      show h'.IsCell c' (if y = x then some v else m y)
      by_cases e : y = x
      · subst e; rw [hc] at hc2; cases hc2; simpa using hc'
      · rw [if_neg e]
        exact hcell'.sameBut hs' fun q => e (F.inj y x c (q ▸ hc2) hc)
end
end Mine
end

-- W3
noncomputable section
open PySem PySem.W PyProof.Rows
namespace Mine

section
variable {prog : Program} {w : World} {base h : Heap} {W : List Addr} {n : Nat} {A : Around} {env : Env} {m : Vars}

/-- what a call finds around it -/
structure Cx (base : Heap) (W : List Addr) (n : Nat) (A : Around) (h : Heap) : Prop where
  handled : A.handled = none
  room : A.depth + n ≤ 900
  units : A.units + 20 * n ≤ 9000
  frames : ∃ l, A.frames = some l ∧ h.FunFrames base l
  zoneW : ∀ a ∈ zone A, a ∈ W
  stays : base.StaysIn h
  fresh : ∀ a ∈ W, base.get? a = none
  live : ∀ a ∈ W, ∃ o, h.get? a = some o
theorem Fx.cx (F : Fx base W n A env h m) : Cx base W n A h := ⟨F.handled, F.room, F.units, F.frames, F.zoneW, F.stays, F.fresh, F.live⟩
theorem Cx.ext {h' : Heap} (F : Cx base W n A h) (x : Ext (zone A) h h') : Cx base W n A h' where
  handled := F.handled
  room := F.room
  units := F.units
  frames := let ⟨l, a, b⟩ := F.frames; ⟨l, a, x.funFrames b⟩
  zoneW := F.zoneW
  stays := stays_ext F.stays x fun a ha => F.fresh a (F.zoneW a ha)
  fresh := F.fresh
  live := fun a ha => x.live (F.live a ha)
theorem Cx.less {k : Nat} (F : Cx base W n A h) (hk : k ≤ n) : Cx base W k A h := { F with room := by have := F.room; omega, units := by have := F.units; omega }
theorem Fx.less {k : Nat} (F : Fx base W n A env h m) (hk : k ≤ n) : Fx base W k A env h m := { F with room := by have := F.room; omega, units := by have := F.units; omega }
theorem Cx.lt (C : Cx base W n A h) {a : Addr} (ha : a ∈ W) : a < h.objs.size := let ⟨_, e⟩ := C.live a ha; Heap.lt_size e
theorem Cx.new (C : Cx base W n A h) : h.objs.size ∉ W := fun q => Nat.lt_irrefl _ (C.lt q)
theorem lookup_or : ∀ (binds : List (Str × Value)) (kf : Str → Option NameKind) (m0 : Vars) (y : Str), (binds.map (·.1)).Nodup → kf y = some .local → bindL kf binds m0 y = (binds.lookup y).or (m0 y)
  | [], _, _, _, _, _ => by simp [bindL]
  | (a, v) :: r, kf, m0, y, hn, hy => by
    simp only [List.map_cons, List.nodup_cons] at hn
    rw [bindL, lookup_or r kf _ y hn.2 hy]
    by_cases e : y = a
    · subst e
      have : r.lookup y = none := by
        cases q : r.lookup y with
        | none => rfl
        | some v' => exact absurd (List.mem_map.mpr ⟨_, mem_of_lookup q, rfl⟩) hn.1
      simp [this, hy, List.lookup_cons]
    · have e' : (y == a) = false := by simpa using e
      by_cases ha : kf a = some .local
      · simp [ha, e, List.lookup_cons, e']
      · simp [ha, List.lookup_cons, e']
theorem lookup_orC : ∀ (binds : List (Str × Value)) (kf : Str → Option NameKind) (m0 : Vars) (y : Str), (binds.map (·.1)).Nodup → kf y ≠ some .local → bindC kf binds m0 y = (binds.lookup y).or (m0 y)
  | [], _, _, _, _, _ => by simp [bindC]
  | (a, v) :: r, kf, m0, y, hn, hy => by
    simp only [List.map_cons, List.nodup_cons] at hn
    rw [bindC, lookup_orC r kf _ y hn.2 hy]
    by_cases e : y = a
    · subst e
      have : r.lookup y = none := by
        cases q : r.lookup y with
        | none => rfl
        | some v' => exact absurd (List.mem_map.mpr ⟨_, mem_of_lookup q, rfl⟩) hn.1
      simp [this, hy, List.lookup_cons]
    · have e' : (y == a) = false := by simpa using e
      by_cases ha : kf a = some .local
      · simp [ha, List.lookup_cons, e']
      · simp [ha, e, List.lookup_cons, e']

theorem kind_mem {l : List (Str × NameKind)} {x : Str} {k : NameKind} (e : l.lookup x = some k) : (x, k) ∈ l := mem_of_lookup e

/-- the statement of what a def does: its block is walked in a frame of its own -/
theorem enter {A : Around} {s : Shared} {R : Result → Shared → Prop} {f : Addr} {o : Obj} {fd : FuncData} {body : List Stmt} {args : Args} {binds : List (Str × Value)}
    (C : Cx base W (n + 1) A s.heap) (hlim : base.NoLimit) (ho : base.get? f = some o) (hd : o.data = .func fd) (hcd : base.CodeRec fd.code fd.qualname) (hbody : fd.body = .stmts body)
    (hg : fd.globals = mainGlobals) (hb : fd.builtins = builtinsNs) (hclo : fd.closure = []) (hbind : BindsTo s fd args binds)
    (hco : fd.scope.isCoroutine = false) (hgen : fd.scope.isGenerator = false) (hk : fd.scope.kind = .function)
    (hnof : (fd.scope.names.all fun x => x.2 != .free) = true) (hnb : (binds.map (·.1)).Nodup)
    (hkb : (binds.all fun y => fd.scope.names.lookup y.1 == some .local || fd.scope.names.lookup y.1 == some .cell) = true)
    (hnd : ((cellsFrom 0 fd.scope.names []).map (·.1)).Nodup)
    (h : ∀ h₁ tk, s.heap.StaysIn h₁ → let e := callEnvC fd s.heap.objs.size f
      Fx base (e.locals :: (e.cells.map (·.2) ++ W)) n (A.deeper e) e h₁ (fun y => binds.lookup y) →
      (∀ a ∈ e.locals :: e.cells.map (·.2), s.heap.get? a = none) →
      ∀ E, wpAny (model prog w) (A.deeper e) (execs body e) (fun fl s' => R (.ok (.ret (match fl with | .ret v => v | _ => .none))) s') E { s with heap := h₁, toks := tk }) :
    codeAny (model prog w) A (.call (.ref f) args) R s := by
  have hkind := kindsX (scope := fd.scope) (binds := binds) hkb
  refine codeAny_call_function (by have := C.room; unfold recursionLimit; omega) (C.stays _ _ ho) hd hco hgen hbody (hcd.keeps C.stays) (hbind _ _ _ _ ?_)
  rw [hclo]
  refine wpAny_newFunctionEnv_cells hk (hkind _) fun env he s' x => ?_
  subst he
  have keep := x.toInCall.keep
  refine ⟨(hlim.keeps C.stays).keeps keep, codeAny_func ?_⟩
  obtain ⟨h₁, tk, rfl, _⟩ := x.done
  have hnames : (newEnv fd.scope s.heap.objs.size fd.globals (cellsFrom (s.heap.objs.size + 1) fd.scope.names []) (fd.qualname ++ ".<locals>.") (some f) fd.code none fd.builtins).kindOf = fun y => fd.scope.names.lookup y := rfl
  have above : ∀ a ∈ (callEnvC fd s.heap.objs.size f).locals :: (callEnvC fd s.heap.objs.size f).cells.map (·.2), s.heap.objs.size ≤ a := fun a ha => by
    rcases List.mem_cons.mp ha with q | q
    · exact Nat.le_of_eq q.symm
    · obtain ⟨⟨nm, c⟩, hm, rfl⟩ := List.mem_map.mp q
      exact Nat.le_of_lt (x.above nm c hm)
  have fresh : ∀ a ∈ (callEnvC fd s.heap.objs.size f).locals :: (callEnvC fd s.heap.objs.size f).cells.map (·.2), s.heap.get? a = none := fun a ha => Heap.get?_none_of_le (above a ha)
  obtain ⟨l, hl, hfr⟩ := C.frames
  have hL : (callEnvC fd s.heap.objs.size f).frame = some s.heap.objs.size := rfl
  refine h h₁ tk keep ?_ fresh _
  have hlive : ∀ a ∈ (callEnvC fd s.heap.objs.size f).locals :: (callEnvC fd s.heap.objs.size f).cells.map (·.2), ∃ o, h₁.get? a = some o := fun a ha => by
    rcases List.mem_cons.mp ha with q | q
    · obtain ⟨o', _, _, e, _⟩ := x.toInCall.ns; subst q; exact ⟨o', e⟩
    · obtain ⟨⟨nm, c⟩, hm, rfl⟩ := List.mem_map.mp q
      have := x.cell nm c (lookup_of_mem_nodup (cellsFrom_names fd.scope.names 0 (s.heap.objs.size + 1) [] [] rfl ▸ hnd) hm)
      obtain ⟨o', e, _⟩ := this
      exact ⟨o', e⟩
  have hz : zone (A.deeper (callEnvC fd s.heap.objs.size f)) = s.heap.objs.size :: zone A := zone_deeper hl hL
  constructor
  · exact C.handled
  · show A.depth + 1 + n ≤ 900; have := C.room; omega
  · show A.units + 3 + 20 * n ≤ 9000; have := C.units; omega
  · refine ⟨callEnvC fd s.heap.objs.size f :: l, by simp [Around.deeper, hl], ?_⟩
    refine Heap.FunFrames.cons (by show fd.scope.kind ≠ .module; rw [hk]; decide) hL x.toInCall.ns ?_ (hfr.of_keeps fun b o e _ => ⟨o, keep b o e, rfl⟩)
    cases q : base.get? s.heap.objs.size with
    | none => rfl
    | some o' => exact absurd (Heap.lt_size (C.stays _ _ q)) (Nat.lt_irrefl _)
  · intro a ha
    rw [hz] at ha
    rcases List.mem_cons.mp ha with q | q
    · subst q; exact .head _
    · exact .tail _ (List.mem_append_right _ (C.zoneW a q))
  · exact fun b o e => keep b o (C.stays b o e)
  · intro a ha
    have : a ∈ (callEnvC fd s.heap.objs.size f).locals :: (callEnvC fd s.heap.objs.size f).cells.map (·.2) ∨ a ∈ W := by
      rcases List.mem_cons.mp ha with q | q
      · exact .inl (q ▸ .head _)
      · rcases List.mem_append.mp q with q | q
        · exact .inl (.tail _ q)
        · exact .inr q
    rcases this with q | q
    · cases e : base.get? a with
      | none => rfl
      | some o' => have := C.stays _ _ e; rw [fresh a q] at this; cases this
    · exact C.fresh a q
  · intro a ha
    rcases List.mem_cons.mp ha with q | q
    · exact hlive a (q ▸ .head _)
    · rcases List.mem_append.mp q with q | q
      · exact hlive a (.tail _ q)
      · obtain ⟨o', e⟩ := C.live a q; exact ⟨o', keep _ _ e⟩
  · exact hk
  · exact hg
  · exact hb
  · exact .head _
  · refine ⟨_, x.toInCall.ns, fun y hy => ?_⟩
    exact (lookup_or binds _ _ y hnb hy).trans (by simp)
  · intro y hy
    have hy' : fd.scope.names.lookup y = some .cell := by
      rcases hy with q | q
      · exact q
      · have := List.all_eq_true.mp hnof _ (kind_mem q)
        simp at this
    have hs := cellsFrom_some (x := y) fd.scope.names (s.heap.objs.size + 1) [] (.inl hy')
    obtain ⟨c, hc⟩ := Option.isSome_iff_exists.mp hs
    refine ⟨c, hc, .tail _ (List.mem_append_left _ (mem_cells hc)), ?_⟩
    have := x.cell y c hc
    have e2 := lookup_orC binds (fun y => fd.scope.names.lookup y) (fun _ => none) y hnb (by show fd.scope.names.lookup y ≠ _; rw [hy']; decide)
    have e3 : bindC (fun y => fd.scope.names.lookup y) binds (fun _ => none) y = binds.lookup y := e2.trans (by simp)
    rw [← e3]; exact this
  · intro c hc
    exact .tail _ (List.mem_append_left _ hc)
  · intro y z c hy hz
    exact name_of_addr x.apart (mem_of_lookup hy) (mem_of_lookup hz)
  · intro y c hc
    exact Nat.ne_of_gt (x.above y c (mem_of_lookup hc))
end
end Mine
end

-- W4
noncomputable section
open PySem PySem.W PyProof.Rows
namespace Mine

theorem Fx.stable {base h : Heap} {W : List Addr} {n : Nat} {A : Around} {env : Env} {m : Vars} (F : Fx base W n A env h m) (d : D) : Stable A (R W d) :=
  fun _ _ _ x r => Rep.mut (x.mut F.zoneW) r
theorem Stable.val {A : Around} (v : Value) : Stable A (V v) := fun _ _ _ _ r => r

section
variable {prog : Program} {w : World} {base h : Heap} {W : List Addr} {n : Nat} {A : Around} {env : Env} {m : Vars}

theorem PE.int {i : Int} {k : Nat} {pos : Pos} : PE (model prog w) A env h (.Constant (.int i) k pos) (R W (.int i)) := fun s hs Q E k => wpAny_Constant_int (k _ _ _ (Ext.refl _ _) (Rep.int _ _))
theorem PE.str {x : Str} {k : Nat} {pos : Pos} : PE (model prog w) A env h (.Constant (.str x) k pos) (R W (.str x)) := fun s hs Q E k => wpAny_Constant_str (k _ _ _ (Ext.refl _ _) (Rep.str _ _))
theorem PE.bytes {x : List UInt8} {k : Nat} {pos : Pos} : PE (model prog w) A env h (.Constant (.bytes x) k pos) (R W (.bytes x.toArray)) := fun s hs Q E k Γ p hp => k (.bytes x.toArray s.toks) s.heap (s.toks + 1) (Ext.refl _ _) (Rep.bytes _ _)
theorem PE.boolc {b : Bool} {k : Nat} {pos : Pos} : PE (model prog w) A env h (.Constant (.bool b) k pos) (R W (.bool b)) := fun s hs Q E k => wpAny_Constant_bool (k _ _ _ (Ext.refl _ _) (Rep.bool _))

theorem PE.var {x : Str} {pos : Pos} {v : Value} {d : D} (F : Fx base W n A env h m) (hx : m x = some v) (r : Rep W h v d)
    (hk : env.kindOf x = some .local ∨ env.kindOf x = some .cell ∨ env.kindOf x = some .free) (hd : plainName x = true := by decide) : PE (model prog w) A env h (.Name x pos) (R W d) :=
  PE.name F hx (fun h' e => r.ext F e) hk hd

theorem PE.bin {l r : Expr} {op : Operator} {pos : Pos} {P1 P2 P : P3} (hl : PE (model prog w) A env h l P1) (st : Stable A P1) (hr : PE (model prog w) A env h r P2)
    (ho : ∀ (s : Shared) a b, Ext (zone A) h s.heap → P1 s.heap a → P2 s.heap b → TE (model prog w) A s (binaryOp op a b) P) : PE (model prog w) A env h (.BinOp l op r pos) P := by
  intro s hs Q E k
  refine wpAny_BinOp (hl s hs _ _ fun a h1 t1 x1 p1 => hr { s with heap := h1, toks := t1 } (hs.trans x1) _ _ fun b h2 t2 x2 p2 => ?_)
  exact ho { s with heap := h2, toks := t2 } a b ((hs.trans x1).trans x2) (st _ _ _ x2 p1) p2 Q E fun v h3 t3 x3 p3 => k v h3 t3 ((x1.trans x2).trans x3) p3
theorem PE.cmp {l r : Expr} {op : CmpOp} {pos : Pos} {P1 P2 P : P3} (hl : PE (model prog w) A env h l P1) (st : Stable A P1) (hr : PE (model prog w) A env h r P2)
    (ho : ∀ (s : Shared) a b, Ext (zone A) h s.heap → P1 s.heap a → P2 s.heap b → TE (model prog w) A s (compareOp op a b) P) (hm : behindInMarks op r = false) : PE (model prog w) A env h (.Compare l [op] [r] pos) P := by
  intro s hs Q E k
  refine wpAny_Compare1 (hl s hs _ _ fun a h1 t1 x1 p1 => hr { s with heap := h1, toks := t1 } (hs.trans x1) _ _ fun b h2 t2 x2 p2 => ?_) hm
  exact ho { s with heap := h2, toks := t2 } a b ((hs.trans x1).trans x2) (st _ _ _ x2 p1) p2 Q E fun v h3 t3 x3 p3 => k v h3 t3 ((x1.trans x2).trans x3) p3
theorem PT.cmp {l r : Expr} {op : CmpOp} {pos : Pos} {P1 P2 : P3} {b : Bool} (hl : PE (model prog w) A env h l P1) (st : Stable A P1) (hr : PE (model prog w) A env h r P2)
    (ho : ∀ (s : Shared) a b', Ext (zone A) h s.heap → P1 s.heap a → P2 s.heap b' → TE (model prog w) A s (compareOp op a b') (V (.bool b))) (hm : behindInMarks op r = false) : PT (model prog w) A env h (.Compare l [op] [r] pos) b := by
  intro s hs Q E k
  refine wpAny_isTrue_Compare1 (hl s hs _ _ fun a h1 t1 x1 p1 => hr { s with heap := h1, toks := t1 } (hs.trans x1) _ _ fun b' h2 t2 x2 p2 => ?_) hm
  refine ho { s with heap := h2, toks := t2 } a b' ((hs.trans x1).trans x2) (st _ _ _ x2 p1) p2 _ E fun v h3 t3 x3 p3 => ?_
  cases p3
  exact wpAny_truthy_bool (k b h3 t3 ((x1.trans x2).trans x3) rfl)
theorem PE.ifexp {t b o : Expr} {pos : Pos} {c : Bool} {P : P3} (ht : PT (model prog w) A env h t c) (hb : c = true → PE (model prog w) A env h b P) (ho : c = false → PE (model prog w) A env h o P) : PE (model prog w) A env h (.IfExp t b o pos) P := by
  intro s hs Q E k
  refine wpAny_IfExp (ht s hs _ _ fun c' h1 t1 x1 p1 => ?_)
  subst p1
  cases c' with
  | true => exact hb rfl { s with heap := h1, toks := t1 } (hs.trans x1) Q E fun v h2 t2 x2 p2 => k v h2 t2 (x1.trans x2) p2
  | false => exact ho rfl { s with heap := h1, toks := t1 } (hs.trans x1) Q E fun v h2 t2 x2 p2 => k v h2 t2 (x1.trans x2) p2

section
variable {W' : List Addr} {a b : Int} {s : Shared} {v v' : Value}
theorem TE.add_int (ha : R W (.int a) s.heap v) (hb : R W (.int b) s.heap v') : TE (model prog w) A s (binaryOp .Add v v') (R W (.int (a + b))) := by
  cases ha; cases hb; exact fun Q E k => PyProof.Rows.add_int (k _ _ _ (Ext.refl _ _) (Rep.int _ _))
theorem TE.sub_int (ha : R W (.int a) s.heap v) (hb : R W (.int b) s.heap v') : TE (model prog w) A s (binaryOp .Sub v v') (R W (.int (a - b))) := by
  cases ha; cases hb; exact fun Q E k => PyProof.Rows.sub_int (k _ _ _ (Ext.refl _ _) (Rep.int _ _))
theorem TE.mod_int (ha : R W (.int a) s.heap v) (hb : R W (.int b) s.heap v') (h0 : b ≠ 0) : TE (model prog w) A s (binaryOp .Mod v v') (R W (.int (a.fmod b))) := by
  cases ha; cases hb; exact fun Q E k => PyProof.Rows.mod_int' h0 (k _ _ _ (Ext.refl _ _) (Rep.int _ _))
theorem TE.sub_bool {p q : Bool} (ha : R W (.bool p) s.heap v) (hb : R W (.bool q) s.heap v') : TE (model prog w) A s (binaryOp .Sub v v') (R W (.int ((if p then 1 else 0) - (if q then 1 else 0)))) := by
  cases ha; cases hb; exact fun Q E k => PyProof.Rows.sub_bool (k _ _ _ (Ext.refl _ _) (by cases p <;> cases q <;> exact Rep.int _ _))
theorem TE.floordiv_int (ha : R W (.int a) s.heap v) (hb : R W (.int b) s.heap v') (h0 : b ≠ 0) (hp : Builtin.divisionGoesByPylong a b = false) : TE (model prog w) A s (binaryOp .FloorDiv v v') (R W (.int (a.fdiv b))) := by
  cases ha; cases hb; exact fun Q E k => PyProof.Rows.floordiv_int h0 (k _ _ _ (Ext.refl _ _) (Rep.int _ _)) (.inl hp)
theorem TE.mul_int (ha : R W (.int a) s.heap v) (hb : R W (.int b) s.heap v') (hm : IntMulOk a b) : TE (model prog w) A s (binaryOp .Mult v v') (R W (.int (a * b))) := by
  cases ha; cases hb; exact fun Q E k => PyProof.Rows.mul_int (k _ _ _ (Ext.refl _ _) (Rep.int _ _)) hm
theorem TE.eq_int (ha : R W (.int a) s.heap v) (hb : R W (.int b) s.heap v') : TE (model prog w) A s (compareOp .Eq v v') (V (.bool (decide (a = b)))) := by
  cases ha; cases hb; exact fun Q E k => PyProof.Rows.eq_int (k _ _ _ (Ext.refl _ _) (by show Value.bool _ = _; congr 1))
theorem TE.ne_int (ha : R W (.int a) s.heap v) (hb : R W (.int b) s.heap v') : TE (model prog w) A s (compareOp .NotEq v v') (V (.bool (!decide (a = b)))) := by
  cases ha; cases hb; exact fun Q E k => PyProof.Rows.ne_int (k _ _ _ (Ext.refl _ _) (by show Value.bool _ = _; congr 1))
theorem TE.gt_int (ha : R W (.int a) s.heap v) (hb : R W (.int b) s.heap v') : TE (model prog w) A s (compareOp .Gt v v') (V (.bool (decide (b < a)))) := by
  cases ha; cases hb; exact fun Q E k => PyProof.Rows.gt_int (k _ _ _ (Ext.refl _ _) rfl)
end

/-- the arguments of a call, a display -/
def AllP : List P3 → Heap → List Value → Prop
  | [], _, [] => True
  | P :: Ps, h, v :: vs => P h v ∧ AllP Ps h vs
  | _, _, _ => False
def PEs (M : Model) (A : Around) (env : Env) (h : Heap) (pos : Pos) (es : List Expr) (Ps : List P3) : Prop := ∀ s : Shared, Ext (zone A) h s.heap → TE M A s (spliced (backTo pos (starEach es env))) (AllP Ps)
theorem PEs.nil {pos : Pos} : PEs (model prog w) A env h pos [] [] := fun s hs Q E k => wpAny_items_nil (k _ s.heap s.toks (Ext.refl _ _) trivial)
theorem PEs.cons {pos : Pos} {e : Expr} {es : List Expr} {P : P3} {Ps : List P3} (he : PE (model prog w) A env h e P) (st : Stable A P) (hes : PEs (model prog w) A env h pos es Ps)
    (hs' : starEach (e :: es) env = (false, eval e env) :: starEach es env := by rfl) : PEs (model prog w) A env h pos (e :: es) (P :: Ps) := by
  intro s hs Q E k
  refine wpAny_items_cons (he s hs _ _ fun v h1 t1 x1 p1 => hes { s with heap := h1, toks := t1 } (hs.trans x1) _ _ fun vs h2 t2 x2 p2 => ?_) hs'
  exact k _ _ _ (x1.trans x2) ⟨st _ _ _ x2 p1, p2⟩

def Rs (W : List Addr) (ds : List D) : List P3 := ds.map (R W)
theorem allP_reps {W : List Addr} {h : Heap} : ∀ {vs : List Value} {ds : List D}, AllP (Rs W ds) h vs → Reps W h vs ds
  | [], [], _ => .nil
  | _ :: _, _ :: _, ⟨a, b⟩ => .cons a (allP_reps b)
  | [], _ :: _, q => q.elim
  | _ :: _, [], q => q.elim

theorem new_notin {s : Shared} (F : Fx base W n A env h m) (hs : Ext (zone A) h s.heap) : s.heap.objs.size ∉ W := (F.cx.ext hs).new
theorem Reps.push {s : Shared} {o : Obj} {vs : List Value} {ds : List D} (r : Reps W s.heap vs ds) : Reps W (s.heap.push o) vs ds := r.mut fun _ _ _ e => Heap.get?_push_of_some _ e
theorem Rep.push {s : Shared} {o : Obj} {v : Value} {d : D} (r : Rep W s.heap v d) : Rep W (s.heap.push o) v d := r.mut fun _ _ _ e => Heap.get?_push_of_some _ e
theorem Rep.newList {s : Shared} {vs : List Value} {ds : List D} (hn : s.heap.objs.size ∉ W) (r : Reps W s.heap vs ds) : Rep W (s.heap.push { cls := .type "list", data := .seq vs.toArray }) (.ref s.heap.objs.size) (.list ds) :=
  .list hn ⟨0, Heap.get?_push_size _ rfl⟩ r.push
theorem Rep.newTuple {s : Shared} {vs : List Value} {ds : List D} (hn : s.heap.objs.size ∉ W) (r : Reps W s.heap vs ds) : Rep W (s.heap.push { cls := .type "tuple", data := .seq vs.toArray }) (.ref s.heap.objs.size) (.tuple ds) :=
  .tuple hn ⟨_, Heap.get?_push_size _ rfl, rfl, 0, rfl⟩ r.push

theorem PE.list {es : List Expr} {pos : Pos} {ds : List D} (F : Fx base W n A env h m) (he : PEs (model prog w) A env h pos es (Rs W ds)) (hz : ds.length ≤ sizeLine) : PE (model prog w) A env h (.List es pos) (R W (.list ds)) := by
  intro s hs Q E k
  refine wpAny_List (he s hs _ _ fun vs h1 t1 x1 p1 => ?_)
  have r := allP_reps p1
  refine ⟨by rw [r.length]; exact hz, k _ _ _ (x1.trans (Ext.push _ _)) (Rep.newList (s := { s with heap := h1, toks := t1 }) (new_notin F (hs.trans x1)) r)⟩
theorem PE.tuple {es : List Expr} {k' : Nat} {pos : Pos} {ds : List D} (F : Fx base W n A env h m) (he : PEs (model prog w) A env h pos es (Rs W ds)) (hz : ds.length ≤ sizeLine) : PE (model prog w) A env h (.Tuple es k' pos) (R W (.tuple ds)) := by
  intro s hs Q E k
  refine wpAny_Tuple (he s hs _ _ fun vs h1 t1 x1 p1 => ?_)
  have r := allP_reps p1
  refine ⟨by rw [r.length]; exact hz, k _ _ _ (x1.trans (Ext.push _ _)) (Rep.newTuple (s := { s with heap := h1, toks := t1 }) (new_notin F (hs.trans x1)) r)⟩

/-- calls of a name -/
theorem PE.callB {x : Str} {np pos : Pos} {e : Expr} {es : List Expr} {id : String} {Ps : List P3} {P : P3} (hf : PE (model prog w) A env h (.Name x np) (V (.builtin id))) (ha : PEs (model prog w) A env h pos (e :: es) Ps)
    (ho : ∀ (s : Shared) vs, Ext (zone A) h s.heap → AllP Ps s.heap vs → TE (model prog w) A s (call (.builtin id) vs) P)
    (he : starEach (e :: es) env = (false, eval e env) :: starEach es env := by rfl) (hp : (backTo pos (starEach es env)).any (·.1) = false := by rfl) : PE (model prog w) A env h (.Call (.Name x np) (e :: es) [] pos) P := by
  intro s hs Q E k
  refine wpAny_Call_ofName (hf s hs _ _ fun f h1 t1 x1 p1 => ?_)
  cases p1
  show wpAny _ _ (callWith pos (.builtin id) [] (backTo pos (starEach (e :: es) env)) []) _ _ _
  have ha' := ha { s with heap := h1, toks := t1 } (hs.trans x1) (fun vs s₁ => wpAny (model prog w) A (call (.builtin id) ([] ++ vs)) Q E s₁) E fun vs h2 t2 x2 p2 => ho { s with heap := h2, toks := t2 } vs ((hs.trans x1).trans x2) p2 Q E fun v h3 t3 x3 p3 => k v h3 t3 ((x1.trans x2).trans x3) p3
  rw [he] at ha' ⊢
  exact Calls.callWith_builtin (by show (false || (backTo pos (starEach es env)).any (·.1)) = false; rw [hp]; rfl) (Calls.evalArgs_plain ha')
theorem PE.callT {x : Str} {np pos : Pos} {e : Expr} {es : List Expr} {id : String} {Ps : List P3} {P : P3} (hf : PE (model prog w) A env h (.Name x np) (V (.type id))) (ha : PEs (model prog w) A env h pos (e :: es) Ps)
    (ho : ∀ (s : Shared) vs, Ext (zone A) h s.heap → AllP Ps s.heap vs → TE (model prog w) A s (call (.type id) vs) P)
    (he : starEach (e :: es) env = (false, eval e env) :: starEach es env := by rfl) (hp : (backTo pos (starEach es env)).any (·.1) = false := by rfl) : PE (model prog w) A env h (.Call (.Name x np) (e :: es) [] pos) P := by
  intro s hs Q E k
  refine wpAny_Call_ofName (hf s hs _ _ fun f h1 t1 x1 p1 => ?_)
  cases p1
  show wpAny _ _ (callWith pos (.type id) [] (backTo pos (starEach (e :: es) env)) []) _ _ _
  have ha' := ha { s with heap := h1, toks := t1 } (hs.trans x1) (fun vs s₁ => wpAny (model prog w) A (call (.type id) ([] ++ vs)) Q E s₁) E fun vs h2 t2 x2 p2 => ho { s with heap := h2, toks := t2 } vs ((hs.trans x1).trans x2) p2 Q E fun v h3 t3 x3 p3 => k v h3 t3 ((x1.trans x2).trans x3) p3
  rw [he] at ha' ⊢
  exact PySem.callWith_type (by show (false || (backTo pos (starEach es env)).any (·.1)) = false; rw [hp]; rfl) (Calls.evalArgs_plain ha')
theorem PE.callF {x : Str} {np pos : Pos} {e : Expr} {es : List Expr} {f : Addr} {o : Obj} {fd : FuncData} {Ps : List P3} {P : P3} (F : Fx base W n A env h m) (hf : PE (model prog w) A env h (.Name x np) (V (.ref f))) (hfo : base.get? f = some o) (hfd : o.data = .func fd)
    (ha : PEs (model prog w) A env h pos (e :: es) Ps)
    (ho : ∀ (s : Shared) vs, Ext (zone A) h s.heap → AllP Ps s.heap vs → TE (model prog w) A s (call (.ref f) vs) P)
    (he : starEach (e :: es) env = (false, eval e env) :: starEach es env := by rfl) (hp : (backTo pos (starEach es env)).any (·.1) = false := by rfl) : PE (model prog w) A env h (.Call (.Name x np) (e :: es) [] pos) P := by
  intro s hs Q E k
  refine wpAny_Call_ofName (hf s hs _ _ fun f' h1 t1 x1 p1 => ?_)
  cases p1
  show wpAny _ _ (callWith pos (.ref f) [] (backTo pos (starEach (e :: es) env)) []) _ _ _
  have ha' := ha { s with heap := h1, toks := t1 } (hs.trans x1) (fun vs s₁ => (s₁.heap.get? f = some o ∧ o.data = .func fd) ∧ wpAny (model prog w) A (call (.ref f) ([] ++ vs)) Q E s₁) E fun vs h2 t2 x2 p2 =>
    ⟨⟨(F.ext ((hs.trans x1).trans x2)).stays _ _ hfo, hfd⟩, ho { s with heap := h2, toks := t2 } vs ((hs.trans x1).trans x2) p2 Q E fun v h3 t3 x3 p3 => k v h3 t3 ((x1.trans x2).trans x3) p3⟩
  rw [he] at ha' ⊢
  exact Calls.callWith_function (Calls.evalArgs_plain ha')

/-- a method of a built-in type, on a name -/
theorem PE.meth {o : Expr} {name : Str} {apos pos : Pos} {e : Expr} {es : List Expr} {T id : String} {P0 : P3} {Ps : List P3} {P : P3}
    (hbase : attributeBase o name env (eval o env) = eval o env)
    (hfew : ((backTo pos (starEach (e :: es) env)).all (fun x => !x.1) && (backToKw pos (keywordEach [] env)).all (fun x => x.1.isSome)
      && decide ((e :: es).length + ([] : List Keyword).length + (if ([] : List Keyword).isEmpty then 0 else 1) < 30)) = true)
    (hline : (apos.endLine == pos.line) = true)
    (pa : PlainAttrs T) (slot : Slot T name id) (hty : typeOf (.builtin id) = pure (.type "method_descriptor"))
    (h0 : PE (model prog w) A env h o P0) (st : Stable A P0) (hT : ∀ (s : Shared) v, P0 s.heap v → s.TypeIs v T ∧ (∀ a, v = .ref a → ∃ ob, s.heap.get? a = some ob ∧ ob.dict = none))
    (ha : PEs (model prog w) A env h pos (e :: es) Ps)
    (ho : ∀ (s : Shared) v vs, Ext (zone A) h s.heap → P0 s.heap v → AllP Ps s.heap vs → TE (model prog w) A s (call (.builtin id) (v :: vs)) P)
    (he : starEach (e :: es) env = (false, eval e env) :: starEach es env := by rfl) (hp : (backTo pos (starEach es env)).any (·.1) = false := by rfl) :
    PE (model prog w) A env h (.Call (.Attribute o name apos) (e :: es) [] pos) P := by
  intro s hs Q E k
  refine wpAny_Call_method hbase hfew hline pa slot hty (h0 s hs _ _ fun v h1 t1 x1 p1 => ?_)
  obtain ⟨q1, q2⟩ := hT { s with heap := h1, toks := t1 } v p1
  refine ⟨q1, q2, ?_⟩
  have ha' := ha { s with heap := h1, toks := t1 } (hs.trans x1) (fun vs s₁ => wpAny (model prog w) A (call (.builtin id) ([v] ++ vs)) Q E s₁) E fun vs h2 t2 x2 p2 => ho { s with heap := h2, toks := t2 } v vs ((hs.trans x1).trans x2) (st _ _ _ x2 p1) p2 Q E fun v' h3 t3 x3 p3 => k v' h3 t3 ((x1.trans x2).trans x3) p3
  rw [he] at ha' ⊢
  exact Calls.callWith_builtin (by show (false || (backTo pos (starEach es env)).any (·.1)) = false; rw [hp]; rfl) (Calls.evalArgs_plain ha')

/-- an item, a cut -/
theorem PE.sub {value slice : Expr} {pos : Pos} {T id : String} {P0 P1 P : P3} (hv : PE (model prog w) A env h value P0) (st : Stable A P0) (hi : PE (model prog w) A env h slice P1)
    (hl : typeLookup (.type T) "__getitem__" = pure (some (.builtin id))) (hT : ∀ (s : Shared) v, P0 s.heap v → s.TypeIs v T)
    (hops : ∀ v i, ∃ ops, subscripted slice false v i = operate ops (getItem v i))
    (ho : ∀ (s : Shared) v i, Ext (zone A) h s.heap → P0 s.heap v → P1 s.heap i → TE (model prog w) A s (getItem v i) P) : PE (model prog w) A env h (.Subscript value slice pos) P := by
  intro s hs Q E k
  refine Subscript_ (hv s hs _ _ fun v h1 t1 x1 p1 => hi { s with heap := h1, toks := t1 } (hs.trans x1) _ _ fun i h2 t2 x2 p2 => ?_)
  have p1' := st _ _ _ x2 p1
  obtain ⟨ops, hop⟩ := hops v i
  exact tail_any (hT { s with heap := h2, toks := t2 } v p1') hl (ho { s with heap := h2, toks := t2 } v i ((hs.trans x1).trans x2) p1' p2 Q E fun r h3 t3 x3 p3 => k r h3 t3 ((x1.trans x2).trans x3) p3) hop
end
end Mine
end

-- W5
noncomputable section
open PySem PySem.W PyProof.Rows PySem.SeqAt
namespace Mine

abbrev L3 := Fin 3
def nmS (k : L3) : Str := ⟨#[97 + k.val]⟩
def nmB (k : L3) : List UInt8 := [UInt8.ofNat (97 + k.val)]
theorem nmS_inj : ∀ i j : L3, nmS i = nmS j → i = j := by decide
theorem nmB_inj : ∀ i j : L3, nmB i = nmB j → i = j := by decide
/-- a name, as a text or as octets -/
def nmD (odd : Bool) (k : L3) : D := cond odd (.bytes (nmB k).toArray) (.str (nmS k))
def dW (odd : Bool) (l : List L3) : D := .list (l.map (nmD odd))

def nmKind (odd : Bool) (prog : Program) (w : World) : KeyKind prog w L3 where
  is k v := cond odd (isBytes (nmB k) v) (Value.isStrOf (nmS k) v)
  hash k := cond odd ((bytesKind prog w).hash (nmB k)) ((strKind prog w).hash (nmS k))
  inj v a b ha hb := by
    cases odd
    · exact nmS_inj _ _ ((strKind prog w).inj v _ _ ha hb)
    · exact nmB_inj _ _ ((bytesKind prog w).inj v _ _ ha hb)
  byValue k v h := by
    cases odd
    · exact (strKind prog w).byValue _ v h
    · exact (bytesKind prog w).byValue _ v h
  pyHash := fun {A E s k v Q} hv h => by
    cases odd
    · exact (strKind prog w).pyHash (k := nmS k) hv h
    · exact (bytesKind prog w).pyHash (k := nmB k) hv h
  eqBool := fun {A E s a b u v Q} hu hv h => by
    cases odd
    · refine (strKind prog w).eqBool (a := nmS a) (b := nmS b) hu hv ?_
      have : decide (nmS a = nmS b) = decide (a = b) := by by_cases e : a = b <;> simp [e]; exact fun q => e (nmS_inj _ _ q)
      rw [this]; exact h
    · refine (bytesKind prog w).eqBool (a := nmB a) (b := nmB b) hu hv ?_
      have : decide (nmB a = nmB b) = decide (a = b) := by by_cases e : a = b <;> simp [e]; exact fun q => e (nmB_inj _ _ q)
      rw [this]; exact h
  «strs» k x t v h := by
    cases odd
    · exact (strKind prog w).strs (nmS k) x t v h
    · exact (bytesKind prog w).strs (nmB k) x t v h

theorem nm_is {odd : Bool} {prog : Program} {w : World} {W : List Addr} {h : Heap} {v : Value} {k : L3} (r : Rep W h v (nmD odd k)) : (nmKind odd prog w).is k v = true := by
  cases odd
  · cases r; simp [nmKind, Value.isStrOf]
  · cases r; simp [nmKind, isBytes]
theorem nm_of_is {odd : Bool} {prog : Program} {w : World} {W : List Addr} {h : Heap} {v : Value} {k : L3} (r : (nmKind odd prog w).is k v = true) : Rep W h v (nmD odd k) := by
  cases odd
  · obtain ⟨t, rfl⟩ := Value.isStrOf_shape (show Value.isStrOf (nmS k) v = true from r); exact .str _ _
  · obtain ⟨t, rfl⟩ := isBytes_shape (show isBytes (nmB k) v = true from r); exact .bytes _ _
theorem nm_scan {odd : Bool} {W : List Addr} {h : Heap} {v : Value} {k : L3} (r : Rep W h v (nmD odd k)) : v.scannable = true := by
  cases odd <;> (cases r; rfl)
theorem nm_eqGives {odd : Bool} {W W' : List Addr} {h h' : Heap} {v v' : Value} {i j : L3} (r : Rep W h v (nmD odd i)) (r' : Rep W' h' v' (nmD odd j)) : MeetsSeq.EqGives v v' (decide (i = j)) :=
  fun prog w A E s Q q => (nmKind odd prog w).eqBool (nm_is r) (nm_is r') q
theorem nm_eqAt {odd : Bool} {W W' : List Addr} {h h' : Heap} {v v' : Value} {i j : L3} {A : Around} {s : Shared} (r : Rep W h v (nmD odd i)) (r' : Rep W' h' v' (nmD odd j)) : EqAt A s v v' (decide (i = j)) := (nm_eqGives r r').at A s

/-- a row of names -/
theorem reps_map {α : Type} {W : List Addr} {h : Heap} {f : α → D} {vs : List Value} {l : List α} (r : Reps W h vs (l.map f)) {i : Nat} {v : Value} (e : vs[i]? = some v) : ∃ a, l[i]? = some a ∧ Rep W h v (f a) := by
  obtain ⟨d, hd, hr⟩ := r.get e
  rw [List.getElem?_map] at hd
  cases q : l[i]? with
  | none => rw [q] at hd; cases hd
  | some a => rw [q] at hd; cases hd; exact ⟨a, rfl, hr⟩

theorem all_range_eq {α : Type} [DecidableEq α] {l l' : List α} (hl : l.length = l'.length) : (List.range l.length).all (fun j => decide (l[j]? = l'[j]?)) = decide (l = l') := by
  rw [Bool.eq_iff_iff]
  simp only [List.all_eq_true, List.mem_range, decide_eq_true_eq]
  constructor
  · intro h
    apply List.ext_getElem? 
    intro j
    by_cases hj : j < l.length
    · exact h j hj
    · rw [List.getElem?_eq_none (by omega), List.getElem?_eq_none (by omega)]
  · rintro rfl j _; rfl

section
variable {W : List Addr} {A : Around} {s : Shared}
/-- == of two rows whose items are compared so -/
theorem list_eqW {α : Type} [DecidableEq α] {f : α → D} {a b : Addr} {l l' : List α} (ra : Rep W s.heap (.ref a) (.list (l.map f))) (rb : Rep W s.heap (.ref b) (.list (l'.map f))) (hu : A.units < cLine)
    (he : ∀ v v' x x', x ∈ l → x' ∈ l' → Rep W s.heap v (f x) → Rep W s.heap v' (f x') → EqAt A.in1 s v v' (decide (x = x'))) : RcAt A s (.ref a) (.ref b) (decide (l = l')) ∧ RcNeAt A s (.ref a) (.ref b) (!decide (l = l')) := by
  cases ra with
  | list ha hl r =>
    cases rb with
    | list hb hl' r' =>
      rename_i vs vs'
      have e1 : vs.length = l.length := by rw [r.length]; simp
      have e2 : vs'.length = l'.length := by rw [r'.length]; simp
      by_cases hlen : l.length = l'.length
      · have hsz : vs.toArray.size = vs'.toArray.size := by simp [e1, e2, hlen]
        have hit : ∀ j (h1 : j < vs.toArray.size) (h2 : j < vs'.toArray.size), EqAt A.in1 s vs.toArray[j] vs'.toArray[j] (decide (l[j]? = l'[j]?)) := fun j h1 h2 => by
          have g1 : vs[j]? = some vs.toArray[j] := by simp at h1 ⊢
          have g2 : vs'[j]? = some vs'.toArray[j] := by simp at h2 ⊢
          obtain ⟨x, hx, rx⟩ := reps_map r g1
          obtain ⟨x', hx', rx'⟩ := reps_map r' g2
          rw [hx, hx']
          have := he _ _ x x' (List.mem_of_getElem? hx) (List.mem_of_getElem? hx') rx rx'
          simpa using this
        have key := all_range_eq hlen
        have hs : vs.toArray.size = l.length := by simp [e1]
        constructor
        · have := RcAt.lists hl.isList hl'.isList hsz hu hit
          rw [hs, key] at this; exact this
        · have := RcNeAt.lists hl.isList hl'.isList hsz hu hit
          rw [hs, key] at this; exact this
      · have hne : l ≠ l' := fun e => hlen (by rw [e])
        have hsz : (vs.toArray.size != vs'.toArray.size) = true := by simp [e1, e2, hlen]
        constructor
        · have := RcAt.lists_lengths hl.isList hl'.isList hsz hu
          simpa [hne] using this
        · have := RcNeAt.lists_lengths hl.isList hl'.isList hsz hu
          simpa [hne] using this
theorem words_eq {odd : Bool} {v v' : Value} {l l' : List L3} (ra : Rep W s.heap v (dW odd l)) (rb : Rep W s.heap v' (dW odd l')) (hu : A.units < cLine) : RcAt A s v v' (decide (l = l')) ∧ RcNeAt A s v v' (!decide (l = l')) := by
  have ea : ∃ a, v = .ref a := by cases ra; exact ⟨_, rfl⟩
  have eb : ∃ a, v' = .ref a := by cases rb; exact ⟨_, rfl⟩
  obtain ⟨a, rfl⟩ := ea
  obtain ⟨b, rfl⟩ := eb
  exact list_eqW ra rb hu fun v v' x x' _ _ r r' => nm_eqAt r r'
theorem TE.eq_words {prog : Program} {w : World} {odd : Bool} {v v' : Value} {l l' : List L3} (ra : R W (dW odd l) s.heap v) (rb : R W (dW odd l') s.heap v') (hu : A.units < cLine) : TE (model prog w) A s (compareOp .Eq v v') (V (.bool (decide (l = l')))) :=
  fun Q E k => (words_eq ra rb hu).1 prog w E Q (k _ s.heap s.toks (Ext.refl _ _) rfl)
theorem TE.ne_words {prog : Program} {w : World} {odd : Bool} {v v' : Value} {l l' : List L3} (ra : R W (dW odd l) s.heap v) (rb : R W (dW odd l') s.heap v') (hu : A.units < cLine) : TE (model prog w) A s (compareOp .NotEq v v') (V (.bool (!decide (l = l')))) :=
  fun Q E k => (words_eq ra rb hu).2 prog w E Q (k _ s.heap s.toks (Ext.refl _ _) rfl)
/-- any row compared with an empty one -/
theorem rows_nil {v v' : Value} {ds : List D} (ra : Rep W s.heap v (.list ds)) (rb : Rep W s.heap v' (.list [])) (hu : A.units < cLine) : RcAt A s v v' (decide (ds.length = 0)) ∧ RcNeAt A s v v' (!decide (ds.length = 0)) := by
  cases ra with
  | list ha hl r =>
    cases rb with
    | list hb hl' r' =>
      cases r'
      cases r with
      | nil =>
        constructor
        · have := RcAt.lists (e := fun _ => true) hl.isList hl'.isList rfl hu (fun j h1 h2 => absurd h1 (by simp))
          simpa using this
        · have := RcNeAt.lists (e := fun _ => true) hl.isList hl'.isList rfl hu (fun j h1 h2 => absurd h1 (by simp))
          simpa using this
      | cons x y =>
        constructor
        · have := RcAt.lists_lengths hl.isList hl'.isList (by simp) hu
          simpa using this
        · have := RcNeAt.lists_lengths hl.isList hl'.isList (by simp) hu
          simpa using this
theorem TE.eq_nil {prog : Program} {w : World} {v v' : Value} {ds : List D} (ra : R W (.list ds) s.heap v) (rb : R W (.list []) s.heap v') (hu : A.units < cLine) : TE (model prog w) A s (compareOp .Eq v v') (V (.bool (decide (ds.length = 0)))) :=
  fun Q E k => (rows_nil ra rb hu).1 prog w E Q (k _ s.heap s.toks (Ext.refl _ _) rfl)
theorem TE.ne_nil {prog : Program} {w : World} {v v' : Value} {ds : List D} (ra : R W (.list ds) s.heap v) (rb : R W (.list []) s.heap v') (hu : A.units < cLine) : TE (model prog w) A s (compareOp .NotEq v v') (V (.bool (!decide (ds.length = 0)))) :=
  fun Q E k => (rows_nil ra rb hu).2 prog w E Q (k _ s.heap s.toks (Ext.refl _ _) rfl)
end
end Mine
end

-- W6
noncomputable section
open PySem PySem.W PyProof.Rows PySem.SeqAt
namespace Mine

section
variable {prog : Program} {w : World} {base h : Heap} {W : List Addr} {n : Nat} {A : Around} {env : Env} {m : Vars} {s : Shared}

theorem TE.add_list {ds ds' : List D} {v v' : Value} (hn : s.heap.objs.size ∉ W) (ra : R W (.list ds) s.heap v) (rb : R W (.list ds') s.heap v') (hz : ds.length + ds'.length ≤ sizeLine) : TE (model prog w) A s (binaryOp .Add v v') (R W (.list (ds ++ ds'))) := by
  cases ra with
  | list ha hl r =>
    cases rb with
    | list hb hl' r' =>
      rename_i vs vs'
      intro Q E k
      obtain ⟨n1, e1⟩ := hl
      obtain ⟨n2, e2⟩ := hl'
      refine P.add_list e1 e2 ?_ (by simp [r.length, r'.length]; exact hz)
      refine k _ _ s.toks (Ext.push _ _) ?_
      have := Rep.newList hn (r.append r')
      simpa [R] using this

theorem TE.getItem {ds : List D} {d : D} {v i : Value} {j : Int} (ra : R W (.list ds) s.heap v) (ri : R W (.int j) s.heap i) (h0 : 0 ≤ j) (h1 : j < 2 ^ 63) (hd : ds[j.toNat]? = some d) : TE (model prog w) A s (PySem.getItem v i) (R W d) := by
  cases ri
  cases ra with
  | list ha hl r =>
    intro Q E k
    obtain ⟨x, hx, rx⟩ := r.get' hd
    exact wpAny_getItem_list hl.isList h0 h1 (by simpa using hx) (k _ s.heap s.toks (Ext.refl _ _) rx)
theorem TE.getLast {ds : List D} {d : D} {v i : Value} (ra : R W (.list ds) s.heap v) (ri : R W (.int (-1)) s.heap i) (hd : ds.getLast? = some d) : TE (model prog w) A s (PySem.getItem v i) (R W d) := by
  cases ri
  cases ra with
  | list ha hl r =>
    rename_i vs
    intro Q E k
    have hne : ds ≠ [] := by intro e; subst e; cases hd
    have hlen : vs.length = ds.length := r.length
    have hpos : 0 < ds.length := by cases ds with
      | nil => exact absurd rfl hne
      | cons _ _ => simp
    have hd' : ds[ds.length - 1]? = some d := by rw [← hd, List.getLast?_eq_getElem?]
    obtain ⟨x, hx, rx⟩ := r.get' hd'
    refine wpAny_getItem_list_neg hl.isList (by decide) (by simp; omega) (by decide) ?_ (k _ s.heap s.toks (Ext.refl _ _) rx)
    have : (-1 + ((vs.toArray.size : Nat) : Int)).toNat = ds.length - 1 := by simp [hlen]; omega
    rw [this]; simpa using hx

/-- a cut's object -/
def Sl (lo hi st : Option Int) : P3 := fun h v => ∃ a vl vu vs, v = .ref a ∧ h.IsSliceOf a vl vu vs ∧ IsPart vl lo ∧ IsPart vu hi ∧ IsPart vs st
/-- a part of a cut -/
def Part (M : Model) (A : Around) (env : Env) (h : Heap) (e : Option Expr) (k : Option Int) : Prop := ∀ s : Shared, Ext (zone A) h s.heap → TE M A s (evalPart e env) (fun _ v => IsPart v k)
theorem Part.none : Part (model prog w) A env h none none := fun s hs Q E k => wpAny_pure (k _ s.heap s.toks (Ext.refl _ _) IsPart.none)
theorem Part.some {e : Expr} {i : Int} (he : PE (model prog w) A env h e (R W (.int i))) : Part (model prog w) A env h (some e) (some i) := fun s hs Q E k => he s hs Q E fun v h' tk x p => k v h' tk x (by cases p; exact IsPart.int _ _)
theorem PE.slice {l u st : Option Expr} {p : Pos} {lo hi step : Option Int} (hl : Part (model prog w) A env h l lo) (hu : Part (model prog w) A env h u hi) (hs' : Part (model prog w) A env h st step) : PE (model prog w) A env h (.Slice l u st p) (Sl lo hi step) := by
  intro s hs Q E k
  refine wpAny_Slice (hl s hs _ _ fun a h1 t1 x1 p1 => hu { s with heap := h1, toks := t1 } (hs.trans x1) _ _ fun b h2 t2 x2 p2 => hs' { s with heap := h2, toks := t2 } ((hs.trans x1).trans x2) _ _ fun c h3 t3 x3 p3 => ?_)
  exact k _ _ t3 (((x1.trans x2).trans x3).trans (Ext.push _ _)) ⟨_, a, b, c, rfl, Heap.IsSliceOf.new _ _ _ _, p1, p2, p3⟩

theorem TE.cut {ds ds' : List D} {v i : Value} {lo hi st : Option Int} (hn : s.heap.objs.size ∉ W) (ra : R W (.list ds) s.heap v) (ri : Sl lo hi st s.heap i) (h0 : st ≠ some 0)
    (hp : ∀ vs : List Value, vs.length = ds.length → ∃ vs', slicePick vs.toArray lo hi st = List.toArray vs' ∧ (Reps W s.heap vs ds → Reps W s.heap vs' ds')) (hz : ds.length ≤ sizeLine) : TE (model prog w) A s (PySem.getItem v i) (R W (.list ds')) := by
  obtain ⟨a, vl, vu, vs₁, rfl, hsl, p1, p2, p3⟩ := ri
  cases ra with
  | list ha hl r =>
    rename_i l vs
    intro Q E k
    obtain ⟨vs', e, hr⟩ := hp vs r.length
    refine wpAny_getItem_list_slice hl.isList hsl p1 p2 p3 h0 ?_ (by simp [r.length]; exact hz)
    rw [e]
    exact k _ _ s.toks (Ext.push _ _) (Rep.newList hn (hr r))
/-- xs[a:b] -/
theorem TE.cut_run {ds : List D} {v i : Value} {a b : Nat} (hn : s.heap.objs.size ∉ W) (ra : R W (.list ds) s.heap v) (ri : Sl (some a) (some b) none s.heap i) (hz : ds.length ≤ sizeLine) : TE (model prog w) A s (PySem.getItem v i) (R W (.list ((ds.drop a).take (b - a)))) := by
  refine TE.cut hn ra ri (by decide) (fun vs hl => ?_) hz
  by_cases hb : b ≤ vs.length
  · by_cases hab : a ≤ b
    · exact ⟨_, slicePick_run vs.toArray a b (by simpa using hb) hab, fun r => (r.drop a).take (b - a)⟩
    · refine ⟨[], ?_, fun r => ?_⟩
      · rw [slicePick_plain]; simp [clipAt_nat]; omega
      · have : b - a = 0 := by omega
        rw [this]; simpa using Reps.nil
  · refine ⟨(vs.drop a).take (b - a), ?_, fun r => (r.drop a).take (b - a)⟩
    rw [slicePick_plain]
    simp only [Option.elim_some, clipAt_nat, List.size_toArray]
    have e1 : min b vs.length = vs.length := by omega
    rw [e1]
    by_cases ha : a ≤ vs.length
    · have e2 : min a vs.length = a := by omega
      rw [e2]
      congr 1
      rw [List.take_of_length_le (by simp), List.take_of_length_le (by simp; omega)]
    · have e2 : min a vs.length = vs.length := by omega
      rw [e2, List.drop_of_length_le (by simp), List.drop_of_length_le (by omega)]
      simp
theorem TE.cut_from {ds : List D} {v i : Value} {a : Nat} (hn : s.heap.objs.size ∉ W) (ra : R W (.list ds) s.heap v) (ri : Sl (some a) none none s.heap i) (hz : ds.length ≤ sizeLine) : TE (model prog w) A s (PySem.getItem v i) (R W (.list (ds.drop a))) :=
  TE.cut hn ra ri (by decide) (fun vs hl => ⟨_, slicePick_from' vs.toArray a, fun r => r.drop a⟩) hz
theorem TE.cut_upto {ds : List D} {v i : Value} {b : Nat} (hn : s.heap.objs.size ∉ W) (ra : R W (.list ds) s.heap v) (ri : Sl none (some b) none s.heap i) (hz : ds.length ≤ sizeLine) : TE (model prog w) A s (PySem.getItem v i) (R W (.list (ds.take b))) :=
  TE.cut hn ra ri (by decide) (fun vs hl => ⟨_, slicePick_upto' vs.toArray b, fun r => r.take b⟩) hz
theorem TE.cut_back {ds : List D} {v i : Value} (hn : s.heap.objs.size ∉ W) (ra : R W (.list ds) s.heap v) (ri : Sl none none (some (-1)) s.heap i) (hz : ds.length ≤ sizeLine) : TE (model prog w) A s (PySem.getItem v i) (R W (.list ds.reverse)) :=
  TE.cut hn ra ri (by decide) (fun vs hl => ⟨_, krv_pick vs.toArray, fun r => r.reverse⟩) hz

theorem R.typeList {ds : List D} {v : Value} (ra : R W (.list ds) s.heap v) : s.TypeIs v "list" := by
  cases ra with
  | list ha hl r => exact hl.isList.typeIs
theorem R.noDict {ds : List D} {v : Value} (ra : R W (.list ds) s.heap v) : ∀ a, v = .ref a → ∃ ob, s.heap.get? a = some ob ∧ ob.dict = none := by
  cases ra with
  | list ha hl r => intro a e; cases e; obtain ⟨n1, e1⟩ := hl; exact ⟨_, e1, rfl⟩

theorem TE.len {ds : List D} {v : Value} (ra : R W (.list ds) s.heap v) (hz : ds.length ≤ sizeLine) : TE (model prog w) A s (call (.builtin "len") [v]) (R W (.int ds.length)) := by
  cases ra with
  | list ha hl r =>
    rename_i vs
    intro Q E k
    have hs : (vs.toArray.size : Int) = ds.length := by simp [r.length]
    refine Calls.call_len_list hl.isList (by rw [hs]; have : sizeLine = 16777216 := by decide
                                             omega) ?_
    rw [hs]
    exact k _ _ _ (Ext.refl _ _) (Rep.int _ _)

theorem TE.min2 {a b : Int} {v v' : Value} (hh : A.handled = none) (ra : R W (.int a) s.heap v) (rb : R W (.int b) s.heap v') : TE (model prog w) A s (call (.builtin "min") [v, v']) (R W (.int (min a b))) := by
  cases ra; cases rb
  intro Q E k
  refine min_two_ints hh fun h' tk hk => k _ h' tk (Ext.of_stays hk) ?_
  by_cases h : b < a
  · rw [if_pos h]; have : min a b = b := by omega
    rw [this]; exact .int _ _
  · rw [if_neg h]; have : min a b = a := by omega
    rw [this]; exact .int _ _

/-- the place of a name in a row -/
theorem TE.index {odd : Bool} {l : List L3} {x : L3} {v v' : Value} (ra : R W (dW odd l) s.heap v) (rb : R W (nmD odd x) s.heap v') (hx : x ∈ l) (hz : l.length ≤ sizeLine) : TE (model prog w) A s (call (.builtin "list.index") [v, v']) (R W (.int (l.idxOf x))) := by
  cases ra with
  | list ha hl r =>
    rename_i a vs
    intro Q E k
    obtain ⟨n1, e1⟩ := hl
    have hlen : vs.length = l.length := by rw [r.length]; simp
    have hj : l.idxOf x < l.length := List.idxOf_lt_length_of_mem hx
    let ef : Value → Bool := fun y => (nmKind odd prog w).is x y
    have hit : ∀ j (h1 : j < vs.toArray.size), ef vs.toArray[j] = decide (l[j]? = some x) ∧ MeetsSeq.EqGives vs.toArray[j] v' (ef vs.toArray[j]) := fun j h1 => by
      have g1 : vs[j]? = some vs.toArray[j] := by simp at h1 ⊢
      obtain ⟨y, hy, ry⟩ := reps_map r g1
      have q : ef vs.toArray[j] = decide (y = x) := by
        show (nmKind odd prog w).is x _ = _
        rw [KeyKind.is_eq_decide (nm_is ry)]
        by_cases e : x = y <;> simp [e, eq_comm]
      refine ⟨by rw [q, hy]; simp, ?_⟩
      rw [q]
      exact nm_eqGives ry rb
    have hsmall : ((l.idxOf x : Nat) : Int) < 2 ^ 63 - 1 := by
      have : sizeLine = 16777216 := by decide
      omega
    have M1 := MeetsSeq.list_index a vs.toArray n1 v' ef (fun y hy => by
      obtain ⟨j, hj', rfl⟩ := Array.mem_iff_getElem.mp hy
      exact (hit j hj').2) (l.idxOf x) (by simp [hlen]; exact hj) hsmall (by rw [(hit _ _).1]; simp [List.getElem?_eq_getElem hj, List.getElem_idxOf]) (fun m' hm hlt => by
      rw [(hit m' hm).1]
      simp only [decide_eq_false_iff_not]
      intro e
      have hm2 : m' < l.length := by omega
      have e2 : l[m'] = x := by rw [List.getElem?_eq_getElem hm2] at e; exact Option.some.inj e
      have := List.not_of_lt_findIdx (p := fun y => y == x) (xs := l) (i := m') hlt
      simp [e2] at this)
    have hT : s.TypeIs (.ref a) "list" := ⟨_, e1, rfl⟩
    exact call_meets F.slot_list_index hT F.entry_list_index (F.args_list_index_2 _ _) M1 ⟨e1, k _ _ _ (Ext.refl _ _) (Rep.int _ _)⟩
end
end Mine
end

-- W7
noncomputable section
open PySem PySem.W PyProof.Rows PySem.SeqAt
namespace Mine

/-- what is no record, outside T, lives on unchanged -/
def MutD (T : List Addr) (h h' : Heap) : Prop := ∀ b o, b ∉ T → h.get? b = some o → (∀ vs, o.data ≠ .fields vs) → h'.get? b = some o
theorem Mut.toD {T : List Addr} {h h' : Heap} (x : Mut T h h') : MutD T h h' := fun b o hb e _ => x b o hb e
theorem MutD.refl (T : List Addr) (h : Heap) : MutD T h h := fun _ _ _ e _ => e
theorem MutD.trans {W : List Addr} {h h' h'' : Heap} (x : MutD W h h') (y : MutD W h' h'') : MutD W h h'' := fun b o hb e hd => y b o hb (x b o hb e hd) hd
theorem MutD.mono {W W' : List Addr} {h h' : Heap} (x : MutD W h h') (hw : ∀ a ∈ W, a ∈ W') : MutD W' h h' := fun b o hb e hd => x b o (fun q => hb (hw b q)) e hd
theorem MutD.plainList {W : List Addr} {h h' : Heap} {a : Addr} {vs : Array Value} (x : MutD W h h') (ha : a ∉ W) (hl : h.PlainList a vs) : h'.PlainList a vs :=
  let ⟨n, ho⟩ := hl; ⟨n, x a _ ha ho fun vs q => by cases q⟩
theorem MutD.isTuple {W : List Addr} {h h' : Heap} {a : Addr} {vs : Array Value} (x : MutD W h h') (ha : a ∉ W) (hl : h.IsTuple a vs) : h'.IsTuple a vs := by
  obtain ⟨o, ho, hc, n, hd⟩ := hl; exact ⟨o, x a o ha ho (fun vs q => by rw [hd] at q; cases q), hc, n, hd⟩
mutual
theorem Rep.mutD {W : List Addr} {h h' : Heap} (x : MutD W h h') : ∀ {v : Value} {d : D}, Rep W h v d → Rep W h' v d
  | _, _, .none => .none
  | _, _, .bool b => .bool b
  | _, _, .int i t => .int i t
  | _, _, .str i t => .str i t
  | _, _, .bytes i t => .bytes i t
  | _, _, .list ha hl r => .list ha (x.plainList ha hl) (Reps.mutD x r)
  | _, _, .tuple ha hl r => .tuple ha (x.isTuple ha hl) (Reps.mutD x r)
theorem Reps.mutD {W : List Addr} {h h' : Heap} (x : MutD W h h') : ∀ {vs : List Value} {ds : List D}, Reps W h vs ds → Reps W h' vs ds
  | _, _, .nil => .nil
  | _, _, .cons a b => .cons (Rep.mutD x a) (Reps.mutD x b)
end

def rangeD (a : Int) (k : Nat) : List D := (List.range k).map fun i => .int (a + (i : Nat))
theorem rangeD_get {a : Int} {k i : Nat} {d : D} (h : (rangeD a k)[i]? = some d) : i < k ∧ d = .int (a + (i : Nat)) := by
  simp only [rangeD, List.getElem?_map] at h
  by_cases hi : i < k
  · rw [List.getElem?_range hi] at h; cases h; exact ⟨hi, rfl⟩
  · rw [List.getElem?_eq_none (by simpa using hi)] at h; cases h
theorem rangeD_length (a : Int) (k : Nat) : (rangeD a k).length = k := by simp [rangeD]

/-- a row, or a range by ones: what it yields -/
def Itb (W : List Addr) (ds : List D) : P3 := fun h v => R W (.list ds) h v ∨ ∃ r a b t u q, v = .ref r ∧ IsRange h r a b 1 t u q ∧ Builtin.Range.small a b 1 = true ∧ ds = rangeD a (b - a).toNat

section
variable {prog : Program} {w : World} {base h : Heap} {W : List Addr} {n : Nat} {A : Around} {env : Env} {m : Vars} {s : Shared} {E : Value → Shared → Prop}

theorem TE.range1 {b : Int} {v : Value} (ra : R W (.int b) s.heap v) (hb : -(2 ^ 62) ≤ b) (hb' : b < 2 ^ 62) : TE (model prog w) A s (call (.type "range") [v]) (Itb W (rangeD 0 b.toNat)) := by
  cases ra
  intro Q E k
  refine call_range_1 (k _ _ _ (Ext.push _ _) (.inr ⟨_, 0, b, _, _, _, rfl, IsRange.new _ _ _ _ _ _ _, small_one (by decide) (by decide) hb hb', by simp⟩))
theorem TE.range2 {a b : Int} {v v' : Value} (ra : R W (.int a) s.heap v) (rb : R W (.int b) s.heap v') (ha : -(2 ^ 62) ≤ a) (ha' : a < 2 ^ 62) (hb : -(2 ^ 62) ≤ b) (hb' : b < 2 ^ 62) : TE (model prog w) A s (call (.type "range") [v, v']) (Itb W (rangeD a (b - a).toNat)) := by
  cases ra; cases rb
  intro Q E k
  exact call_range_2 (k _ _ _ (Ext.push _ _) (.inr ⟨_, a, b, _, _, _, rfl, IsRange.new _ _ _ _ _ _ _, small_one ha ha' hb hb', rfl⟩))

/-- an iterator over what Itb says -/
structure Run (prog : Program) (w : World) (A : Around) (W : List Addr) (ds : List D) (I : Addr) (fp : List Addr) (P : Nat → Value → Prop) (St : Nat → Heap → Prop) (h : Heap) : Prop where
  walks : Walks prog w A I fp [I] ds.length P St
  at0 : St 0 h
  off : ∀ b ∈ fp, b = I ∨ b ∉ W
  item : ∀ i v, i < ds.length → P i v → ∃ d, ds[i]? = some d ∧ Rep W h v d
  live : ∃ o, h.get? I = some o
  fpl : ∀ b ∈ fp, ∃ o, h.get? b = some o
  fields : ∀ i h', St i h' → ∃ o vs, h'.get? I = some o ∧ o.data = .fields vs

theorem iter_run {ds : List D} {v : Value} {Q : Value → Shared → Prop} (hh : A.handled = none) (hi : Itb W ds s.heap v)
    (k : ∀ I fp P St h' tk, Run prog w A W ds I fp P St h' → s.heap.get? I = none → Ext (zone A) s.heap h' → Q (.ref I) { s with heap := h', toks := tk }) : wpAny (model prog w) A (pyIter v) Q E s := by
  have hno : s.heap.get? s.heap.objs.size = none := Heap.get?_none_of_le (Nat.le_refl _)
  rcases hi with hi | ⟨r, a, b, t, u, q, rfl, hr, hsm, rfl⟩
  · cases hi with
    | list ha hl r =>
      rename_i l vs
      have hne : l ≠ s.heap.objs.size := by obtain ⟨_, e⟩ := hl; exact Nat.ne_of_lt (Heap.lt_size e)
      refine wpAny_pyIter_list hl.isList (k s.heap.objs.size [s.heap.objs.size, l] (fun i v => vs.toArray[i]? = some v) (fun i h => h.IsListIter s.heap.objs.size l i ∧ h.IsList l vs.toArray) _ s.toks ⟨?_, ⟨⟨_, Heap.get?_push_size _ rfl, rfl, rfl⟩, hl.isList.push _⟩, ?_, ?_, ⟨_, Heap.get?_push_size _ rfl⟩, ?_, ?_⟩ hno (Ext.push _ _))
      · have W1 := Walks.list (prog := prog) (w := w) (A := A) hh s.heap.objs.size l hne vs.toArray
        have e : vs.toArray.size = ds.length := by simp [r.length]
        rw [e] at W1; exact W1
      · intro b hb
        rcases List.mem_cons.mp hb with q | q
        · exact .inl q
        · rcases List.mem_cons.mp q with q | q
          · exact .inr (q ▸ ha)
          · cases q
      · intro i v hi hv
        have : vs[i]? = some v := by simpa using hv
        obtain ⟨d, hd, rd⟩ := r.get this
        exact ⟨d, hd, rd.push⟩
      · intro b hb
        rcases List.mem_cons.mp hb with q | q
        · exact ⟨_, q ▸ Heap.get?_push_size _ rfl⟩
        · rcases List.mem_cons.mp q with q | q
          · obtain ⟨_, e⟩ := hl; exact ⟨_, q ▸ Heap.get?_push_of_some _ e⟩
          · cases q
      · rintro i h' ⟨⟨o, e, _, hd⟩, _⟩
        exact ⟨o, _, e, hd⟩
  · refine wpAny_pyIter_range hr hsm (k s.heap.objs.size [s.heap.objs.size] (fun i v => ∃ t, v = .int (a + (i : Int)) t) (fun i h => IsRangeIter h s.heap.objs.size (a + (i : Nat) * 1) (((b - a).toNat : Int) - (i : Nat)) 1) _ s.toks ⟨?_, ?_, ?_, ?_, ?_, ?_, ?_⟩ hno (Ext.push _ _))
    · rw [rangeD_length]; exact LCg.range_walks hh a (b - a).toNat
    · show (s.heap.push _).get? s.heap.objs.size = some _
      rw [Heap.get?_push_size _ rfl]
      have e : Builtin.Range.rangeSize a b 1 = ((b - a).toNat : Int) - ((0 : Nat) : Int) := by rw [rangeSize_one]; split <;> omega
      have e' : a + ((0 : Nat) : Int) * 1 = a := by simp
      rw [e, e']
    · intro b hb
      rcases List.mem_cons.mp hb with q | q
      · exact .inl q
      · cases q
    · rintro i v hi ⟨t, rfl⟩
      rw [rangeD_length] at hi
      exact ⟨.int (a + (i : Nat)), by simp [rangeD, hi], .int _ _⟩
    · exact ⟨_, Heap.get?_push_size _ rfl⟩
    · intro b hb
      rcases List.mem_cons.mp hb with q | q
      · exact ⟨_, q ▸ Heap.get?_push_size _ rfl⟩
      · cases q
    · intro i h' hst
      exact ⟨_, _, hst, rfl⟩
end
end Mine
end

-- W8
noncomputable section
open PySem PySem.W PyProof.Rows PySem.SeqAt
namespace Mine
section
variable {prog : Program} {w : World} {base h : Heap} {W : List Addr} {n : Nat} {A : Around} {env : Env} {m : Vars} {s : Shared} {E : Value → Shared → Prop} {Q : Flow → Shared → Prop}

theorem Fx.blocksW (F : Fx base W n A env h m) : ∀ a ∈ blocks env, a ∈ W := fun a ha => by
  rcases List.mem_cons.mp ha with q | q
  · exact q ▸ F.inW
  · exact F.cellsW a q

/-- what a step of a block may touch: its names' blocks and the frames' slots -/
def touch (A : Around) (env : Env) : List Addr := blocks env ++ zone A
theorem ex_assign {x : Str} {px pos : Pos} {e : Expr} {rest : List Stmt} {P : P3} (F : Fx base W n A env s.heap m) (he : PE (model prog w) A env s.heap e P) (hk : env.kindOf x = some .local ∨ env.kindOf x = some .cell)
    (k : ∀ v h1 h2 tk, Ext (zone A) s.heap h1 → P h1 v → Mut (blocks env) h1 h2 → Mut (touch A env) s.heap h2 → Fx base W n A env h2 (upd m x v) → wpAny (model prog w) A (execs rest env) Q E { s with heap := h2, toks := tk })
    (hs : swapsWith e (some (.Name x px)) pos.line env = pure false := by rfl) : wpAny (model prog w) A (execs (.Assign [.Name x px] e pos :: rest) env) Q E s := by
  refine wpAny_execs_cons (wpAny_Assign_Name (he s (Ext.refl _ _) _ _ fun v h1 t1 x1 p1 => ?_) hs)
  refine Fx.store (s := { s with heap := h1, toks := t1 }) (F.ext x1) hk fun h2 tk a hs2 ha F2 => ?_
  have m1 : Mut (blocks env) h1 h2 := Mut.of_same hs2 ha
  exact k v h1 h2 tk x1 p1 m1 (((x1.mut (W := touch A env) fun a q => List.mem_append_right _ q)).trans (m1.mono fun a q => List.mem_append_left _ q)) F2
theorem ex_return {e : Expr} {pos : Pos} {rest : List Stmt} {P : P3} (he : PE (model prog w) A env s.heap e P)
    (k : ∀ v h1 tk, Ext (zone A) s.heap h1 → P h1 v → Q (.ret v) { s with heap := h1, toks := tk }) : wpAny (model prog w) A (execs (.Return (some e) pos :: rest) env) Q E s :=
  wpAny_execs_cons (wpAny_Return_some (he s (Ext.refl _ _) _ _ fun v h1 t1 x1 p1 => k v h1 t1 x1 p1))
theorem ex_if {t : Expr} {b o rest : List Stmt} {pos : Pos} {c : Bool} (ht : PT (model prog w) A env s.heap t c)
    (k : ∀ h1 tk, Ext (zone A) s.heap h1 → wpAny (model prog w) A (execs (if c then b else o) env) (fun f s' => match f with | .next => wpAny (model prog w) A (execs rest env) Q E s' | f => Q f s') E { s with heap := h1, toks := tk }) :
    wpAny (model prog w) A (execs (.If t b o pos :: rest) env) Q E s := by
  refine wpAny_execs_cons (wpAny_If (ht s (Ext.refl _ _) _ _ fun c' h1 t1 x1 p1 => ?_))
  subst p1
  have := k h1 t1 x1
  cases c'
  · exact wpAny_mono this (fun f s' h => by cases f <;> exact h) fun _ _ e => e
  · exact wpAny_mono this (fun f s' h => by cases f <;> exact h) fun _ _ e => e
/-- an if whose body leaves, not taken -/
theorem ex_if_not {t : Expr} {b rest : List Stmt} {pos : Pos} (ht : PT (model prog w) A env s.heap t false)
    (k : ∀ h1 tk, Ext (zone A) s.heap h1 → wpAny (model prog w) A (execs rest env) Q E { s with heap := h1, toks := tk }) : wpAny (model prog w) A (execs (.If t b [] pos :: rest) env) Q E s :=
  ex_if ht fun h1 tk x1 => wpAny_execs_nil (k h1 tk x1)
theorem ex_if_ret {t e : Expr} {rest : List Stmt} {pos p2 : Pos} {P : P3} (ht : PT (model prog w) A env s.heap t true) (he : PE (model prog w) A env s.heap e P)
    (k : ∀ v h1 tk, Ext (zone A) s.heap h1 → P h1 v → Q (.ret v) { s with heap := h1, toks := tk }) : wpAny (model prog w) A (execs (.If t [.Return (some e) p2] [] pos :: rest) env) Q E s :=
  ex_if ht fun h1 tk x1 => wpAny_execs_cons (wpAny_Return_some (he { s with heap := h1, toks := tk } x1 _ _ fun v h2 t2 x2 p2 => k v h2 t2 (x1.trans x2) p2))
theorem ex_done (h : Q .next s) : wpAny (model prog w) A (execs [] env) Q E s := wpAny_execs_nil h
end
end Mine
end

-- W9
noncomputable section
open PySem PySem.W PyProof.Rows PySem.SeqAt
namespace Mine
section
variable {prog : Program} {w : World} {base h : Heap} {W : List Addr} {n : Nat} {A : Around} {env cenv : Env} {m : Vars} {s : Shared} {E : Value → Shared → Prop}

theorem Fx.storeL {x : Str} {v : Value} {Q : Unit → Shared → Prop} {M : Model} (F : Fx base W n A env s.heap m) (hk : env.kindOf x = some .local)
    (h : ∀ h' tk, Heap.SameBut env.locals s.heap h' → Fx base W n A env h' (upd m x v) → Q () { s with heap := h', toks := tk }) : wpAny M A (storeName env x v) Q E s := by
  obtain ⟨ml, hn, hm⟩ := F.ns
  have live : ∀ {h' : Heap} {a : Addr}, Heap.SameBut a s.heap h' → (∃ o, h'.get? a = some o) → ∀ b ∈ W, ∃ o, h'.get? b = some o := fun {h' a} hs ho b hb => by
    by_cases e : b = a
    · rw [e]; exact ho
    · obtain ⟨o, q⟩ := F.live b hb; exact ⟨o, (hs.2 b e).trans q⟩
  refine wpAny_storeName_local hk hn (fun h' hn' hs' => ?_) (by rw [F.kind]; rfl)
  obtain ⟨l, hl, hfr⟩ := F.frames
  have hn'' := hn'
  obtain ⟨o', es, ep, ho', hd', _⟩ := hn''
  refine h h' _ hs' { F with frames := ⟨l, hl, funFrames_same hs' ho' (fun vs q => by rw [hd'] at q; cases q) hfr⟩, stays := same_stays F.stays hs' (F.fresh _ F.inW), live := live hs' ⟨o', ho'⟩, ns := ⟨_, hn', fun y hy => ?_⟩, cells := fun y hy => ?_ }
  · show (if y = x then some v else ml y) = (if y = x then some v else m y)
    by_cases e : y = x
    · simp [e]
    · simp [e, hm y hy]
  · obtain ⟨c, hc, hw, hcell⟩ := F.cells y hy
    refine ⟨c, hc, hw, ?_⟩
    have e : y ≠ x := fun e => by subst e; rw [hk] at hy; rcases hy with q | q <;> cases q
    show h'.IsCell c (if y = x then some v else m y)
    rw [if_neg e]
    exact hcell.sameBut hs' (F.ndl y c hc)

/-- a frame's facts where only blocks outside W have changed -/
theorem Fx.keeps {h' h'' : Heap} {m' : Vars} (F' : Fx base W n A env h' m') (kp : ∀ b ∈ W, ∀ o, h'.get? b = some o → h''.get? b = some o) (st : base.StaysIn h'') : Fx base W n A env h'' m' := by
  obtain ⟨l, hl, hfr⟩ := F'.frames
  refine { F' with frames := ⟨l, hl, ?_⟩, stays := st, live := fun a ha => let ⟨o, e⟩ := F'.live a ha; ⟨o, kp a ha o e⟩, ns := ?_, cells := fun y hy => ?_ }
  · have hz : ∀ env' ∈ l, ∀ a, env'.frame = some a → a ∈ W := fun env' he a ha => F'.zoneW a (by simp only [zone, hl]; exact List.mem_filterMap.mpr ⟨env', he, ha⟩)
    clear hl
    induction l with
    | nil => trivial
    | cons e' r ih =>
      obtain ⟨k1, ⟨L, o, hf, hn, hL, hd⟩, hr⟩ := hfr
      exact ⟨k1, ⟨L, o, hf, hn, kp L (hz e' (.head _) L hf) o hL, hd⟩, ih hr fun env' he => hz env' (.tail _ he)⟩
  · obtain ⟨ml, hn, hm⟩ := F'.ns
    exact ⟨ml, hn.at' fun o e => kp _ F'.inW o e, hm⟩
  · obtain ⟨c, hc, hw, hcell⟩ := F'.cells y hy
    obtain ⟨o, e, hd⟩ := hcell
    exact ⟨c, hc, hw, o, kp c hw o e, hd⟩

/-- the row that a comprehension fills -/
def AccL (W : List Addr) (h : Heap) (a : Addr) (ds : List D) : Prop := ∃ vs : List Value, h.PlainList a vs.toArray ∧ Reps W h vs ds
theorem AccL.mutD {T : List Addr} {h h' : Heap} {b : Addr} {ds : List D} (a : AccL W h b ds) (x : MutD T h h') (hT : ∀ a ∈ T, a ∈ W) (hD : b ∉ T) : AccL W h' b ds :=
  let ⟨vs, p, r⟩ := a; ⟨vs, x.plainList hD p, r.mutD (x.mono hT)⟩

/-- a comprehension's turn -/
def turnT (x : Str) (px : Pos) (iter : Expr) (ifs : List Expr) (it : Value) (cenv : Env) (inner : Sem PySem.Fin) (self : Code) : Sem PySem.Fin := do
  standAt iter.pos
  match ← pyNext it with
  | none => pure (.done .next)
  | some v =>
    letOwnedTupleGo (.Name x px) it v
    assign (.Name x px) cenv v
    let mut ok := true
    for c in ifs do
      if ok then ok ← isTrue c cenv (eval c cenv)
    if ok then inner else again self

/-- a test of a comprehension -/
def Tests (M : Model) (A : Around) (cenv : Env) (h : Heap) (ifs : List Expr) (b : Bool) : Prop := match ifs with
  | [] => b = true
  | [c] => PT M A cenv h c b
  | _ => False

/-- what a comprehension writes into -/
def ctouch (A : Around) (cenv : Env) (D : Addr) : List Addr := cenv.locals :: D :: zone A

def LoopPost (R' : Result → Shared → Prop) (self : Code) (I : Nat → Shared → Prop) (k : Nat) : PySem.Fin → Shared → Prop
  | .done f, s' => R' (.ok f) s'
  | .again c', s' => c' = self ∧ ∃ m, m < k ∧ I m s'

/-- as Ext, but for what T names -/
def ExtB (Z T : List Addr) (h h' : Heap) : Prop := ∀ b o, b ∉ T → h.get? b = some o → ∃ sl, h'.get? b = some { o with slots := sl } ∧ (b ∉ Z → sl = o.slots)
theorem ExtB.refl (Z T : List Addr) (h : Heap) : ExtB Z T h h := fun _ o _ e => ⟨o.slots, e, fun _ => rfl⟩
theorem ExtB.trans {Z T : List Addr} {h h' h'' : Heap} (x : ExtB Z T h h') (y : ExtB Z T h' h'') : ExtB Z T h h'' := fun b o hb e => by
  obtain ⟨s1, e1, k1⟩ := x b o hb e
  obtain ⟨s2, e2, k2⟩ := y b _ hb e1
  exact ⟨s2, e2, fun hz => (k2 hz).trans (k1 hz)⟩
theorem ExtB.mono {Z T T' : List Addr} {h h' : Heap} (x : ExtB Z T h h') (ht : ∀ a ∈ T, a ∈ T') : ExtB Z T' h h' := fun b o hb e => x b o (fun q => hb (ht b q)) e
theorem Ext.toB {Z T : List Addr} {h h' : Heap} (x : Ext Z h h') : ExtB Z T h h' := fun b o _ e => x b o e
theorem ExtB.of_keep {Z T : List Addr} {h h' : Heap} (x : ∀ b o, b ∉ T → h.get? b = some o → h'.get? b = some o) : ExtB Z T h h' := fun b o hb e => ⟨o.slots, x b o hb e, fun _ => rfl⟩
theorem ExtB.keep {Z T : List Addr} {h h' : Heap} (x : ExtB Z T h h') {b : Addr} {o : Obj} (hb : b ∉ T) (hz : b ∉ Z) (e : h.get? b = some o) : h'.get? b = some o := by
  obtain ⟨s1, e1, k1⟩ := x b o hb e
  rw [e1, k1 hz]

theorem comp_loop {e : Expr} {δ : Nat} {x : Str} {px : Pos} {iter : Expr} {ifs : List Expr} {inner : Sem PySem.Fin} {I D : Addr} {fp : List Addr} {P : Nat → Value → Prop} {St : Nat → Heap → Prop} {ds : List Mine.D} {R' : Result → Shared → Prop}
    (test : Nat → Bool) (outs : Nat → List Mine.D) (J : Vars → Prop) (out₀ : List Mine.D)
    (hden : compTurn e δ (.ref I) (.ref D) cenv = turnT x px iter ifs (.ref I) cenv inner (.compLoop e δ (.ref I) (.ref D) cenv))
    (hfr : (Code.compLoop e δ (.ref I) (.ref D) cenv).isFrame = false) (hun : A.under (.compLoop e δ (.ref I) (.ref D) cenv) = A)
    (F : Fx base W n A cenv s.heap m) (hJ0 : J m) (hJ : ∀ m v, J m → J (upd m x v)) (hx : cenv.kindOf x = some .local) (hDW : D ∈ W) (hDC : D ≠ cenv.locals) (hDz : D ∉ zone A)
    (run : Run prog w A W ds I fp P St s.heap) (hIW : I ∉ W) (hIb : base.get? I = none) (acc : AccL W s.heap D out₀)
    (htest : ∀ i d v h' m', ds[i]? = some d → Fx base W n A cenv h' (upd m' x v) → J m' → Rep W h' v d → MutD W s.heap h' → Tests (model prog w) A cenv h' ifs (test i))
    (hinner : ∀ i d v h' tk m' out, ds[i]? = some d → Fx base W n A cenv h' (upd m' x v) → J m' → Rep W h' v d → MutD W s.heap h' → test i = true → AccL W h' D out → out.length ≤ out₀.length + ((List.range i).flatMap (fun j => if test j then outs j else [])).length →
      ∀ Q E, (∀ h'' tk'' m'', Fx base W n A cenv h'' m'' → J m'' → AccL W h'' D (out ++ outs i) → ExtB (zone A) [cenv.locals, D] h' h'' → wpAny (model prog w) A (again (.compLoop e δ (.ref I) (.ref D) cenv)) Q E { s with heap := h'', toks := tk'' }) → wpAny (model prog w) A inner Q E { s with heap := h', toks := tk })
    (kend : ∀ h' tk m', Fx base W n A cenv h' m' → J m' → AccL W h' D (out₀ ++ (List.range ds.length).flatMap (fun j => if test j then outs j else [])) →
      ExtB (zone A) [cenv.locals, D, I] s.heap h' → R' (.ok .next) { s with heap := h', toks := tk }) :
    codeAny (model prog w) A (.compLoop e δ (.ref I) (.ref D) cenv) R' s := by
  have hTW : ∀ a ∈ ctouch A cenv D, a ∈ W := fun a ha => by
    rcases List.mem_cons.mp ha with q | q
    · exact q ▸ F.inW
    · rcases List.mem_cons.mp q with q | q
      · exact q ▸ hDW
      · exact F.zoneW a q
  have hIT : I ∉ ctouch A cenv D := fun q => hIW (hTW I q)
  have fxI : ∀ {h' h'' : Heap} {m' : Vars}, Fx base W n A cenv h' m' → (∀ b o, b ∉ [I] → h'.get? b = some o → h''.get? b = some o) → Fx base W n A cenv h'' m' := fun {h' h'' m'} F' hk' =>
    F'.keeps (fun b hb o e => hk' b o (by simp; rintro rfl; exact hIW hb) e) fun b o e => hk' b o (by simp; rintro rfl; rw [hIb] at e; cases e) (F'.stays b o e)
  let J0 : Nat → Shared → Prop := fun k s' => ∃ h' tk m' i, s' = { s with heap := h', toks := tk } ∧ k = ds.length + 1 - i ∧ i ≤ ds.length ∧ St i h' ∧ Fx base W n A cenv h' m' ∧ J m' ∧
    AccL W h' D (out₀ ++ (List.range i).flatMap (fun j => if test j then outs j else [])) ∧ ExtB (zone A) [cenv.locals, D, I] s.heap h' ∧ MutD W s.heap h'
  refine codeAny_loop rfl J0 ?_ (ds.length + 1) ⟨s.heap, s.toks, m, 0, rfl, rfl, Nat.zero_le _, run.at0, F, hJ0, by simpa using acc, ExtB.refl _ _ _, MutD.refl _ _⟩
  rintro k s' ⟨h', tk, m', i, rfl, rfl, hile, hst, F', J', acc', kp', rp'⟩
  rw [hun]
  show wpAny _ A (denote table (.compLoop e δ (.ref I) (.ref D) cenv)) _ _ _
  unfold denote
  dsimp only
  rw [hfr]
  simp only [Bool.false_eq_true, if_false]
  refine wpAny_mono (Q := LoopPost R' (.compLoop e δ (.ref I) (.ref D) cenv) J0 (ds.length + 1 - i)) (E := fun e s' => R' (.error e) s') ?_ (fun fin s' hf => by cases fin <;> exact hf) fun _ _ e => e
  refine wpAny_noted ?_
  rw [hden]
  unfold turnT
  refine wpAny_bind (wpAny_standAt (wpAny_bind ?_))
  obtain ⟨oI, vsI, eI, dI⟩ := run.fields i h' hst
  by_cases hlt : i < ds.length
  · refine run.walks.item i _ _ _ hlt hst fun v h2 t2 hP hst2 hk2 => ?_
    obtain ⟨d, hd, rd⟩ := run.item i v hlt hP
    have F2 := fxI F' hk2
    refine wpAny_bind (wpAny_of_eq (a := ()) rfl ?_)
    refine wpAny_bind (wpAny_assign_Name (Fx.storeL (s := { s with heap := h2, toks := t2 }) F2 hx fun h3 t3 hs3 F3 => ?_))
    have md : MutD [cenv.locals] h' h3 := fun b o hb e hdd => by
      have hbI : b ≠ I := fun q => by subst q; rw [eI] at e; cases e; exact hdd _ dI
      exact (hs3.2 b (by simpa using hb)).trans (hk2 b o (by simpa using hbI) e)
    have mdW : MutD W h' h3 := md.mono fun a q => by simp at q; exact q ▸ F'.inW
    have md0 : MutD W s.heap h3 := rp'.trans mdW
    have rd3 : Rep W h3 v d := Rep.mutD md0 rd
    have acc3 : AccL W h3 D (out₀ ++ (List.range i).flatMap (fun j => if test j then outs j else [])) := acc'.mutD md (fun a q => by simp at q; exact q ▸ F'.inW) (by simpa using hDC)
    have kp3 : ExtB (zone A) [cenv.locals, D, I] s.heap h3 := kp'.trans (ExtB.of_keep fun b o hb e =>
      (hs3.2 b fun q => hb (q ▸ .head _)).trans (hk2 b o (fun q => hb (by simp at q; simp [q])) e))
    have hI3 : ∀ o, h2.get? I = some o → h3.get? I = some o := fun o e => (hs3.2 I fun q => hIT (q ▸ .head _)).trans e
    have step : ∀ {h4 : Heap} {t4 : Nat} {m4 : Vars} {out : List Mine.D}, Fx base W n A cenv h4 m4 → J m4 → AccL W h4 D out → out = out₀ ++ (List.range (i + 1)).flatMap (fun j => if test j then outs j else []) → ExtB (zone A) [cenv.locals, D] h3 h4 →
        ∃ k, k < ds.length + 1 - i ∧ J0 k { s with heap := h4, toks := t4 } := by
      intro h4 t4 m4 out F4 J4 acc4 ho ex4
      have mu4 : Mut (ctouch A cenv D) h3 h4 := fun b o hb e => ex4.keep (fun q => hb (by rcases List.mem_cons.mp q with q | q; exact q ▸ .head _; rcases List.mem_cons.mp q with q | q; exact q ▸ .tail _ (.head _); cases q)) (fun q => hb (.tail _ (.tail _ q))) e
      refine ⟨ds.length + 1 - (i + 1), by omega, h4, t4, m4, i + 1, rfl, rfl, hlt, ?_, F4, J4, ho ▸ acc4, kp3.trans (ex4.mono fun a q => by simp at q ⊢; rcases q with q | q <;> simp [q]), md0.trans (mu4.mono hTW).toD⟩
      refine run.walks.frame _ _ _ hst2 fun b hb o e => ?_
      rcases run.off b hb with q | q
      · subst q; exact mu4 b o hIT (hI3 o e)
      · exact mu4 b o (fun z => q (hTW b z)) ((hs3.2 b fun z => q (z ▸ F'.inW)).trans e)
    have ht := htest i d v h3 m' hd F3 J' rd3 md0
    have snoc : (List.range (i + 1)).flatMap (fun j => if test j then outs j else []) = (List.range i).flatMap (fun j => if test j then outs j else []) ++ (if test i then outs i else []) := by
      rw [List.range_succ, List.flatMap_append]; simp
    have fin : ∀ (h4 : Heap) (t4 : Nat), Ext (zone A) h3 h4 → wpAny (model prog w) A (if test i then inner else again (.compLoop e δ (.ref I) (.ref D) cenv))
        (LoopPost R' (.compLoop e δ (.ref I) (.ref D) cenv) J0 (ds.length + 1 - i))
        (notedBy (model prog w) A cenv fun e s' => R' (.error e) s') { s with heap := h4, toks := t4 } := by
      intro h4 t4 x4
      have mu : ExtB (zone A) [cenv.locals, D] h3 h4 := x4.toB
      have acc4 : AccL W h4 D (out₀ ++ (List.range i).flatMap (fun j => if test j then outs j else [])) := let ⟨vs, p, r⟩ := acc3; ⟨vs, p.at fun o e => x4.keep hDz e, r.mut (x4.mut F.zoneW)⟩
      cases htv : test i with
      | false =>
        rw [if_neg (by decide)]
        refine wpAny_pure ⟨rfl, ?_⟩
        exact step (F3.ext x4) (hJ _ _ J') acc4 (by rw [snoc, htv]; simp) mu
      | true =>
        rw [if_pos rfl]
        refine hinner i d v h4 t4 m' _ hd (F3.ext x4) J' (rd3.ext F3 x4) (md0.trans (x4.mut F.zoneW).toD) htv acc4 (by simp) _ _ fun h5' t5 m5 F5 J5 acc5 mu5 => ?_
        exact wpAny_pure ⟨rfl, step F5 J5 acc5 (by rw [snoc, htv]; simp) (mu.trans mu5)⟩
    match ifs, ht with
    | [], ht =>
      refine wpAny_bind (wpAny_tests_nil ?_)
      have := fin h3 t3 (Ext.refl _ _)
      rw [show test i = true from ht] at this
      exact this
    | [c], ht =>
      refine wpAny_bind (wpAny_tests_one (ht { s with heap := h3, toks := t3 } (Ext.refl _ _) _ _ fun b h4 t4 x4 hb => ?_))
      subst hb
      exact fin h4 t4 x4
  · have hi' : i = ds.length := by omega
    subst hi'
    refine run.walks.done _ _ _ hst fun h2 t2 hk2 => wpAny_pure ?_
    have md : MutD [] h' h2 := fun b o _ e hdd => hk2 b o (fun q => by simp at q; subst q; rw [eI] at e; cases e; exact hdd _ dI) e
    exact kend h2 t2 m' (fxI F' hk2) J' (acc'.mutD md (fun a q => nomatch q) (fun q => nomatch q)) (kp'.trans (ExtB.of_keep fun b o hb e => hk2 b o (fun q => hb (by simp at q; simp [q])) e))
end
end Mine
end

-- W10
noncomputable section
open PySem PySem.W PyProof.Rows PySem.SeqAt
namespace Mine
section
variable {prog : Program} {w : World} {base h : Heap} {W : List Addr} {n : Nat} {A : Around} {env cenv : Env} {m : Vars} {s : Shared} {E : Value → Shared → Prop}

/-- one of the call's own objects, no block of names, is written -/
theorem Fx.wrote {h' : Heap} {a : Addr} (F : Fx base W n A env h m) (hs : Heap.SameBut a h h') (ha : a ∈ W) (hb : a ∉ blocks env) (hz : a ∉ zone A) (hl : ∃ o, h'.get? a = some o) : Fx base W n A env h' m := by
  have kp : ∀ b, b ≠ a → ∀ o, h.get? b = some o → h'.get? b = some o := fun b hb o e => (hs.2 b hb).trans e
  obtain ⟨l, hfl, hfr⟩ := F.frames
  refine { F with frames := ⟨l, hfl, ?_⟩, stays := same_stays F.stays hs (F.fresh _ ha), live := fun b hb => ?_, ns := ?_, cells := fun y hy => ?_ }
  · have hz' : ∀ env' ∈ l, ∀ b, env'.frame = some b → b ≠ a := fun env' he b hb q => hz (by simp only [zone, hfl]; exact List.mem_filterMap.mpr ⟨env', he, q ▸ hb⟩)
    clear hfl
    induction l with
    | nil => trivial
    | cons e' r ih =>
      obtain ⟨k1, ⟨L, o, hf, hn, hL, hd⟩, hr⟩ := hfr
      exact ⟨k1, ⟨L, o, hf, hn, kp L (hz' e' (.head _) L hf) o hL, hd⟩, ih hr fun env' he => hz' env' (.tail _ he)⟩
  · by_cases e : b = a
    · rw [e]; exact hl
    · obtain ⟨o, q⟩ := F.live b hb; exact ⟨o, kp b e o q⟩
  · obtain ⟨ml, hn, hm⟩ := F.ns
    exact ⟨ml, hn.sameBut hs (fun q => hb (q ▸ .head _)), hm⟩
  · obtain ⟨c, hc, hw, hcell⟩ := F.cells y hy
    exact ⟨c, hc, hw, hcell.sameBut hs fun q => hb (q ▸ .tail _ (mem_cells hc))⟩

def emitT (elt : Expr) (acc : Value) (cenv : Env) : Sem Unit := do let _ ← call (.builtin "list.append") [acc, ← eval elt cenv]
/-- one more item of a comprehension -/
theorem emit_ok {elt : Expr} {D : Addr} {out : List Mine.D} {d : Mine.D} (F : Fx base W n A cenv s.heap m) (he : PE (model prog w) A cenv s.heap elt (R W d)) (acc : AccL W s.heap D out) (hz : out.length ≤ sizeLine) (hDW : D ∈ W) (hDb : D ∉ blocks cenv) (hDz : D ∉ zone A) :
    ∀ (t : Sem PySem.Fin) Q E, (∀ h'' tk'', Fx base W n A cenv h'' m → AccL W h'' D (out ++ [d]) → ExtB (zone A) [cenv.locals, D] s.heap h'' → wpAny (model prog w) A t Q E { s with heap := h'', toks := tk'' }) →
    wpAny (model prog w) A (emitT elt (.ref D) cenv >>= fun _ => t) Q E s := by
  intro t Q E k
  unfold emitT
  refine wpAny_bind (wpAny_bind (he s (Ext.refl _ _) _ _ fun v h1 t1 x1 r1 => ?_))
  obtain ⟨vs, p, r⟩ := acc
  have p1 : h1.PlainList D vs.toArray := p.at fun o e => x1.keep hDz e
  have F1 := F.ext x1
  refine wpAny_bind (wpAny_list_append_plain (s := { s with heap := h1, toks := t1 }) p1 (fun h2 p2 hs2 => wpAny_pure ?_) (by simp [r.length]; exact hz))
  have mu : Mut W h1 h2 := Mut.of_same hs2 hDW
  refine k h2 t1 (F1.wrote hs2 hDW hDb hDz (by obtain ⟨_, e⟩ := p2; exact ⟨_, e⟩)) ⟨vs ++ [v], ?_, ((r.mut (x1.mut F.zoneW)).mut mu).append (.cons (Rep.mut mu r1) .nil)⟩ ?_
  · simpa using p2
  · exact x1.toB.trans (ExtB.of_keep fun b o hb e => (hs2.2 b fun q => hb (q ▸ .tail _ (.head _))).trans e)

/-- what a comprehension's block finds -/
structure CompOK (scope : Scope) (cl : List (Str × Addr)) (env : Env) : Prop where
  kind : scope.kind = .function
  noCell : ∀ x ∈ scope.names, x.2 ≠ .cell
  names : ∀ x ∈ scope.names, x.2 = .local → scope.names.lookup x.1 = some .local
  clo : closureFor scope env = pure cl
  sub : ∀ p ∈ cl, env.cells.lookup p.1 = some p.2
  cover : ∀ p ∈ (relabel scope env).names, p.2 = .cell ∨ p.2 = .free → (cl.lookup p.1).isSome = true
  apart : ∀ p ∈ (relabel scope env).names, p.2 = .cell ∨ p.2 = .free → scope.names.lookup p.1 ≠ some .local
  outer : ∀ p ∈ (relabel scope env).names, p.2 = .cell ∨ p.2 = .free → env.kindOf p.1 = some .cell ∨ env.kindOf p.1 = some .free

/-- the same, by looking -/
def compB (scope : Scope) (cl : List (Str × Addr)) (env : Env) : Bool :=
  scope.names.all (fun x => x.2 != .cell) && scope.names.all (fun x => x.2 != .local || scope.names.lookup x.1 == some .local) &&
  (relabel scope env).names.all (fun p => !(p.2 == .cell || p.2 == .free) || ((cl.lookup p.1).isSome && scope.names.lookup p.1 != some .local && (env.kindOf p.1 == some .cell || env.kindOf p.1 == some .free)))
theorem CompOK.of {scope : Scope} {cl : List (Str × Addr)} (hk : scope.kind = .function) (hc : closureFor scope env = pure cl) (hs : ∀ p ∈ cl, env.cells.lookup p.1 = some p.2) (hb : compB scope cl env = true) : CompOK scope cl env := by
  simp only [compB, Bool.and_eq_true, List.all_eq_true] at hb
  obtain ⟨⟨h1, h2⟩, h3⟩ := hb
  refine ⟨hk, fun x hx => by simpa using h1 x hx, fun x hx hl => ?_, hc, hs, fun p hp hk => ?_, fun p hp hk => ?_, fun p hp hk => ?_⟩
  · have := h2 x hx; rw [hl] at this; simpa using this
  all_goals
    have := h3 p hp
    have e : (p.2 == NameKind.cell || p.2 == NameKind.free) = true := by rcases hk with q | q <;> simp [q]
    rw [e] at this
    simp only [Bool.not_true, Bool.false_or, Bool.and_eq_true] at this
  · exact this.1.1
  · have h := this.1.2; simpa using h
  · have h := this.2; simpa using h

def cvars (scope : Scope) (m : Vars) : Vars := fun y => if scope.names.lookup y = some .local then none else m y

theorem relabel_local {scope : Scope} {y : Str} (h : (relabel scope env).names.lookup y = some .local) : scope.names.lookup y = some .local := by
  simp only [relabel] at h
  revert h
  generalize scope.names = l
  induction l with
  | nil => intro h; simp at h
  | cons p r ih =>
    obtain ⟨nm, k⟩ := p
    intro h
    simp only [List.map_cons] at h
    by_cases e : (y == nm) = true
    · by_cases c : (k == .free && env.scope.kind == .function && env.kindOf nm == some .cell) = true
      · rw [if_pos c, List.lookup_cons, e] at h; cases h
      · rw [if_neg c, List.lookup_cons, e] at h
        rw [List.lookup_cons, e]; exact h
    · have e' : (y == nm) = false := by simpa using e
      have h' : List.lookup y (r.map fun x => if (x.2 == NameKind.free && env.scope.kind == .function && env.kindOf x.1 == some .cell) = true then (x.1, NameKind.cell) else (x.1, x.2)) = some .local := by
        by_cases c : (k == .free && env.scope.kind == .function && env.kindOf nm == some .cell) = true
        · rw [if_pos c, List.lookup_cons, e'] at h; exact h
        · rw [if_neg c, List.lookup_cons, e'] at h; exact h
      rw [List.lookup_cons, e']; exact ih h'

theorem Fx.comp {scope : Scope} {cl : List (Str × Addr)} {C : Addr} (F : Fx base W n A env h m) (ok : CompOK scope cl env) (hns : h.Ns C (fun _ => none)) (hC : C ∉ W) (hb : base.get? C = none) :
    Fx base (C :: W) n A (compEnvC scope cl C env) h (cvars scope m) where
  handled := F.handled
  room := F.room
  units := F.units
  frames := F.frames
  zoneW := fun a ha => .tail _ (F.zoneW a ha)
  stays := F.stays
  fresh := fun a ha => by
    rcases List.mem_cons.mp ha with q | q
    · exact q ▸ hb
    · exact F.fresh a q
  live := fun a ha => by
    rcases List.mem_cons.mp ha with q | q
    · obtain ⟨o, _, _, e, _⟩ := hns; exact ⟨o, q ▸ e⟩
    · exact F.live a q
  kind := ok.kind
  glob := F.glob
  blt := F.blt
  inW := .head _
  ns := ⟨_, hns, fun y hy => by
    have : scope.names.lookup y = some .local := relabel_local hy
    simp [cvars, this]⟩
  cells := fun y hy => by
    have hmem : ∃ k, (k = NameKind.cell ∨ k = .free) ∧ (y, k) ∈ (relabel scope env).names := by
      rcases hy with q | q
      · exact ⟨_, .inl rfl, mem_of_lookup q⟩
      · exact ⟨_, .inr rfl, mem_of_lookup q⟩
    obtain ⟨k, hk, hm⟩ := hmem
    obtain ⟨c, hc⟩ := Option.isSome_iff_exists.mp (ok.cover _ hm hk)
    have hc' : env.cells.lookup y = some c := ok.sub _ (mem_of_lookup hc)
    refine ⟨c, hc, .tail _ (F.cellsW c (mem_cells hc')), ?_⟩
    have hnl := ok.apart _ hm hk
    have : cvars scope m y = m y := by simp only [cvars]; rw [if_neg hnl]
    rw [this]
    have hkind : env.kindOf y = some .cell ∨ env.kindOf y = some .free := ok.outer _ hm hk
    obtain ⟨c2, hc2, _, hcell⟩ := F.cells y hkind
    rw [hc'] at hc2; cases hc2
    exact hcell
  cellsW := fun c hc => by
    obtain ⟨p, hp, rfl⟩ := List.mem_map.mp hc
    exact .tail _ (F.cellsW _ (mem_cells (ok.sub p hp)))
  inj := fun x y c hx hy => F.inj x y c (ok.sub _ (mem_of_lookup hx)) (ok.sub _ (mem_of_lookup hy))
  ndl := fun x c hx q => by
    have := F.cellsW _ (mem_cells (ok.sub _ (mem_of_lookup hx)))
    have q' : c = C := q
    exact hC (q' ▸ this)
end
end Mine
end

-- W11
noncomputable section
open PySem PySem.W PyProof.Rows PySem.SeqAt
namespace Mine
section
variable {prog : Program} {w : World} {base h : Heap} {W : List Addr} {n : Nat} {A : Around} {env cenv : Env} {m : Vars} {s : Shared} {E : Value → Shared → Prop}

theorem Run.into {ds : List D} {I : Addr} {fp : List Addr} {P : Nat → Value → Prop} {St : Nat → Heap → Prop} {h h' : Heap} {W' : List Addr} (r : Run prog w A W ds I fp P St h) (k : h.StaysIn h')
    (hw : ∀ a ∈ W', a ∈ W ∨ h.get? a = none) : Run prog w A W' ds I fp P St h' where
  walks := r.walks
  at0 := r.walks.frame _ _ _ r.at0 fun b _ o e => k b o e
  off := fun b hb => by
    rcases r.off b hb with q | q
    · exact .inl q
    · refine .inr fun z => ?_
      rcases hw b z with z | z
      · exact q z
      · obtain ⟨o, e⟩ := r.fpl b hb; rw [z] at e; cases e
  item := fun i v hi hP => by
    obtain ⟨d, hd, rd⟩ := r.item i v hi hP
    exact ⟨d, hd, Rep.mut (fun b o _ e => k b o e) (Rep.anti hw rd)⟩
  live := let ⟨o, e⟩ := r.live; ⟨o, k _ _ e⟩
  fpl := fun b hb => let ⟨o, e⟩ := r.fpl b hb; ⟨o, k _ _ e⟩
  fields := r.fields

/-- what the loop of a comprehension is to do -/
def CompBody (prog : Program) (w : World) (base : Heap) (W : List Addr) (n : Nat) (A : Around) (env : Env) (m : Vars) (s : Shared) (e : Expr) (scope : Scope) (cl : List (Str × Addr)) (ds out : List D) : Prop :=
  ∀ C B I fp P St h' tk, Fx base (C :: B :: W) n A (compEnvC scope cl C env) h' (cvars scope m) → Run prog w A (C :: B :: W) ds I fp P St h' → AccL (C :: B :: W) h' B [] → I ∉ C :: B :: W → base.get? I = none →
    B ∉ blocks (compEnvC scope cl C env) → B ∉ zone A → B ≠ C → Ext (zone A) s.heap h' → (∀ a ∈ [C, B, I], s.heap.get? a = none) →
    ∀ R', (∀ h'' tk'' m'', Fx base (C :: B :: W) n A (compEnvC scope cl C env) h'' m'' → AccL (C :: B :: W) h'' B out → ExtB (zone A) [C, B, I] h' h'' → R' (.ok .next) { s with heap := h'', toks := tk'' }) →
    codeAny (model prog w) A (.compLoop e 0 (.ref I) (.ref B) (compEnvC scope cl C env)) R' { s with heap := h', toks := tk }

theorem comp_top {elt iter : Expr} {x : Str} {px : Pos} {ifs : List Expr} {gs : List Comprehension} {scope : Scope} {cl : List (Str × Addr)} {pos cpos : Pos} {use : Option (Value → Sem Unit)} {Q : Value → Shared → Prop} {ds out : List D}
    (F : Fx base W n A env s.heap m) (ok : CompOK scope cl env) (hi : PE (model prog w) A env s.heap iter (Itb W ds))
    (body : CompBody prog w base W n A env m s (.ListComp elt (⟨.Name x px, iter, ifs, 0⟩ :: gs) scope pos) scope cl ds out)
    (k : ∀ C B h'' tk, Ext (zone A) s.heap h'' → Rep (C :: W) h'' (.ref B) (.list out) → s.heap.get? C = none → s.heap.get? B = none → C ≠ B → (∃ mc, h''.Ns C mc) → compPost (model prog w) A E use Q (.ref B) C (.ok .next) { s with heap := h'', toks := tk })
    (hs : ∀ x, foldedSetIterable iter env x = pure x) :
    wpAny (model prog w) A (comprehension (.ListComp elt (⟨.Name x px, iter, ifs, 0⟩ :: gs) scope pos) scope env cpos (newList []) false (eval iter env) use) Q E s := by
  refine wpAny_comprehension_free (g := ⟨.Name x px, iter, ifs, 0⟩) (gs := gs) rfl hs ok.clo ok.kind ok.names ?_
  refine hi s (Ext.refl _ _) _ _ fun v h1 t1 x1 p1 => ?_
  refine iter_run (s := { s with heap := h1, toks := t1 }) F.handled p1 fun I fp P St hI tI run hnew xI => ?_
  have xs := x1.trans xI
  have FI := F.ext xs
  have hnew' : h1.get? I = none := hnew
  have hIs : s.heap.get? I = none := by
    cases q : s.heap.get? I with
    | none => rfl
    | some o => obtain ⟨sl, e', _⟩ := x1 I o q; rw [hnew'] at e'; cases e'
  refine wpAny_newObj_type ?_
  refine wpAny_newFunctionEnv ok.noCell (by intro y hy; simp at hy) (fun h₁ hns₁ hsb₁ => ?_) ok.kind
  dsimp only at hns₁ hsb₁ ⊢
  -- the addresses
  generalize hH2 : hI.push { cls := .type "list", dict := none, data := .seq ([] : List Value).toArray } = H2 at hns₁ hsb₁ ⊢
  have hC : H2.objs.size = hI.objs.size + 1 := by rw [← hH2, Heap.size_push]
  have keep : hI.StaysIn h₁ := fun b o e => by
    have hlt := Heap.lt_size e
    exact hsb₁.extBut b o (by rw [hC]; exact Nat.ne_of_lt (Nat.lt_succ_of_lt hlt)) (Heap.get?_push_of_some _ (hH2 ▸ Heap.get?_push_of_some _ e))
  have hBI : hI.get? hI.objs.size = none := Heap.get?_none_of_le (Nat.le_refl _)
  have hCI : hI.get? H2.objs.size = none := Heap.get?_none_of_le (by rw [hC]; exact Nat.le_succ _)
  have hBC : hI.objs.size ≠ H2.objs.size := by rw [hC]; exact Nat.ne_of_lt (Nat.lt_succ_self _)
  have accP : h₁.PlainList hI.objs.size (#[] : Array Value) := ⟨0, hsb₁.extBut _ _ hBC (Heap.get?_push_of_some _ (hH2 ▸ Heap.get?_push_size _ rfl))⟩
  have liveW : ∀ a ∈ W, ∃ o, hI.get? a = some o := FI.live
  have hBW : hI.objs.size ∉ W := fun q => by obtain ⟨o, e⟩ := liveW _ q; rw [hBI] at e; cases e
  have hCW : H2.objs.size ∉ W := fun q => by obtain ⟨o, e⟩ := liveW _ q; rw [hCI] at e; cases e
  have hIlive := run.live
  have hIB : I ≠ hI.objs.size := fun q => by obtain ⟨o, e⟩ := hIlive; rw [q, hBI] at e; cases e
  have hIC : I ≠ H2.objs.size := fun q => by obtain ⟨o, e⟩ := hIlive; rw [q, hCI] at e; cases e
  have hIW : I ∉ W := fun q => by obtain ⟨o, e⟩ := F.live _ q; rw [hIs] at e; cases e
  have none_of : ∀ {a : Addr}, hI.get? a = none → s.heap.get? a = none := fun {a} e => by
    cases q : s.heap.get? a with
    | none => rfl
    | some o => obtain ⟨sl, e', _⟩ := xs a o q; rw [e] at e'; cases e'
  have base_none : ∀ {a : Addr}, hI.get? a = none → base.get? a = none := fun {a} e => by
    cases q : base.get? a with
    | none => rfl
    | some o => have := FI.stays _ _ q; rw [e] at this; cases this
  have hIb : base.get? I = none := by
    cases q : base.get? I with
    | none => rfl
    | some o => have := F.stays _ _ q; rw [hIs] at this; cases this
  have F1 : Fx base W n A env h₁ m := FI.keeps (fun b _ o e => keep b o e) fun b o e => keep b o (FI.stays b o e)
  have F2 : Fx base (hI.objs.size :: W) n A env h₁ m := { F1 with
    zoneW := fun a ha => .tail _ (F1.zoneW a ha)
    fresh := fun a ha => by
      rcases List.mem_cons.mp ha with q | q
      · exact q ▸ base_none hBI
      · exact F1.fresh a q
    live := fun a ha => by
      rcases List.mem_cons.mp ha with q | q
      · obtain ⟨_, e⟩ := accP; exact ⟨_, q ▸ e⟩
      · exact F1.live a q
    inW := .tail _ F1.inW
    cells := fun y hy => let ⟨c, a, b, d⟩ := F1.cells y hy; ⟨c, a, .tail _ b, d⟩
    cellsW := fun c hc => .tail _ (F1.cellsW c hc) }
  have F3 := F2.comp (cl := cl) ok hns₁ (fun q => by rcases List.mem_cons.mp q with q | q; exact hBC q.symm; exact hCW q) (base_none hCI)
  have run' : Run prog w A (H2.objs.size :: hI.objs.size :: W) ds I fp P St h₁ := run.into keep (fun a ha => by
    rcases List.mem_cons.mp ha with q | q
    · exact .inr (q ▸ hCI)
    · rcases List.mem_cons.mp q with q | q
      · exact .inr (q ▸ hBI)
      · exact .inl q)
  have loop : ∀ tk', codeAny (model prog w) A (.compLoop (.ListComp elt (⟨.Name x px, iter, ifs, 0⟩ :: gs) scope pos) 0 (.ref I) (.ref hI.objs.size) (compEnvC scope cl H2.objs.size env))
      (compPost (model prog w) A E use Q (.ref hI.objs.size) H2.objs.size) { s with heap := h₁, toks := tk' } := by
    intro tk'
    refine body H2.objs.size hI.objs.size I fp P St h₁ tk' F3 run' ⟨[], accP, .nil⟩ ?_ hIb ?_ ?_ hBC (xs.trans (Ext.of_stays keep)) ?_ _ fun h'' tk'' m'' F'' acc'' kp'' => ?_
    · intro q
      rcases List.mem_cons.mp q with q | q
      · exact hIC q
      · rcases List.mem_cons.mp q with q | q
        · exact hIB q
        · exact hIW q
    · intro q
      rcases List.mem_cons.mp q with q | q
      · exact hBC q
      · obtain ⟨p, hp, e⟩ := List.mem_map.mp q
        exact hBW (e ▸ F.cellsW _ (mem_cells (ok.sub p hp)))
    · exact fun q => hBW (F.zoneW _ q)
    · intro a ha
      rcases List.mem_cons.mp ha with q | q
      · exact q ▸ none_of hCI
      · rcases List.mem_cons.mp q with q | q
        · exact q ▸ none_of hBI
        · rcases List.mem_cons.mp q with q | q
          · exact q ▸ hIs
          · cases q
    · obtain ⟨vs, p, r⟩ := acc''
      refine k H2.objs.size hI.objs.size h'' tk'' ?_ ?_ (none_of hCI) (none_of hBI) (Ne.symm hBC) ?_
      · intro b o e
        obtain ⟨sl, e', ks⟩ := xs b o e
        have e1 := keep _ _ e'
        obtain ⟨sl2, e2, ks2⟩ := kp'' b _ (fun q => by
          rcases List.mem_cons.mp q with q | q
          · rw [q, none_of hCI] at e; cases e
          · rcases List.mem_cons.mp q with q | q
            · rw [q, none_of hBI] at e; cases e
            · rcases List.mem_cons.mp q with q | q
              · rw [q, hIs] at e; cases e
              · cases q) e1
        exact ⟨sl2, e2, fun hz => (ks2 hz).trans (ks hz)⟩
      · exact .list (by
          intro q
          rcases List.mem_cons.mp q with q | q
          · exact hBC q
          · exact hBW q) p (Reps.anti (fun a ha => .inl (by
            rcases List.mem_cons.mp ha with q | q
            · exact q ▸ .head _
            · exact .tail _ (.tail _ q))) r)
      · obtain ⟨ml, hn, _⟩ := F''.ns
        exact ⟨ml, hn⟩
  exact codeAny_compStart_list (loop _) (run'.walks.self 0 _ _ _ run'.at0 (loop _))
end
end Mine
end

-- W12
noncomputable section
open PySem PySem.W PyProof.Rows PySem.SeqAt
namespace Mine
section
variable {prog : Program} {w : World} {base h : Heap} {W : List Addr} {n : Nat} {A : Around} {env cenv : Env} {m : Vars} {s : Shared} {E : Value → Shared → Prop}

theorem flat_filter {α : Type} (test : Nat → Bool) (val : Nat → α) : ∀ l : List Nat, l.flatMap (fun j => if test j then [val j] else []) = (l.filter test).map val
  | [] => rfl
  | a :: l => by
    rw [List.flatMap_cons, flat_filter test val l, List.filter_cons]
    cases test a <;> simp
theorem flat_filter_le {α : Type} (test : Nat → Bool) (val : Nat → α) (k : Nat) : ((List.range k).flatMap (fun j => if test j then [val j] else [])).length ≤ k := by
  rw [flat_filter, List.length_map]
  exact Nat.le_trans (List.length_filter_le _ _) (by simp)

/-- what the names of a comprehension's block stand for: its own, and the others as they stood -/
def Jn (scope : Scope) (m : Vars) (xs : List Str) : Vars → Prop := fun m' => ∀ y, y ∉ xs → m' y = cvars scope m y

/-- one clause: its block -/
theorem comp1_body {elt iter : Expr} {x : Str} {px : Pos} {ifs : List Expr} {scope : Scope} {cl : List (Str × Addr)} {pos : Pos} {ds : List D} (test : Nat → Bool) (val : Nat → D) (hw : Ext (zone A) h s.heap) (F : Fx base W n A env h m) (hx : (relabel scope env).names.lookup x = some .local)
    (hel : ∀ W' C h' m' i d v, Fx base W' n A (compEnvC scope cl C env) h' (upd m' x v) → Jn scope m [x] m' → ds[i]? = some d → Rep W' h' v d → (∀ v d, Rep W h v d → Rep W' h' v d) →
      Tests (model prog w) A (compEnvC scope cl C env) h' ifs (test i) ∧ (test i = true → PE (model prog w) A (compEnvC scope cl C env) h' elt (R W' (val i))))
    (hz : ds.length ≤ sizeLine) : CompBody prog w base W n A env m s (.ListComp elt [⟨.Name x px, iter, ifs, 0⟩] scope pos) scope cl ds (((List.range ds.length).filter test).map val) := by
  intro C B I fp P St h' tk F' run acc hI hIb hBb hBz hBC xs hno R' k
  have mv0 : ∀ v d, Rep W h v d → Rep (C :: B :: W) h' v d := fun v d r => by
    have r1 : Rep W s.heap v d := r.ext F hw
    have r2 : Rep (C :: B :: W) s.heap v d := Rep.anti (fun a ha => by
      rcases List.mem_cons.mp ha with q | q
      · exact .inr (q ▸ hno C (.head _))
      · rcases List.mem_cons.mp q with q | q
        · exact .inr (q ▸ hno B (.tail _ (.head _)))
        · exact .inl q) r1
    exact Rep.mut (xs.mut F'.zoneW) r2
  refine comp_loop (s := { s with heap := h', toks := tk }) (inner := emitT elt (.ref B) (compEnvC scope cl C env) >>= fun _ => again (.compLoop (.ListComp elt [⟨.Name x px, iter, ifs, 0⟩] scope pos) 0 (.ref I) (.ref B) (compEnvC scope cl C env))) test (fun i => [val i]) (Jn scope m [x]) [] rfl rfl (Around.under_of_weight rfl) F' (fun _ _ => rfl) (fun m1 v1 h1 y hy => ?_) hx (.tail _ (.head _)) hBC hBz run hI hIb acc ?_ ?_ ?_
  · have : y ≠ x := fun q => hy (q ▸ .head _)
    show (if y = x then some v1 else m1 y) = _
    rw [if_neg this]; exact h1 y hy
  · intro i d v h1 m1 hd F1 J1 r1 md
    exact (hel _ C h1 m1 i d v F1 J1 hd r1 fun v d r => Rep.mutD md (mv0 v d r)).1
  · intro i d v h1 tk1 m1 out hd F1 J1 r1 md ht acc1 hlen Q E kk
    have he := (hel _ C h1 m1 i d v F1 J1 hd r1 fun v d r => Rep.mutD md (mv0 v d r)).2 ht
    have hlt : i < ds.length := (List.getElem?_eq_some_iff.mp hd).1
    have hlen2 := flat_filter_le test val i
    refine emit_ok (s := { s with heap := h1, toks := tk1 }) F1 he acc1 (by have := hlen; simp only [List.length_nil] at this; omega) (.tail _ (.head _)) hBb hBz _ _ _ fun h2' t2 F2 acc2 ex2 => ?_
    refine kk h2' t2 _ F2 (fun y hy => ?_) acc2 ex2
    have : y ≠ x := fun q => hy (q ▸ .head _)
    show (if y = x then some v else m1 y) = _
    rw [if_neg this]; exact J1 y hy
  · intro h1 tk1 m1 F1 J1 acc1 ex1
    refine k h1 tk1 m1 F1 ?_ ex1
    rw [← flat_filter]
    simpa using acc1

/-- a row by a comprehension, as a value -/
theorem PE.comp {elt iter : Expr} {x : Str} {px : Pos} {ifs : List Expr} {gs : List Comprehension} {scope : Scope} {cl : List (Str × Addr)} {pos : Pos} {ds out : List D} (F : Fx base W n A env h m) (ok : CompOK scope cl env)
    (hi : PE (model prog w) A env h iter (Itb W ds)) (hb : ∀ s : Shared, Ext (zone A) h s.heap → CompBody prog w base W n A env m s (.ListComp elt (⟨.Name x px, iter, ifs, 0⟩ :: gs) scope pos) scope cl ds out)
    (hs : ∀ x, foldedSetIterable iter env x = pure x := by intro _; rfl) : PE (model prog w) A env h (.ListComp elt (⟨.Name x px, iter, ifs, 0⟩ :: gs) scope pos) (R W (.list out)) := by
  intro s hs' Q E k
  rw [eval_ListComp]
  refine comp_top (F.ext hs') ok (fun s2 x2 => hi s2 (hs'.trans x2)) (hb s hs') (fun C B h'' tk xe r hC hB hCB hns => ?_) hs
  obtain ⟨mc, hn⟩ := hns
  refine ⟨mc, hn, fun h3 hs3 => ?_⟩
  have hCW : C ∉ W := fun q => by obtain ⟨o, e⟩ := (F.ext hs').live _ q; rw [hC] at e; cases e
  refine k _ h3 tk (fun b o e => ?_) ?_
  · obtain ⟨sl, e1, k1⟩ := xe b o e
    exact ⟨sl, (hs3.2 b fun q => by rw [q, hC] at e; cases e).trans e1, k1⟩
  · have r' : Rep (C :: W) h3 (.ref B) (.list out) := Rep.mut (Mut.of_same hs3 (.head _)) r
    exact Rep.anti (fun a ha => .inl (.tail _ ha)) r'

/-- a row by a comprehension, stored into a name: the stores exchanged -/
theorem ex_comp {elt iter : Expr} {x y : Str} {px py spos : Pos} {ifs : List Expr} {gs : List Comprehension} {scope : Scope} {cl : List (Str × Addr)} {pos : Pos} {ds out : List D} {rest : List Stmt} {Q : Flow → Shared → Prop} (F : Fx base W n A env s.heap m) (ok : CompOK scope cl env)
    (hi : PE (model prog w) A env s.heap iter (Itb W ds)) (hb : CompBody prog w base W n A env m s (.ListComp elt (⟨.Name x px, iter, ifs, 0⟩ :: gs) scope pos) scope cl ds out) (hy : env.kindOf y = some .local)
    (k : ∀ v h2 tk, (∃ B, v = .ref B ∧ s.heap.get? B = none) → Rep W h2 v (.list out) → ExtB (zone A) (blocks env) s.heap h2 → Fx base W n A env h2 (upd m y v) → wpAny (model prog w) A (execs rest env) Q E { s with heap := h2, toks := tk })
    (hsw : swapsWith (.ListComp elt (⟨.Name x px, iter, ifs, 0⟩ :: gs) scope pos) (some (.Name y py)) spos.line env = pure true)
    (hs : ∀ x, foldedSetIterable iter env x = pure x := by intro _; rfl) :
    wpAny (model prog w) A (execs (.Assign [.Name y py] (.ListComp elt (⟨.Name x px, iter, ifs, 0⟩ :: gs) scope pos) spos :: rest) env) Q E s := by
  refine wpAny_execs_cons ?_
  rw [exec_Assign_Name_used _ _ _ _ hsw]
  refine wpAny_bind (wpAny_standAt (wpAny_bind ?_))
  show wpAny _ A (do let _ ← comprehension (.ListComp elt (⟨.Name x px, iter, ifs, 0⟩ :: gs) scope pos) scope env _ (newList []) false (eval iter env) (some (assign (.Name y py) env))) _ _ s
  refine wpAny_bind (wpAny_mono (comp_top (Q := fun _ s' => wpAny (model prog w) A (execs rest env) Q E s') (use := some (assign (.Name y py) env)) F ok hi hb (fun C B h'' tk xe r hC hB hCB hns => ?_) hs) (fun _ s' hq => wpAny_pure (wpAny_pure hq)) fun _ _ e => e)
  show wpAny _ A (assign (.Name y py) env (.ref B)) _ _ _
  have F2 := F.ext xe
  have hCL : C ≠ env.locals := fun q => by obtain ⟨o, e⟩ := F.live _ F.inW; rw [← q, hC] at e; cases e
  have hCW : C ∉ W := fun q => by obtain ⟨o, e⟩ := F.live _ q; rw [hC] at e; cases e
  refine wpAny_assign_Name (Fx.storeL (s := { s with heap := h'', toks := tk }) F2 hy fun h3 t3 hs3 F3 => ?_)
  obtain ⟨mc, hn⟩ := hns
  refine ⟨mc, hn.sameBut hs3 hCL, fun h4 hs4 => ?_⟩
  have r3 : Rep (C :: W) h3 (.ref B) (.list out) := Rep.mut (Mut.of_same hs3 (.tail _ F.inW)) r
  have r4 : Rep (C :: W) h4 (.ref B) (.list out) := Rep.mut (Mut.of_same hs4 (.head _)) r3
  have kp : ∀ b o, b ≠ C → h3.get? b = some o → h4.get? b = some o := fun b o hb e => (hs4.2 b hb).trans e
  have hCb : base.get? C = none := by
    cases q : base.get? C with
    | none => rfl
    | some o => have := F.stays _ _ q; rw [hC] at this; cases this
  refine k _ h4 t3 ⟨B, rfl, hB⟩ (Rep.anti (fun a ha => .inl (.tail _ ha)) r4) (fun b o hb e => ?_) (F3.keeps (fun b hb o e => kp b o (fun q => hCW (q ▸ hb)) e) fun b o e => kp b o (fun q => by rw [q, hCb] at e; cases e) (F3.stays b o e))
  obtain ⟨sl, e1, k1⟩ := xe b o e
  exact ⟨sl, kp b _ (fun q => by rw [q, hC] at e; cases e) ((hs3.2 b fun q => hb (q ▸ .head _)).trans e1), k1⟩
end
end Mine
end

-- W13
noncomputable section
open PySem PySem.W PyProof.Rows PySem.SeqAt
namespace Mine
section
variable {prog : Program} {w : World} {base h : Heap} {W : List Addr} {n : Nat} {A : Around} {env cenv : Env} {m : Vars} {s : Shared} {E : Value → Shared → Prop}

theorem compStart_inner {elt : Expr} {g : Comprehension} {target iter : Expr} {ifs : List Expr} {scope : Scope} {pos : Pos} {it acc : Value} {R' : Result → Shared → Prop}
    (h0 : codeAny (model prog w) A (.compLoop (.ListComp elt [g, ⟨target, iter, ifs, 0⟩] scope pos) 1 it acc cenv) R' s)
    (h : wpAny (model prog w) A (pyIter it) (fun it' s' => codeAny (model prog w) A (.compLoop (.ListComp elt [g, ⟨target, iter, ifs, 0⟩] scope pos) 1 it' acc cenv) R' s') (notedBy (model prog w) A cenv fun x s' => R' (.error x) s') s) :
    codeAny (model prog w) A (.compStart (.ListComp elt [g, ⟨target, iter, ifs, 0⟩] scope pos) 1 it acc cenv) R' s := by
  refine codeAny_of_tree ?_
  show wpAny _ _ ((compStart (.ListComp elt [g, ⟨target, iter, ifs, 0⟩] scope pos) 1 it acc cenv).onRaise (fun x => do noteFrame x cenv; standAt theWindowsPlace)) _ _ s
  refine wpAny_notedAt ?_
  unfold compStart
  show wpAny _ _ (ask >>= _) _ _ s
  refine wpAny_bind (wpAny_askSetting (wpAny_ite ?_))
  split
  · first
      | exact wpAny_bind (wpAny_pure (wpAny_pure (And.intro rfl h0)))
      | exact wpAny_pure (And.intro rfl h0)
  · first
      | exact wpAny_bind (wpAny_rule (wpAny_bind (wpAny_standAt (wpAny_bind (wpAny_mono h (fun it' s' h' => wpAny_pure (And.intro rfl h')) fun _ _ x => x)))))
      | exact wpAny_bind (wpAny_rule (wpAny_bind (wpAny_mono h (fun it' s' h' => wpAny_pure (And.intro rfl h')) fun _ _ x => x)))

/-- the second clause of a comprehension, run for one item of the first -/
def innerT (elt : Expr) (gens : List Comprehension) (scope : Scope) (pos : Pos) (iter2 : Expr) (it acc : Value) (cenv : Env) : Sem PySem.Fin := do
  let x ← eval iter2 cenv
  standAt iter2.pos
  let x ← foldedSetIterable iter2 cenv x
  let _ ← runOwn (.compStart (.ListComp elt gens scope pos) 1 (← holding [x] (pyIter x)) acc cenv) cenv
  again (.compLoop (.ListComp elt gens scope pos) 0 it acc cenv)

theorem flat_le {α : Type} (f : Nat → List α) (b k : Nat) (h : ∀ i, i < k → (f i).length ≤ b) : ((List.range k).flatMap f).length ≤ k * b := by
  induction k with
  | zero => simp
  | succ k ih =>
    rw [List.range_succ, List.flatMap_append, List.length_append]
    have h1 := ih fun i hi => h i (by omega)
    have h2 := h k (by omega)
    simp only [List.flatMap_cons, List.flatMap_nil, List.append_nil]
    have : (k + 1) * b = k * b + b := by rw [Nat.add_mul, Nat.one_mul]
    omega
end
end Mine
end

-- W14
noncomputable section
open PySem PySem.W PyProof.Rows PySem.SeqAt
namespace Mine

theorem nodup_le {α : Type} [DecidableEq α] : ∀ (l l' : List α), l.Nodup → (∀ a ∈ l, a ∈ l') → l.length ≤ l'.length
  | [], _, _, _ => Nat.zero_le _
  | a :: l, l', hn, hs => by
    rw [List.nodup_cons] at hn
    have h1 : a ∈ l' := hs a (.head _)
    have h2 := nodup_le l (l'.erase a) hn.2 fun b hb => by
      have : b ≠ a := fun q => hn.1 (q ▸ hb)
      exact (List.mem_erase_of_ne this).mpr (hs b (.tail _ hb))
    rw [List.length_erase_of_mem h1] at h2
    have : 0 < l'.length := List.length_pos_of_mem h1
    simp only [List.length_cons]; omega
theorem nodup_all {α : Type} [DecidableEq α] (l l' : List α) (hn : l.Nodup) (hn' : l'.Nodup) (hs : ∀ a ∈ l, a ∈ l') (he : l.length = l'.length) : ∀ a ∈ l', a ∈ l := fun a ha => by
  apply Classical.byContradiction
  intro hna
  have := nodup_le (a :: l) l' (by rw [List.nodup_cons]; exact ⟨hna, hn⟩) fun b hb => by
    rcases List.mem_cons.mp hb with q | q
    · exact q ▸ ha
    · exact hs b q
  simp only [List.length_cons] at this; omega

/-- a set of names -/
def RS (prog : Program) (w : World) (W : List Addr) (odd : Bool) (l : List L3) : P3 := fun h v => ∃ a, v = .ref a ∧ a ∉ W ∧ h.SetOf (nmKind odd prog w) a (fun k => decide (k ∈ l)) (dedup l).length

section
variable {prog : Program} {w : World} {base h : Heap} {W : List Addr} {n : Nat} {A : Around} {env cenv : Env} {m : Vars} {s : Shared} {E : Value → Shared → Prop} {odd : Bool}

theorem RS.mutD {l : List L3} {h h' : Heap} {v : Value} (r : RS prog w W odd l h v) (x : MutD W h h') : RS prog w W odd l h' v := by
  obtain ⟨a, rfl, ha, o, es, ep, t, ho, hex, hd, rest⟩ := r
  exact ⟨a, rfl, ha, o, es, ep, t, x a o ha ho (fun vs q => by rw [hd] at q; cases q), hex, hd, rest⟩
theorem RS.stable {l : List L3} (hz : ∀ a ∈ zone A, a ∈ W) : Stable A (RS prog w W odd l) := fun h h' v x r => r.mutD (x.mut hz).toD
theorem RS.anti {l : List L3} {W' : List Addr} {h : Heap} {v : Value} (r : RS prog w W odd l h v) (hw : ∀ a ∈ W', a ∈ W ∨ h.get? a = none) : RS prog w W' odd l h v := by
  obtain ⟨a, rfl, ha, S⟩ := r
  refine ⟨a, rfl, fun q => (hw a q).elim ha fun e => ?_, S⟩
  obtain ⟨o, _, _, _, ho, _⟩ := S
  rw [e] at ho; cases ho

theorem quietEq_scan {M : Model} {x : Value} {Q : Bool → Shared → Prop} (hx : x.scannable = true) (h : Q true s) : wpAny M A (Builtin.Frozenset.quietEq x) Q E s := by
  unfold Builtin.Frozenset.quietEq
  cases x <;> first | exact wpAny_pure h | cases hx

theorem walkUnseen_of {a b : Addr} {oa ob : Obj} {es es' : Array (Int × Value)} {ep ep' : Nat} {t t' : SetTable} {Q : List (Int × Value) → Shared → Prop}
    (ha : s.heap.get? a = some oa) (da : oa.data = .set es ep t) (fa : t.fits es.size = true) (hb : s.heap.get? b = some ob) (db : ob.data = .set es' ep' t') (fb : t'.fits es'.size = true)
    (hx : ∀ e ∈ es.toList ++ es'.toList, e.2.scannable = true) (h : Q es.toList s) : wpAny (model prog w) A (Builtin.Frozenset.walkUnseen a b) Q E s := by
  unfold Builtin.Frozenset.walkUnseen
  refine wpAny_bind (wpAny_setEntries_of ha da fa (wpAny_bind (wpAny_setEntries_of hb db fb (wpAny_bind ?_))))
  refine wpAny_forIn_list _ (fun rest b s' => s' = s ∧ b = (none, ()) ∧ ∀ e ∈ rest, e.2.scannable = true) _ ?_ ?_ _ _ ⟨rfl, rfl, hx⟩
  · rintro x rest b s' ⟨rfl, rfl, hr⟩
    obtain ⟨hh, v⟩ := x
    refine wpAny_bind (quietEq_scan (hr _ (.head _)) ?_)
    exact wpAny_pure ⟨rfl, rfl, fun e he => hr e (.tail _ he)⟩
  · rintro b s' ⟨rfl, rfl, _⟩
    exact wpAny_pure h
end
end Mine
end

-- W15
noncomputable section
open PySem PySem.W PyProof.Rows PySem.SeqAt
namespace Mine
section
variable {prog : Program} {w : World} {base h : Heap} {W : List Addr} {n : Nat} {A : Around} {env cenv : Env} {m : Vars} {s : Shared} {E : Value → Shared → Prop} {odd : Bool}

theorem subsetOf_of {a b : Addr} {S S' : L3 → Bool} {k k' : Nat} {id : String} {Q : Bool → Shared → Prop} (ha : s.heap.SetOf (nmKind odd prog w) a S k) (hb : s.heap.SetOf (nmKind odd prog w) b S' k') (hle : (∀ x, S x = true → S' x = true) → k ≤ k')
    (h : ∀ r : Bool, (r = true ↔ ∀ x, S x = true → S' x = true) → Q r s) : wpAny (model prog w) A (Builtin.Frozenset.subsetOf id a b) Q E s := by
  have hb' := hb
  obtain ⟨oa, es, ep, t, hoa, hexa, hda, hela, hmema, hba, hfa, hka⟩ := ha
  obtain ⟨ob, es', ep', t', hob, hexb, hdb, helb, hmemb, hbb, hfb, hkb⟩ := hb
  unfold Builtin.Frozenset.subsetOf Builtin.Frozenset.sizeOf
  refine wpAny_bind (wpAny_bind (wpAny_setEntries_of hoa hda hfa (wpAny_pure (wpAny_bind (wpAny_bind (wpAny_setEntries_of hob hdb hfb (wpAny_pure ?_)))))))
  by_cases hgt : es.size > es'.size
  · rw [if_pos hgt]
    refine wpAny_pure (h false ⟨fun q => (by cases q), fun q => absurd (hle q) (by omega)⟩)
  · rw [if_neg hgt]
    refine wpAny_bind (wpAny_setEpoch_of hoa hda hfa ?_)
    refine wpAny_bind (walkUnseen_of hoa hda hfa hob hdb hfb (fun e he => ?_) ?_)
    · rcases List.mem_append.mp he with q | q
      · exact (hela e q).2
      · exact (helb e q).2
    · refine wpAny_bind ?_
      refine wpAny_forIn_list _ (fun rest b s' => s' = s ∧ b = (none, ()) ∧ (∀ e ∈ rest, e ∈ es.toList) ∧ ((∀ x, S x = true → S' x = true) ↔ ∀ e ∈ rest, ∀ x, (nmKind odd prog w).is x e.2 = true → S' x = true)) _ ?_ ?_ _ _ ⟨rfl, rfl, fun _ q => q, ?_⟩
      · rintro x rest b s' ⟨rfl, rfl, hr, hiff⟩
        obtain ⟨hh, v⟩ := x
        obtain ⟨⟨kx, hkx, hhx⟩, hsc⟩ := hela _ (hr _ (.head _))
        dsimp only at hkx hhx hsc ⊢
        subst hhx
        refine wpAny_bind (wpAny_holding (wpAny_setFind_of hkx hsc hb' fun r hr' => ?_))
        cases r with
        | none =>
          refine wpAny_pure (wpAny_pure (h false ⟨fun q => (by cases q), fun q => ?_⟩))
          have := (hiff.mp q) _ (.head _) kx hkx
          rw [← hr'] at this; cases this
        | some j =>
          have hS : S' kx = true := hr'.symm
          refine wpAny_bind ?_
          unfold Builtin.Frozenset.unchanged
          refine wpAny_bind (wpAny_setEpoch_of hoa hda hfa ?_)
          rw [if_neg (by simp)]
          refine wpAny_pure (wpAny_pure ⟨rfl, rfl, fun e he => hr e (.tail _ he), hiff.trans ⟨fun q e he => q e (.tail _ he), fun q e he y hy => ?_⟩⟩)
          rcases List.mem_cons.mp he with z | z
          · subst z
            have : y = kx := (nmKind odd prog w).inj _ _ _ hy hkx
            rw [this]; exact hS
          · exact q e z y hy
      · rintro b s' ⟨rfl, rfl, _, hiff⟩
        exact wpAny_pure (h true ⟨fun _ => hiff.mpr fun e he => (nomatch he), fun _ => rfl⟩)
      · constructor
        · intro q e he x hx
          exact q x ((hmema x).mpr ⟨e, he, hx⟩)
        · intro q x hx
          obtain ⟨e, he, hx'⟩ := (hmema x).mp hx
          exact q e he x hx'

theorem entry_set_eq : entryFor table "set.__eq__" = some Builtin.«frozenset.__eq__» :=
  entryFor_alias (id' := "frozenset.__eq__") (by kernel_rfl) rfl (by decide +kernel) (by kernel_rfl)
theorem entry_set_le : entryFor table "set.__le__" = some Builtin.«frozenset.__le__» :=
  entryFor_alias (id' := "frozenset.__le__") (by kernel_rfl) rfl (by decide +kernel) (by kernel_rfl)
theorem sub_set_set : isSubtype (.type "set") (.type "set") = pure true := by rw [isSubtype_type]; kernel_rfl
theorem sub_set_frozen : isSubtype (.type "set") (.type "frozenset") = pure false := by rw [isSubtype_type]; kernel_rfl

theorem le_iff (l l' : List L3) : (∀ x, decide (x ∈ l) = true → decide (x ∈ l') = true) ↔ subSet l l' = true := by
  rw [subSet_iff]
  exact ⟨fun q a ha => by simpa using q a (by simpa using ha), fun q a ha => by simpa using q a (by simpa using ha)⟩
theorem le_len {l l' : List L3} (q : ∀ x, decide (x ∈ l) = true → decide (x ∈ l') = true) : (dedup l).length ≤ (dedup l').length :=
  nodup_le _ _ (nodup_dedup l) fun a ha => (mem_dedup l' a).mpr (by simpa using q a (by simpa using (mem_dedup l a).mp ha))

theorem isAnySet_of {a : Addr} {Q : Bool → Shared → Prop} (Ta : s.TypeIs (.ref a) "set") (h : Q true s) : wpAny (model prog w) A (Builtin.Frozenset.isAnySet (.ref a)) Q E s := by
  unfold Builtin.Frozenset.isAnySet
  exact wpAny_bind (wpAny_isInstance Ta sub_set_set (wpAny_pure h))

theorem te_le_sets {l l' : List L3} {v v' : Value} (ra : RS prog w W odd l s.heap v) (rb : RS prog w W odd l' s.heap v') (hu : A.units < cLine) : TE (model prog w) A s (compareOp .LtE v v') (V (.bool (subSet l l'))) := by
  obtain ⟨a, rfl, _, Sa⟩ := ra
  obtain ⟨b, rfl, _, Sb⟩ := rb
  intro Q E k
  have Ta : s.TypeIs (.ref a) "set" := Sa.typeIs
  have Tb : s.TypeIs (.ref b) "set" := Sb.typeIs
  show wpAny _ _ (richCompare .LtE (.ref a) (.ref b)) _ _ _
  refine wpAny_richCompare_same_room Ta Tb F.slot_set_le (wpAny_call_entry F.slot_set_le Ta entry_set_le ?_ (F.args_set_le_2 _ _)) hu
  have Sa' := Sa
  have Sb' := Sb
  obtain ⟨oa, es, ep, t, hoa, hexa, hda, hela, hmema, hba, hfa, hka⟩ := Sa'
  obtain ⟨ob, es', ep', t', hob, hexb, hdb, helb, hmemb, hbb, hfb, hkb⟩ := Sb'
  have tree : Builtin.«frozenset.__le__» ⟨[.ref a, .ref b], []⟩ = (do
      if !(← Builtin.Frozenset.isAnySet (.ref b)) then rule s!"frozenset.{"__le__"}.declined"; return ← ret .notImplemented
      let _ ← Builtin.Frozenset.sizeOf a; let _ ← Builtin.Frozenset.sizeOf b
      ret (.bool (← Builtin.Frozenset.subsetOf s!"frozenset.{"__le__"}" a b))) := by
    with_unfolding_all rfl
  rw [tree]
  refine wpAny_bind (isAnySet_of Tb ?_)
  rw [if_neg (by decide)]
  unfold Builtin.Frozenset.sizeOf
  refine wpAny_bind (wpAny_bind (wpAny_setEntries_of hoa hda hfa (wpAny_pure (wpAny_bind (wpAny_bind (wpAny_setEntries_of hob hdb hfb (wpAny_pure ?_)))))))
  refine wpAny_bind (subsetOf_of Sa Sb le_len fun r hr => wpAny_pure ⟨_, rfl, (fun q => by cases q), ?_⟩)
  refine k _ s.heap s.toks (Ext.refl _ _) ?_
  have : r = subSet l l' := by rw [Bool.eq_iff_iff, hr]; exact le_iff l l'
  rw [this]; rfl

theorem te_eq_sets {l l' : List L3} {v v' : Value} (ra : RS prog w W odd l s.heap v) (rb : RS prog w W odd l' s.heap v') (hu : A.units < cLine) : TE (model prog w) A s (compareOp .Eq v v') (V (.bool (sameSet l l'))) := by
  obtain ⟨a, rfl, _, Sa⟩ := ra
  obtain ⟨b, rfl, _, Sb⟩ := rb
  intro Q E k
  have Ta : s.TypeIs (.ref a) "set" := Sa.typeIs
  have Tb : s.TypeIs (.ref b) "set" := Sb.typeIs
  show wpAny _ _ (richCompare .Eq (.ref a) (.ref b)) _ _ _
  refine wpAny_richCompare_same_room Ta Tb F.slot_set_eq (wpAny_call_entry F.slot_set_eq Ta entry_set_eq ?_ (F.args_set_eq_2 _ _)) hu
  have Sa' := Sa
  have Sb' := Sb
  obtain ⟨oa, es, ep, t, hoa, hexa, hda, hela, hmema, hba, hfa, hka⟩ := Sa'
  obtain ⟨ob, es', ep', t', hob, hexb, hdb, helb, hmemb, hbb, hfb, hkb⟩ := Sb'
  have tree : ∃ t0 : Sem Bool, Builtin.«frozenset.__eq__» ⟨[.ref a, .ref b], []⟩ = (do
      if !(← Builtin.Frozenset.isAnySet (.ref b)) then rule s!"frozenset.{"__eq__"}.declined"; return ← ret .notImplemented
      let n ← Builtin.Frozenset.sizeOf a; let m ← Builtin.Frozenset.sizeOf b
      ret (.bool (← (do
        if n != m then return false
        if ← isInstance (.ref a) (.type "frozenset") <&&> isInstance (.ref b) (.type "frozenset") then
          t0
        else Builtin.Frozenset.subsetOf s!"frozenset.{"__eq__"}" a b)))) := by
    exact ⟨_, by with_unfolding_all rfl⟩
  obtain ⟨t0, tree⟩ := tree
  rw [tree]
  refine wpAny_bind (isAnySet_of Tb ?_)
  rw [if_neg (by decide)]
  unfold Builtin.Frozenset.sizeOf
  refine wpAny_bind (wpAny_bind (wpAny_setEntries_of hoa hda hfa (wpAny_pure (wpAny_bind (wpAny_bind (wpAny_setEntries_of hob hdb hfb (wpAny_pure ?_)))))))
  by_cases hne : es.size = es'.size
  · have hne' : (es.size != es'.size) = false := by simp [hne]
    rw [hne']
    refine wpAny_bind ?_
    simp only [Bool.false_eq_true, if_false]
    refine wpAny_bind (wpAny_bind (wpAny_isInstance Ta sub_set_frozen (wpAny_pure ?_)))
    rw [if_neg (by decide)]
    refine subsetOf_of Sa Sb le_len fun r hr => wpAny_pure ⟨_, rfl, (fun q => by cases q), ?_⟩
    refine k _ s.heap s.toks (Ext.refl _ _) ?_
    have : r = sameSet l l' := by
      rw [Bool.eq_iff_iff, hr, sameSet, Bool.and_eq_true, le_iff]
      refine ⟨fun q => ⟨q, ?_⟩, fun q => q.1⟩
      rw [subSet_iff] at q ⊢
      intro x hx
      have := nodup_all (dedup l) (dedup l') (nodup_dedup l) (nodup_dedup l') (fun y hy => (mem_dedup l' y).mpr (q y ((mem_dedup l y).mp hy))) (by omega) x ((mem_dedup l' x).mpr hx)
      exact (mem_dedup l x).mp this
    rw [this]; rfl
  · have hne' : (es.size != es'.size) = true := by simp [hne]
    rw [hne']
    refine wpAny_bind ?_
    simp only [if_true]
    refine wpAny_pure (wpAny_pure ⟨_, rfl, (fun q => by cases q), ?_⟩)
    refine k _ s.heap s.toks (Ext.refl _ _) ?_
    have : sameSet l l' = false := by
      rw [← Bool.not_eq_true, sameSet, Bool.and_eq_true]
      rintro ⟨q1, q2⟩
      have h1 := le_len ((le_iff l l').mpr q1)
      have h2 := le_len ((le_iff l' l).mpr q2)
      omega
    rw [this]; rfl
end
end Mine
end

-- W16
noncomputable section
open PySem PySem.W PyProof.Rows PySem.SeqAt
namespace Mine
section
variable {prog : Program} {w : World} {base h : Heap} {W : List Addr} {n : Nat} {A : Around} {env cenv : Env} {m : Vars} {s : Shared} {E : Value → Shared → Prop} {odd : Bool}

theorem dedup_take {l : List L3} {i : Nat} {x : L3} (h : l[i]? = some x) : dedup (l.take (i + 1)) = dstep (dedup (l.take i)) x := by
  rw [List.take_add_one, h]; exact dedup_snoc _ _
theorem dedup_len (l : List L3) : (dedup l).length ≤ 3 := by
  have := nodup_le (dedup l) [0, 1, 2] (nodup_dedup l) fun a _ => by
    have : ∀ a : L3, a ∈ ([0, 1, 2] : List L3) := by decide
    exact this a
  simpa using this

theorem setOf_congr {h : Heap} {a : Addr} {S S' : L3 → Bool} {k k' : Nat} (hS : h.SetOf (nmKind odd prog w) a S k) (e : ∀ x, S x = S' x) (ek : k = k') : h.SetOf (nmKind odd prog w) a S' k' := by
  have : S = S' := funext e
  subst this; subst ek; exact hS

/-- a set filled from a row of names -/
theorem set_loop {I T : Addr} {fp : List Addr} {P : Nat → Value → Prop} {St : Nat → Heap → Prop} {l : List L3} (Wk : Walks prog w A.in1 I fp [I] l.length P St) (hT : T ∉ fp) (hTI : T ≠ I)
    (hP : ∀ i v, P i v → ∃ x, l[i]? = some x ∧ Rep [] h v (nmD odd x)) {R' : Result → Shared → Prop} :
    ∀ (k i : Nat) (s : Shared), l.length - i = k → i ≤ l.length → St i s.heap → s.heap.SetOf (nmKind odd prog w) T (fun x => decide (x ∈ l.take i)) (dedup (l.take i)).length →
      (∀ h' tk, h'.SetOf (nmKind odd prog w) T (fun x => decide (x ∈ l)) (dedup l).length → (∀ b o, b ≠ T → b ≠ I → s.heap.get? b = some o → h'.get? b = some o) → R' (.ok (.ret .none)) { s with heap := h', toks := tk }) →
      codeAny (model prog w) A (.builtin "set.update.loop" ⟨[.ref T, .ref I], []⟩) R' s := by
  intro k
  induction k with
  | zero =>
    intro i s hk hi hst hS hR
    have hin : i = l.length := by omega
    subst hin
    refine codeAny_builtin F.entry_set_update_loop ?_
    rw [Around.under_plainId F.plain_set_update_loop _]
    show wpAny _ A.in1 (pyNext (.ref I) >>= _) _ _ s
    refine wpAny_bind (Wk.done s _ _ hst fun h' tk hm => ?_)
    show wpAny _ A.in1 (ret Value.none) _ _ _
    refine wpAny_pure (hR h' tk ?_ fun b o hb hbI e => hm b o (by simpa using hbI) e)
    obtain ⟨o, es, ep, t, ho, rest⟩ := hS
    rw [List.take_length] at rest
    exact ⟨o, es, ep, t, hm T _ (by simpa using hTI) ho, rest⟩
  | succ k ih =>
    intro i s hk hi hst hS hR
    have hlt : i < l.length := by omega
    refine codeAny_builtin F.entry_set_update_loop ?_
    rw [Around.under_plainId F.plain_set_update_loop _]
    show wpAny _ A.in1 (pyNext (.ref I) >>= _) _ _ s
    refine wpAny_bind (Wk.item i s _ _ hlt hst fun v h' tk hPv hst' hm => ?_)
    obtain ⟨x, hx, rx⟩ := hP i v hPv
    have hS' : h'.SetOf (nmKind odd prog w) T (fun x => decide (x ∈ l.take i)) (dedup (l.take i)).length := by
      obtain ⟨o, es, ep, tb, ho, rest⟩ := hS
      exact ⟨o, es, ep, tb, hm T _ (by simpa using hTI) ho, rest⟩
    show wpAny _ A.in1 (holding [v] (setAdd T v) >>= _) _ _ _
    refine wpAny_bind (wpAny_holding ?_)
    unfold setAdd
    refine wpAny_holding ?_
    refine wpAny_bind ((nmKind odd prog w).pyHash (k := x) (nm_is rx) ?_)
    have hroom : (dedup (l.take i)).length + 1 < scanBound := by have := dedup_len (l.take i); unfold scanBound; omega
    refine wpAny_setAddHashed_of (knd := nmKind odd prog w) (s := { s with heap := h', toks := tk + 1 }) (nm_is rx) (nm_scan rx) hS' hroom fun h2 hsb hS2 => ?_
    have hS3 : h2.SetOf (nmKind odd prog w) T (fun y => decide (y ∈ l.take (i + 1))) (dedup (l.take (i + 1))).length := by
      refine setOf_congr hS2 (fun y => ?_) ?_
      · rw [List.take_add_one, hx]
        rw [Bool.eq_iff_iff]; simp
      · rw [dedup_take hx, dstep]
        by_cases hin : x ∈ l.take i
        · rw [if_pos (by simpa using hin), if_pos ((mem_dedup _ x).mpr hin)]
        · rw [if_neg (by simpa using hin), if_neg (fun q => hin ((mem_dedup _ x).mp q))]; simp
    refine wpAny_pure ⟨plainId_quiet F.plain_set_update_loop _, ih (i + 1) { s with heap := h2, toks := tk + 1 } (by omega) hlt (Wk.frame _ _ _ hst' fun b hb o e => ?_) hS3 fun h3 tk3 hS4 kp => ?_⟩
    · exact (hsb.2 b fun q => hT (q ▸ hb)).trans e
    · exact hR h3 tk3 hS4 fun b o hb hbI e => kp b o hb hbI ((hsb.2 b hb).trans (hm b o (by simpa using hbI) e))

set_option maxRecDepth 100000 in
set_option maxHeartbeats 3200000 in
theorem te_set_of {l : List L3} {v : Value} (hh : A.handled = none) (hn : s.heap.objs.size ∉ W) (ra : R W (dW odd l) s.heap v) : TE (model prog w) A s (call (.type "set") [v]) (RS prog w W odd l) := by
  cases ra with
  | list ha hl r =>
    rename_i la vs
    intro Q E k
    have hlen : vs.length = l.length := by rw [r.length]; simp
    obtain ⟨c, tl, hmro⟩ := F.called_set.mro
    have hmade := F.called_set.made
    have hsub := F.called_set.sub
    refine wpAny_call (codeAny_of_tree ?_)
    show wpAny _ _ (callAny (.type "set") _) _ _ _
    refine wpAny_pure ⟨Code.quiet_builtin _ (by decide +kernel), codeAny_builtin F.entry_type_call ?_⟩
    rw [Around.under_plain (weight_type_call_type "set" [.ref la] []) rfl]
    have h1 := F.called_set.notType
    have h2 := F.called_set.canCreate
    have hct := F.typeCall_set_1 (.ref la)
    repeat (any_goals (first | assumption | wp_step))
    refine codeAny_mono (code_set_new_1 (.ref la) (E := E) (Q₁ := fun obj s₁ => ∃ led : Bool, obj = .ref s.heap.objs.size ∧ s₁ = { s with heap := s.heap.push { cls := .type "set", dict := none, data := .set #[] 0 (.fresh 0 0 led) } }) fun led => ⟨led, rfl, rfl⟩) fun r₁ s₁ hr => ?_
    cases r₁ with
    | error e => exact hr
    | ok fl =>
      cases fl with
      | ret obj =>
        obtain ⟨led, rfl, rfl⟩ := hr
        generalize hso : ({ cls := .type "set", dict := none, data := .set #[] 0 (.fresh 0 0 led) } : Obj) = so
        have hS : (s.heap.push so).get? s.heap.objs.size = some so := Heap.get?_push_size _ (by rw [← hso]; rfl)
        have hT : Shared.TypeIs { s with heap := s.heap.push so } (.ref s.heap.objs.size) "set" := ⟨_, hS, by rw [← hso]⟩
        have hli := F.called_set.init.lookup
        have hbi := F.called_set.init.bind (.ref s.heap.objs.size)
        repeat (any_goals (first | assumption | wp_step))
        refine codeAny_mono (codeAny_call_builtin (R := wants (fun r s₂ => r = .none ∧ ∃ h' tk, s₂ = { s with heap := h', toks := tk } ∧
            h'.SetOf (nmKind odd prog w) s.heap.objs.size (fun x => decide (x ∈ l)) (dedup l).length ∧
            (∀ b o, b < s.heap.objs.size → s.heap.get? b = some o → h'.get? b = some o)) E) F.called_set.init.plain F.entry_set_init (check_set_init_1 hT ?_)) fun r₂ s₂ hr₂ => ?_
        · obtain ⟨nl, hol⟩ := hl
          have hol' : (s.heap.push so).get? la = some { cls := .type "list", data := .seq vs.toArray nl } := Heap.get?_push_of_some _ hol
          have hsls := F.sub_list_set
          have hslf := F.sub_list_frozenset
          have hne : (Value.type "list" == Value.type "dict") = false := by decide
          have hl1 : (s.heap.push so).IsList la vs.toArray := ⟨_, hol', rfl, nl, rfl⟩
          have hfresh : (s.heap.push so).get? s.heap.objs.size = some { cls := .type "set", dict := none, data := .set #[] 0 (.fresh 0 0 led) } := by rw [hso]; exact hS
          unfold Builtin.«set.__init__» noKeywords Builtin.Frozenset.updateFrom
          generalize hPI : pyIter = PI
          wp_walk
          subst hPI
          refine wpAny_pyIter_list hl1 ?_
          refine wpAny_bind (wpAny_runValue ?_)
          have hlS : la < s.heap.objs.size := Heap.lt_size hol
          have hh3 : A.in1.in1.in1.handled = none := by simp [hh]
          have hIz : (s.heap.push so).objs.size = s.heap.objs.size + 1 := Heap.size_push ..
          have hneI : la ≠ (s.heap.push so).objs.size := by rw [hIz]; exact Nat.ne_of_lt (Nat.lt_succ_of_lt hlS)
          have hTI : s.heap.objs.size ≠ (s.heap.push so).objs.size := by rw [hIz]; exact Nat.ne_of_lt (Nat.lt_succ_self _)
          have hSf : s.heap.objs.size ∉ [(s.heap.push so).objs.size, la] := by
            simp only [List.mem_cons, List.mem_singleton, List.not_mem_nil, or_false, not_or]
            exact ⟨hTI, Nat.ne_of_gt hlS⟩
          have Wk := Walks.list (prog := prog) (w := w) (A := A.in1.in1.in1) hh3 (s.heap.push so).objs.size la hneI vs.toArray
          have esz : vs.toArray.size = l.length := by simp [hlen]
          rw [esz] at Wk
          refine set_loop (h := s.heap) (odd := odd) (l := l) Wk hSf hTI (fun i v hv => ?_) (l.length - 0) 0 _ (by omega) (Nat.zero_le _)
            ⟨⟨_, Heap.get?_push_size _ rfl, rfl, rfl⟩, (hl1.push _)⟩ ?_ fun h' tk hS' kp => ?_
          · have hv' : vs[i]? = some v := by simpa using hv
            obtain ⟨x, hx, rx⟩ := reps_map r hv'
            exact ⟨x, hx, Rep.anti (W' := []) (fun a ha => absurd ha (by simp)) rx⟩
          · have hget : ((s.heap.push so).push { cls := .type "list_iterator", data := .fields #[.ref la, .int 0 0] }).get? s.heap.objs.size
                = some { cls := .type "set", dict := none, data := .set #[] 0 (.fresh 0 0 led) } := Heap.get?_push_of_some _ hfresh
            exact setOf_congr ((setObjOf_fresh (knd := nmKind odd prog w) led).setOf hget (by unfold scanBound; omega)) (fun x => by simp) (by simp [dedup])
          · show wpAny _ _ _ _ _ _
            refine wpAny_pure ?_
            show wpAny _ _ (ret Value.none) _ _ _
            refine wpAny_pure ⟨rfl, h', tk, rfl, hS', fun b o hb e => ?_⟩
            exact kp b o (Nat.ne_of_lt hb) (by rw [hIz]; exact Nat.ne_of_lt (Nat.lt_succ_of_lt hb)) (Heap.get?_push_of_some _ (Heap.get?_push_of_some _ e))
        · cases r₂ with
          | error e => exact hr₂
          | ok fl₂ =>
            cases fl₂ with
            | ret r =>
              obtain ⟨rfl, h', tk, rfl, hS', hk'⟩ := hr₂
              repeat (any_goals (first | assumption | wp_step))
              refine k _ h' tk (Ext.of_stays fun b o e => hk' b o (Heap.lt_size e) e) ⟨_, rfl, hn, hS'⟩
            | _ => exact hr₂.elim
      | _ => exact hr.elim
end
end Mine
end

-- W17
noncomputable section
open PySem PySem.W PyProof.Rows PySem.SeqAt
namespace Mine
set_option maxRecDepth 100000

def fkBound : Obj := { cls := .type "builtin_function_or_method", data := .fields #[.builtin "dict.fromkeys", .type "dict"] }
theorem fk_type : typeOf (.builtin "dict.fromkeys") = pure (.type "classmethod_descriptor") := by show builtinType _ = _; rw [builtinType_eq_fast]; kernel_rfl
theorem fk_entry : entryFor table "dict.fromkeys" = some Builtin.«dict.fromkeys» := entryFor_of_tree (by kernel_rfl)
theorem fk_entry_loop : entryFor table "dict.fromkeys.loop" = some Builtin.«dict.fromkeys.loop» := entryFor_of_tree (by kernel_rfl)
theorem fk_plain_loop : plainId "dict.fromkeys.loop" = true := by decide +kernel
theorem fk_quiet {as : Args} : (Code.builtin "dict.fromkeys" as).quiet = true := Code.quiet_builtin _ (by decide +kernel)
theorem fk_istype : isType (.type "dict") = pure true := by first | rfl | kernel_rfl | (unfold isType; rw [isSubtype_type]; kernel_rfl)
theorem fk_owner : (kfb_private% "ownerAndName") "dict.fromkeys" = ("dict", "fromkeys") := by first | decide +kernel | kernel_rfl
theorem fk_find : findCls [] (.type "dict") (.type "type") (PySem.Str.ofString "fromkeys") = some (.get (.builtin "classmethod_descriptor.__get__") (.builtin "dict.fromkeys") .none (.type "dict")) := by kernel_rfl
theorem fk_typeCall0 : checkTypeCall "dict" ⟨[], []⟩ = pure () := by kernel_rfl
theorem fk_newCall0 : checkBuiltinCall "dict.__new__" ⟨[.type "dict"], []⟩ = pure () := by kernel_rfl
theorem fk_check {v : Value} : checkBoundCall "dict.fromkeys" ⟨[.type "dict", v], []⟩ = pure () := by first | kernel_rfl | rfl

/-- a dict whose keys are the names, once each -/
def RK (prog : Program) (w : World) (W : List Addr) (odd : Bool) (l : List L3) : P3 := fun h v => ∃ a kvs, v = .ref a ∧ a ∉ W ∧ (a == sysModules) = false ∧ h.DictOf (nmKind odd prog w) a kvs ∧ kvs.map (·.1) = dedup l

section
variable {prog : Program} {w : World} {base h : Heap} {W : List Addr} {n : Nat} {A : Around} {env cenv : Env} {m : Vars} {s : Shared} {E : Value → Shared → Prop} {odd : Bool} {mg mb : Vars}

theorem Glo.big {h : Heap} (G : Glo base mg mb) (k : base.StaysIn h) : sysModules < h.objs.size := by
  obtain ⟨o, es, ep, ho, _⟩ := G.g
  have := Heap.lt_size (k _ _ ho)
  exact Nat.lt_trans (by decide) this
theorem RK.mutD {l : List L3} {h h' : Heap} {v : Value} (r : RK prog w W odd l h v) (x : MutD W h h') : RK prog w W odd l h' v := by
  obtain ⟨a, kvs, rfl, ha, lo, ⟨o, es, ep, ho, hex, hd, rest⟩, hk⟩ := r
  exact ⟨a, kvs, rfl, ha, lo, ⟨o, es, ep, x a o ha ho (fun vs q => by rw [hd] at q; cases q), hex, hd, rest⟩, hk⟩
theorem RK.stable {l : List L3} (hz : ∀ a ∈ zone A, a ∈ W) : Stable A (RK prog w W odd l) := fun h h' v x r => r.mutD (x.mut hz).toD
theorem RK.anti {l : List L3} {W' : List Addr} {h : Heap} {v : Value} (r : RK prog w W odd l h v) (hw : ∀ a ∈ W', a ∈ W ∨ h.get? a = none) : RK prog w W' odd l h v := by
  obtain ⟨a, kvs, rfl, ha, lo, S, hk⟩ := r
  refine ⟨a, kvs, rfl, fun q => (hw a q).elim ha fun e => ?_, lo, S, hk⟩
  obtain ⟨o, _, _, ho, _⟩ := S
  rw [e] at ho; cases ho

theorem fk_get {M : Model} {P : Fin → Shared → Prop} (h : P (.done (.ret (.ref s.heap.objs.size))) { s with heap := s.heap.push fkBound }) :
    wpAny M A (Builtin.«classmethod_descriptor.__get__» ⟨[.builtin "dict.fromkeys", .none, .type "dict"], []⟩) P E s := by
  unfold Builtin.«classmethod_descriptor.__get__»
  refine wpAny_bind (wpAny_of_eq (a := (.builtin "dict.fromkeys", none, some (.type "dict"))) (by first | rfl | kernel_rfl) ?_)
  simp only [fk_owner]
  refine wpAny_bind (wpAny_of_eq (a := .type "dict") rfl ?_)
  refine wpAny_bind (wpAny_of_eq (a := true) fk_istype ?_)
  refine KFB.if_not rfl ?_
  refine wpAny_bind (wpAny_of_eq (a := true) F.kt_sub_dict ?_)
  refine KFB.if_not rfl ?_
  exact wpAny_bind (wpAny_newObj_type (wpAny_pure h))

theorem fk_getm {pl : Sem Bool} {Q : Value × List Value → Shared → Prop}
    (h : Q (.ref s.heap.objs.size, []) { s with heap := s.heap.push fkBound, toks := s.toks + 1 }) :
    wpAny (model prog w) A (getMethod (.type "dict") (PySem.Str.ofString "fromkeys") pl) Q E s := by
  have X : Frag.In [] s.heap := fun p o hp => by cases hp
  have hstub : opaqueClassAbove (.type "dict") = pure none := by unfold opaqueClassAbove; dsimp only; rw [show Manifest.isStub "dict" = false by decide +kernel]; rfl
  have ht : typeOf (.type "dict") = pure (.type "type") := by first | rfl | kernel_rfl
  have L0 : Looks (model prog w) s.heap (typeOf (.type "dict")) (.type "type") := Looks.of_pure ht
  have hg : findIn [] (.type "type") "__getattribute__" = some (some (.builtin "type.__getattribute__")) := type_tga
  unfold getMethod specialOf
  refine wpAny_bind (wpAny_bind (L0.here ((looks_findIn X hg).here ?_)))
  dsimp only
  rw [if_pos canon_tga]
  refine wpAny_bind (wpAny_mono (Q := fun v => Q (v, [])) (E := E) ?_ (fun _ _ z => wpAny_pure z) fun _ _ z => z)
  have LO : Looks (model prog w) s.heap (opaqueClassAbove (.type "dict")) none := Looks.of_pure hstub
  refine cls_open X LO L0 hg (looks_hook X (r := none) (by rfl)) (by show subIn [] _ _ = _; rfl) fk_find ?_
  show wpAny _ _ (holding [.builtin "dict.fromkeys"] (call (.builtin "classmethod_descriptor.__get__") [.builtin "dict.fromkeys", .none, .type "dict"]) >>= fun v => ret v) _ _ _
  exact wpAny_bind (wpAny_holding (wpAny_call_entry KFB.slot_get fk_type KFB.entry_get (fk_get ⟨_, rfl, wpAny_pure (wpAny_pure h)⟩) (KFB.args_get _ _ _)))

theorem fk_callWith {M : Model} {pos : Pos} {u : Addr} {first : List Value} {args : List (Bool × Sem Value)} {Q : Value → Shared → Prop} (hplain : args.any (·.1) = false)
    (h : wpAny M A (evalArgs (.ref u) true args []) (fun x s₁ => s₁.heap.get? u = some fkBound ∧ wpAny M A (call (.ref u) (first ++ x.pos) x.kw) Q E s₁) E s) : wpAny M A (callWith pos (.ref u) first args []) Q E s := by
  unfold callWith
  refine wpAny_bind (wpAny_holding (wpAny_mono h (fun x s₁ h₁ => wpAny_bind (wpAny_standAt ?_)) fun _ _ x => x))
  obtain ⟨ho, hcall⟩ := h₁
  simp only [hplain, List.any_nil, Bool.or_false]
  refine wpAny_bind (m := keeperOf (.ref u)) ?_
  unfold keeperOf
  refine wpAny_bind (wpAny_load ho ?_)
  simp only [fkBound, show (Value.type "builtin_function_or_method" != Value.type "method") = true by decide, show (Value.type "builtin_function_or_method" == Value.type "builtin_function_or_method" || Value.type "builtin_function_or_method" == Value.type "method-wrapper") = true by decide, if_true]
  refine wpAny_pure ?_
  exact wpAny_bind (wpAny_mono hcall (fun r s₂ hr => wpAny_bind (wpAny_holding (wpAny_point (wpAny_pure hr)))) fun _ _ x => x)

theorem fk_new {Q : Value → Shared → Prop} (h : Q (.ref s.heap.objs.size) { s with heap := s.heap.push { cls := .type "dict", data := .dict #[] } }) :
    wpAny (model prog w) A (call (.type "dict") []) Q E s := by
  refine callType_codes (Q₁ := fun obj s₁ => obj = .ref s.heap.objs.size ∧ s₁ = { s with heap := s.heap.push { cls := .type "dict", data := .dict #[] } }) F.kt_called_dict fk_typeCall0 F.entry_dict_init ?_ ?_
  · refine codeAny_call_builtin F.kt_plain_dict_new F.kt_entry_dict_new (wpAny_of_eq fk_newCall0 ?_)
    have hsub := F.kt_sub_dict
    have hmro := F.kt_mro_dict
    have hh : (fun (obj : Value) s₁ => obj = .ref s.heap.objs.size ∧ s₁ = { s with heap := s.heap.push { cls := .type "dict", data := .dict #[] } }) (.ref s.heap.objs.size) { s with heap := s.heap.push { cls := .type "dict", data := .dict #[] } } := ⟨rfl, rfl⟩
    obtain ⟨hp, g, d, tk, os⟩ := s
    unfold Builtin.«dict.__new__»
    wp_walk
    exact hh
  · rintro obj s₁ ⟨rfl, rfl⟩
    have hT : Shared.TypeIs { s with heap := s.heap.push { cls := .type "dict", data := .dict #[] } } (.ref s.heap.objs.size) "dict" := ⟨_, Heap.get?_push_size _ rfl, rfl⟩
    refine ⟨hT, F.args_dict_init_1 _, ?_⟩
    unfold Builtin.«dict.__init__»
    refine wpAny_bind ?_
    unfold Builtin.Dict.selfAndRest
    refine wpAny_bind (wpAny_notOrdered_dict hT ?_)
    show wpAny _ _ (pure (s.heap.objs.size, ([] : List Value))) _ _ _
    refine wpAny_pure ?_
    show wpAny _ _ (Builtin.Dict.addKeywords s.heap.objs.size [] >>= _) _ _ _
    exact wpAny_bind (wpAny_pure (wpAny_pure ⟨rfl, h⟩))

theorem stored_keys (kvs : List (L3 × Value)) (k : L3) (v : Value) : (stored kvs k v).map (·.1) = dstep (kvs.map (·.1)) k := by
  unfold stored dstep
  by_cases hk : k ∈ kvs.map (·.1)
  · have : (kvs.any fun kv => decide (kv.1 = k)) = true := by
      rw [List.any_eq_true]
      obtain ⟨p, hp, e⟩ := List.mem_map.mp hk
      exact ⟨p, hp, by simpa using e⟩
    rw [if_pos this, if_pos hk, List.map_map]
    refine List.map_congr_left fun p _ => ?_
    simp only [Function.comp]
    split <;> rfl
  · have : ¬ (kvs.any fun kv => decide (kv.1 = k)) = true := by
      rw [List.any_eq_true]
      rintro ⟨p, hp, e⟩
      exact hk (List.mem_map.mpr ⟨p, hp, by simpa using e⟩)
    rw [if_neg this, if_neg hk]; simp

theorem fk_loop {I T : Addr} {fp : List Addr} {P : Nat → Value → Prop} {St : Nat → Heap → Prop} {l : List L3} (Wk : Walks prog w A.in1 I fp [I] l.length P St) (hT : T ∉ fp) (hTI : T ≠ I)
    (hP : ∀ i v, P i v → ∃ x, l[i]? = some x ∧ Rep [] h v (nmD odd x)) {R' : Result → Shared → Prop} :
    ∀ (k i : Nat) (s : Shared) (kvs : List (L3 × Value)), l.length - i = k → i ≤ l.length → St i s.heap → s.heap.DictOf (nmKind odd prog w) T kvs → kvs.map (·.1) = dedup (l.take i) →
      (∀ h' tk kvs', h'.DictOf (nmKind odd prog w) T kvs' → kvs'.map (·.1) = dedup l → (∀ b o, b ≠ T → b ≠ I → s.heap.get? b = some o → h'.get? b = some o) → R' (.ok (.ret (.ref T))) { s with heap := h', toks := tk }) →
      codeAny (model prog w) A (.builtin "dict.fromkeys.loop" ⟨[.ref T, .ref I, .none], []⟩) R' s := by
  intro k
  induction k with
  | zero =>
    intro i s kvs hk hi hst hS hkv hR
    have hin : i = l.length := by omega
    subst hin
    refine codeAny_builtin fk_entry_loop ?_
    rw [Around.under_plainId fk_plain_loop _]
    show wpAny _ A.in1 (pyNext (.ref I) >>= _) _ _ s
    refine wpAny_bind (Wk.done s _ _ hst fun h' tk hm => ?_)
    show wpAny _ A.in1 (ret (Value.ref T)) _ _ _
    refine wpAny_pure (hR h' tk kvs ?_ (by rw [hkv, List.take_length]) fun b o hb hbI e => hm b o (by simpa using hbI) e)
    obtain ⟨o, es, ep, ho, rest⟩ := hS
    exact ⟨o, es, ep, hm T _ (by simpa using hTI) ho, rest⟩
  | succ k ih =>
    intro i s kvs hk hi hst hS hkv hR
    have hlt : i < l.length := by omega
    refine codeAny_builtin fk_entry_loop ?_
    rw [Around.under_plainId fk_plain_loop _]
    show wpAny _ A.in1 (pyNext (.ref I) >>= _) _ _ s
    refine wpAny_bind (Wk.item i s _ _ hlt hst fun v h' tk hPv hst' hm => ?_)
    obtain ⟨x, hx, rx⟩ := hP i v hPv
    have hS' : h'.DictOf (nmKind odd prog w) T kvs := by
      obtain ⟨o, es, ep, ho, rest⟩ := hS
      exact ⟨o, es, ep, hm T _ (by simpa using hTI) ho, rest⟩
    show wpAny _ A.in1 (typeOf (.ref T) >>= _) _ _ _
    refine wpAny_bind (wpAny_typeOf hS'.typeIs ?_)
    rw [if_pos (by decide)]
    refine wpAny_bind (wpAny_of_eq (a := T) rfl (wpAny_bind ?_))
    have hlen : kvs.length ≤ 3 := by
      have e := congrArg List.length hkv
      rw [List.length_map] at e
      have := dedup_len (l.take i)
      omega
    refine wpAny_holding (wpAny_dictSet_pairs (knd := nmKind odd prog w) (s := { s with heap := h', toks := tk }) (nm_is rx) hS' (fun h2 hd2 hsb => ?_) (by unfold sizeLine; omega))
    refine wpAny_pure ⟨plainId_quiet fk_plain_loop _, ih (i + 1) { s with heap := h2, toks := tk + 1 } _ (by omega) hlt (Wk.frame _ _ _ hst' fun b hb o e => ?_) hd2 ?_ fun h3 tk3 kv3 hS4 hk4 kp => ?_⟩
    · exact (hsb.2 b fun q => hT (q ▸ hb)).trans e
    · rw [stored_keys, hkv, dedup_take hx]
    · exact hR h3 tk3 kv3 hS4 hk4 fun b o hb hbI e => kp b o hb hbI ((hsb.2 b hb).trans (hm b o (by simpa using hbI) e))

theorem fk_call {l : List L3} {x : Addr} {v : Value} (hh : A.handled = none) (hbig : sysModules < s.heap.objs.size) (hn : s.heap.objs.size ∉ W) (hx : s.heap.get? x = some fkBound) (ra : R W (dW odd l) s.heap v) : TE (model prog w) A s (call (.ref x) [v]) (RK prog w W odd l) := by
  cases ra with
  | list ha hl r =>
    rename_i la vs
    intro Q E k
    have hlen : vs.length = l.length := by rw [r.length]; simp
    refine wpAny_call (codeAny_of_tree ?_)
    show wpAny _ A.in1 (callAny (.ref x) ⟨[.ref la], []⟩) _ _ s
    simp only [callAny]
    refine wpAny_bind (wpAny_load hx ?_)
    simp only [fkBound, show (Value.type "builtin_function_or_method" == Value.type "method" || Value.type "builtin_function_or_method" == Value.type "builtin_function_or_method" || Value.type "builtin_function_or_method" == Value.type "method-wrapper") = true by decide, if_true]
    refine KFB.if_so (by decide) ?_
    refine wpAny_bind (wpAny_of_eq (a := ()) fk_check ?_)
    refine wpAny_bind (wpAny_pure (wpAny_pure ?_))
    refine ⟨fk_quiet, codeAny_builtin fk_entry ?_⟩
    unfold Builtin.«dict.fromkeys»
    refine wpAny_bind (wpAny_of_eq (a := true) fk_istype ?_)
    refine KFB.if_not rfl ?_
    refine wpAny_bind (wpAny_of_eq (a := true) F.kt_sub_dict ?_)
    refine KFB.if_not rfl ?_
    refine KFB.if_not rfl ?_
    refine wpAny_bind (wpAny_rule (wpAny_bind (wpAny_pure ?_)))
    refine wpAny_bind (fk_new (wpAny_holding ?_))
    generalize hso : ({ cls := .type "dict", data := .dict #[] } : Obj) = so
    have hD : (s.heap.push so).DictOf (nmKind odd prog w) s.heap.objs.size [] := by rw [← hso]; exact Heap.DictOf.new _
    have hl1 : (s.heap.push so).IsList la vs.toArray := by
      obtain ⟨nl, hol⟩ := hl
      exact ⟨_, Heap.get?_push_of_some _ hol, rfl, nl, rfl⟩
    have Tl : Shared.TypeIs { s with heap := s.heap.push so } (.ref la) "list" := hl1.typeIs
    refine wpAny_bind (wpAny_typeOf Tl ?_)
    refine wpAny_bind (wpAny_typeOf hD.typeIs ?_)
    refine KFB.if_not (by decide) ?_
    refine wpAny_bind (wpAny_typeOf hD.typeIs ?_)
    refine KFB.if_not (by decide) ?_
    refine wpAny_bind (wpAny_pyIter_list hl1 ?_)
    refine wpAny_pure ⟨plainId_quiet fk_plain_loop _, ?_⟩
    have hlS : la < s.heap.objs.size := by obtain ⟨nl, hol⟩ := hl; exact Heap.lt_size hol
    have hIz : (s.heap.push so).objs.size = s.heap.objs.size + 1 := Heap.size_push ..
    have hneI : la ≠ (s.heap.push so).objs.size := by rw [hIz]; exact Nat.ne_of_lt (Nat.lt_succ_of_lt hlS)
    have hTI : s.heap.objs.size ≠ (s.heap.push so).objs.size := by rw [hIz]; exact Nat.ne_of_lt (Nat.lt_succ_self _)
    have hSf : s.heap.objs.size ∉ [(s.heap.push so).objs.size, la] := by
      simp only [List.mem_cons, List.mem_singleton, List.not_mem_nil, or_false, not_or]
      exact ⟨hTI, Nat.ne_of_gt hlS⟩
    have hh3 : A.in1.handled = none := by simp [hh]
    have Wk := Walks.list (prog := prog) (w := w) (A := A.in1) hh3 (s.heap.push so).objs.size la hneI vs.toArray
    have esz : vs.toArray.size = l.length := by simp [hlen]
    rw [esz] at Wk
    refine fk_loop (h := s.heap) (odd := odd) (l := l) Wk hSf hTI (fun i v hv => ?_) (l.length - 0) 0 _ [] (by omega) (Nat.zero_le _)
      ⟨⟨_, Heap.get?_push_size _ rfl, rfl, rfl⟩, (hl1.push _)⟩ (hD.push _) (by simp [dedup]) fun h' tk kvs' hS' hk' kp => ?_
    · have hv' : vs[i]? = some v := by simpa using hv
      obtain ⟨x, hx, rx⟩ := reps_map r hv'
      exact ⟨x, hx, Rep.anti (W' := []) (fun a ha => absurd ha (by simp)) rx⟩
    · refine k _ h' tk (Ext.of_stays fun b o e => ?_) ⟨_, kvs', rfl, hn, ?_, hS', hk'⟩
      · have hb := Heap.lt_size e
        exact kp b o (Nat.ne_of_lt hb) (by rw [hIz]; exact Nat.ne_of_lt (Nat.lt_succ_of_lt hb)) (Heap.get?_push_of_some _ (Heap.get?_push_of_some _ e))
      · have := Nat.ne_of_gt hbig
        simpa using this

/-- list(d) -/
theorem te_list_keys {l : List L3} {v : Value} (hh : A.handled = none) (hn : s.heap.objs.size ∉ W) (ra : RK prog w W odd l s.heap v) : TE (model prog w) A s (call (.type "list") [v]) (R W (dW odd (dedup l))) := by
  obtain ⟨a, kvs, rfl, ha, lo, ⟨o, es, ep, ho, rest⟩, hk⟩ := ra
  intro Q E k
  have hlen : kvs.length ≤ 3 := by
    have e := congrArg List.length hk
    rw [List.length_map] at e
    have := dedup_len l
    omega
  have hat : s.heap.DictAt (nmKind odd prog w) a kvs ep := ⟨o, es, ho, rest⟩
  refine kdl_call (kdl_dict lo) hh hat (by unfold sizeLine; omega) fun h' tk acc c' hkeep hD hacc => ?_
  refine k _ h' tk (Ext.of_stays hkeep) ?_
  have : acc = acc.toList.toArray := by simp
  rw [this] at hD
  refine .list hn ⟨_, hD⟩ ?_
  obtain ⟨h1, h2⟩ := hacc
  have key : ∀ (vs : List Value) (kvs : List (L3 × Value)), vs.length = kvs.length → (∀ (i : Nat) (v : Value), vs[i]? = some v → ∃ k x, kvs[i]? = some (k, x) ∧ (nmKind odd prog w).is k v = true) → Reps W h' vs ((kvs.map (·.1)).map (nmD odd)) := by
    intro vs
    induction vs with
    | nil => intro kvs e _; cases kvs with
      | nil => exact .nil
      | cons _ _ => simp at e
    | cons v vs ih => intro kvs e hi; cases kvs with
      | nil => simp at e
      | cons p kvs =>
        obtain ⟨kk, xx, e0, e1⟩ := hi 0 v rfl
        simp only [List.getElem?_cons_zero, Option.some.injEq] at e0
        subst e0
        exact .cons (nm_of_is e1) (ih kvs (by simpa using e) fun i v' hv' => by simpa using hi (i + 1) v' (by simpa using hv'))
  have := key acc.toList kvs (by simpa using h1) fun i v hv => h2 i v (by simpa using hv)
  rw [hk] at this
  exact this

/-- dict.fromkeys(params) -/
theorem pe_fromkeys {l : List L3} {x dx : Str} {dp xp apos pos : Pos} {e : Expr} (F : Fx base W n A env h m) (G : Glo base mg mb) (hd : PE (model prog w) A env h (.Name dx dp) (V (.type "dict"))) (he : PE (model prog w) A env h e (R W (dW odd l)))
    (hbase : attributeBase (.Name dx dp) (PySem.Str.ofString "fromkeys") env (eval (.Name dx dp) env) = eval (.Name dx dp) env)
    (hfew : ((backTo pos (starEach [e] env)).all (fun x => !x.1) && (backToKw pos (keywordEach [] env)).all (fun x => x.1.isSome)
      && decide ([e].length + ([] : List Keyword).length + (if ([] : List Keyword).isEmpty then 0 else 1) < 30)) = true)
    (hline : (apos.endLine == pos.line) = true)
    (hst : starEach [e] env = (false, eval e env) :: starEach [] env) : PE (model prog w) A env h (.Call (.Attribute (.Name dx dp) (PySem.Str.ofString "fromkeys") apos) [e] [] pos) (RK prog w W odd l) := by
  intro s hs Q E k
  rw [arm_eval_Call, hbase]
  refine wpAny_bind (hd s hs _ _ fun v h1 t1 x1 p1 => ?_)
  cases p1
  refine wpAny_bind (wpAny_standAt ?_)
  have hform : methodCallForm ([e].length + ([] : List Keyword).length) (backTo pos (starEach [e] env)) (backToKw pos (keywordEach [] env)) = true := hfew
  have hpos : methodCallPos true (.Name dx dp) env apos pos = pure pos := by unfold methodCallPos; simp [hline]
  unfold methodCall
  rw [hform]
  refine wpAny_bind (wpAny_holding (fk_getm ?_))
  refine wpAny_bind (wpAny_of_eq hpos ?_)
  have F1 := F.ext (hs.trans x1)
  have hx2 : Ext (zone A) h1 (h1.push fkBound) := Ext.push _ _
  have F2 := F1.ext hx2
  have PEa : PEs (model prog w) A env h pos [e] [R W (dW odd l)] := PEs.cons he (F.stable _) (PEs.nil) hst
  have hu : (h1.push fkBound).get? h1.objs.size = some fkBound := Heap.get?_push_size _ rfl
  have hu' : h1.objs.size ∉ zone A := fun q => by
    obtain ⟨o, ho⟩ := F1.live _ (F1.zoneW _ q)
    exact absurd (Heap.lt_size ho) (Nat.lt_irrefl _)
  have ha' := PEa { s with heap := h1.push fkBound, toks := t1 + 1 } ((hs.trans x1).trans hx2) (fun vs s₁ => s₁.heap.get? h1.objs.size = some fkBound ∧ wpAny (model prog w) A (call (.ref h1.objs.size) ([] ++ vs)) Q E s₁) E fun vs h3 t3 x3 p3 => by
    have F3 := F2.ext x3
    have hk := x3.keep hu' hu
    refine ⟨hk, ?_⟩
    match vs, p3 with
    | [v], p3 =>
    refine fk_call (s := { s with heap := h3, toks := t3 }) F.handled (G.big F3.stays) ((F.cx.ext (((hs.trans x1).trans hx2).trans x3)).new) hk p3.1 Q E fun v' h4 t4 x4 p4 => k v' h4 t4 (((x1.trans hx2).trans x3).trans x4) p4
  rw [hst] at ha' ⊢
  exact fk_callWith (by show (false || (backTo pos (starEach [] env)).any (·.1)) = false; rfl) (Calls.evalArgs_plain ha')
end
end Mine
end

-- W18
noncomputable section
open PySem PySem.W PyProof.Rows PySem.SeqAt
namespace Mine

def D.atom : D → Bool
  | .list _ => false
  | .tuple _ => false
  | _ => true
theorem Rep.atom {W W' : List Addr} {h h' : Heap} {v : Value} {d : D} (r : Rep W h v d) (hd : d.atom = true) : Rep W' h' v d := by
  cases r with
  | none => exact .none
  | bool b => exact .bool b
  | int i t => exact .int i t
  | str i t => exact .str i t
  | bytes i t => exact .bytes i t
  | list _ _ _ => cases hd
  | tuple _ _ _ => cases hd
theorem Reps.atoms {W W' : List Addr} {h h' : Heap} {vs : List Value} {ds : List D} (r : Reps W h vs ds) (hd : ∀ d ∈ ds, d.atom = true) : Reps W' h' vs ds := by
  induction vs generalizing ds with
  | nil => cases r; exact .nil
  | cons v vs ih => cases r with | cons a b => exact .cons (a.atom (hd _ (.head _))) (ih b fun d q => hd d (.tail _ q))
theorem nmD_atom (odd : Bool) (k : L3) : (nmD odd k).atom = true := by cases odd <;> rfl
theorem Reps.names {odd : Bool} {l : List L3} {W W' : List Addr} {h h' : Heap} {vs : List Value} (r : Reps W h vs (l.map (nmD odd))) : Reps W' h' vs (l.map (nmD odd)) :=
  r.atoms fun d hd => by obtain ⟨k, _, rfl⟩ := List.mem_map.mp hd; exact nmD_atom odd k
/-- pairs of atoms lie apart from a row -/
theorem Reps.pairs_own {W : List Addr} {h : Heap} {L : Addr} {a : Array Value} (hl : h.PlainList L a) {vs : List Value} {ds : List D} (r : Reps W h vs ds) (hd : ∀ d ∈ ds, ∃ l, d = .tuple l ∧ ∀ x ∈ l, D.atom x = true) : Reps (L :: W) h vs ds := by
  induction vs generalizing ds with
  | nil => cases r; exact .nil
  | cons v vs ih => cases r with
    | cons x y =>
      refine .cons ?_ (ih y fun d q => hd d (.tail _ q))
      obtain ⟨l, rfl, hl'⟩ := hd _ (.head _)
      cases x with
      | tuple ha ht r' =>
        refine .tuple (fun q => ?_) ht (r'.atoms hl')
        rcases List.mem_cons.mp q with q | q
        · subst q
          obtain ⟨_, e1⟩ := hl
          obtain ⟨o, e2, hc, _⟩ := ht
          rw [e1] at e2; cases e2; exact absurd (show (Value.type "list" : Value) = .type "tuple" from hc) (by decide)
        · exact ha q

section
variable {prog : Program} {w : World} {base h : Heap} {W : List Addr} {n : Nat} {A : Around} {env : Env} {m : Vars} {s : Shared} {E : Value → Shared → Prop} {Q : Flow → Shared → Prop}

theorem Fx.none_of {L : Addr} (F : Fx base W n A env h m) (e : h.get? L = none) : base.get? L = none := by
  cases q : base.get? L with
  | none => rfl
  | some o => have := F.stays _ _ q; rw [e] at this; cases this
theorem Fx.notW {L : Addr} (F : Fx base W n A env h m) (e : h.get? L = none) : L ∉ W := fun q => by obtain ⟨o, e'⟩ := F.live _ q; rw [e] at e'; cases e'
theorem Fx.own {L : Addr} (F : Fx base W n A env h m) (hb : base.get? L = none) (hl : ∃ o, h.get? L = some o) : Fx base (L :: W) n A env h m :=
  { F with
    zoneW := fun a ha => .tail _ (F.zoneW a ha)
    fresh := fun a ha => (List.mem_cons.mp ha).elim (fun q => q ▸ hb) (F.fresh a)
    live := fun a ha => (List.mem_cons.mp ha).elim (fun q => q ▸ hl) (F.live a)
    inW := .tail _ F.inW
    cells := fun y hy => let ⟨c, a, b, d⟩ := F.cells y hy; ⟨c, a, .tail _ b, d⟩
    cellsW := fun c hc => .tail _ (F.cellsW c hc) }
theorem Fx.back {W' : List Addr} {n0 : Nat} {h0 : Heap} {m0 : Vars} (F : Fx base W' n A env h m) (F0 : Fx base W n0 A env h0 m0) (hs : ∀ a ∈ W, a ∈ W') : Fx base W n A env h m :=
  { F with
    zoneW := F0.zoneW
    fresh := fun a ha => F.fresh a (hs a ha)
    live := fun a ha => F.live a (hs a ha)
    inW := F0.inW
    cells := fun y hy => let ⟨c, a, b, d⟩ := F.cells y hy; ⟨c, a, F0.cellsW c (mem_cells a), d⟩
    cellsW := F0.cellsW }

/-- a value not there before -/
def N0 (h0 : Heap) (P : P3) : P3 := fun h v => (∃ L, v = .ref L ∧ h0.get? L = none) ∧ P h v
theorem Ext.none {Z : List Addr} {h h' : Heap} (x : Ext Z h h') {L : Addr} (e : h'.get? L = none) : h.get? L = none := by
  cases q : h.get? L with
  | none => rfl
  | some o => obtain ⟨sl, e', _⟩ := x _ _ q; rw [e] at e'; cases e'
theorem new_none (h : Heap) : h.get? h.objs.size = none := Heap.get?_none_of_le (Nat.le_refl _)
theorem pe_list_new {es : List Expr} {pos : Pos} {ds : List D} (F : Fx base W n A env h m) (he : PEs (model prog w) A env h pos es (Rs W ds)) (hz : ds.length ≤ sizeLine) : PE (model prog w) A env h (.List es pos) (N0 h (R W (.list ds))) := by
  intro s hs Q E k
  refine wpAny_List (he s hs _ _ fun vs h1 t1 x1 p1 => ?_)
  have r := allP_reps p1
  exact ⟨by rw [r.length]; exact hz, k _ _ _ (x1.trans (Ext.push _ _)) ⟨⟨_, rfl, (hs.trans x1).none (new_none _)⟩, Rep.newList (s := { s with heap := h1, toks := t1 }) (new_notin F (hs.trans x1)) r⟩⟩
theorem te_copy_new {ds : List D} {v : Value} (hn : s.heap.objs.size ∉ W) (ra : R W (.list ds) s.heap v) (hz : ds.length ≤ sizeLine) : TE (model prog w) A s (call (.type "list") [v]) (N0 s.heap (R W (.list ds))) := by
  cases ra with
  | list ha hl r =>
    rename_i a vs
    intro Q E k
    obtain ⟨n1, e1⟩ := hl
    refine call_list_seq a (.inl rfl) e1 rfl rfl (fun h' c' hk e => ?_) (by simp [r.length]; exact hz)
    exact k _ h' s.toks (Ext.of_stays hk) ⟨⟨_, rfl, new_none _⟩, .list hn ⟨c', e⟩ (r.mut fun b o _ q => hk b o q)⟩
theorem te_list_keys_new {odd : Bool} {l : List L3} {v : Value} (hh : A.handled = none) (hn : s.heap.objs.size ∉ W) (ra : RK prog w W odd l s.heap v) : TE (model prog w) A s (call (.type "list") [v]) (N0 s.heap (R W (dW odd (dedup l)))) := by
  obtain ⟨a, kvs, rfl, ha, lo, D, hk⟩ := ra
  -- the same, with all old addresses but the dict's own kept out
  have hW : s.heap.objs.size ∉ W ++ (List.range s.heap.objs.size).filter (fun b => b != a) := by
    simp only [List.mem_append, List.mem_filter, List.mem_range, not_or]
    exact ⟨hn, fun q => Nat.lt_irrefl _ q.1⟩
  have ra' : RK prog w (W ++ (List.range s.heap.objs.size).filter (fun b => b != a)) odd l s.heap (.ref a) := by
    refine ⟨a, kvs, rfl, ?_, lo, D, hk⟩
    simp only [List.mem_append, List.mem_filter, not_or]
    exact ⟨ha, fun q => by simp at q⟩
  intro Q E k
  refine te_list_keys hh hW ra' Q E fun v h' tk x r => k v h' tk x ⟨?_, Rep.anti (fun b hb => .inl (List.mem_append_left _ hb)) r⟩
  cases r with
  | list hb hl rr =>
    rename_i b vs
    refine ⟨b, rfl, ?_⟩
    cases q : s.heap.get? b with
    | none => rfl
    | some o =>
      have hlt := Heap.lt_size q
      have hba : b = a := by
        refine Classical.byContradiction fun hne => hb ?_
        simp only [List.mem_append, List.mem_filter, List.mem_range]
        exact .inr ⟨hlt, by simpa using hne⟩
      subst hba
      obtain ⟨o', es, ep, ho', _, hd', _⟩ := D
      obtain ⟨sl, e1, _⟩ := x _ _ ho'
      obtain ⟨c, e2⟩ := hl
      rw [e1] at e2
      have := congrArg (fun o => o.map (·.data)) e2
      simp [hd'] at this

/-- x = a new row, owned from now on -/
theorem ex_own {x : Str} {px pos : Pos} {e : Expr} {rest : List Stmt} {ds : List D} (F : Fx base W n A env s.heap m) (he : PE (model prog w) A env s.heap e (N0 s.heap (R W (.list ds)))) (hk : env.kindOf x = some .local ∨ env.kindOf x = some .cell)
    (k : ∀ L vs h2 tk, s.heap.get? L = none → L ∉ W → h2.PlainList L vs.toArray → Reps W h2 vs ds → ExtB (zone A) (blocks env) s.heap h2 → Fx base W n A env h2 (upd m x (.ref L)) → Fx base (L :: W) n A env h2 (upd m x (.ref L)) → wpAny (model prog w) A (execs rest env) Q E { s with heap := h2, toks := tk })
    (hs : swapsWith e (some (.Name x px)) pos.line env = pure false := by rfl) : wpAny (model prog w) A (execs (.Assign [.Name x px] e pos :: rest) env) Q E s :=
  ex_assign F he hk (fun v h1 h2 tk x1 p1 m1 m2 F2 => by
    obtain ⟨⟨L, rfl, hL⟩, p2⟩ := p1
    have p3 := Rep.mut (m1.mono F.blocksW) p2
    cases p3 with
    | list ha hl r =>
      exact k L _ h2 tk hL ha hl r (x1.toB.trans (ExtB.of_keep fun b o hb e => m1 b o hb e)) F2 (F2.own (F.none_of hL) (let ⟨_, e⟩ := hl; ⟨_, e⟩))) hs
theorem Rep.into {L : Addr} {h h2 : Heap} {v : Value} {d : D} (r : Rep W h v d) (hL : h.get? L = Option.none) (mu : Mut (L :: W) h h2) : Rep (L :: W) h2 v d :=
  Rep.mut mu (Rep.anti (fun a ha => (List.mem_cons.mp ha).elim (fun q => .inr (q ▸ hL)) .inl) r)
theorem Rep.out {L : Addr} {h : Heap} {v : Value} {d : D} (r : Rep (L :: W) h v d) : Rep W h v d := Rep.anti (fun a ha => .inl (.tail _ ha)) r
theorem Reps.out {L : Addr} {h : Heap} {vs : List Value} {ds : List D} (r : Reps (L :: W) h vs ds) : Reps W h vs ds := Reps.anti (fun a ha => .inl (.tail _ ha)) r
theorem AccL.out {L : Addr} {h : Heap} {ds : List D} (a : AccL (L :: W) h L ds) (hL : L ∉ W) : Rep W h (.ref L) (.list ds) := let ⟨vs, p, r⟩ := a; .list hL p r.out

/-- a method of a row that is owned -/
theorem on_list {x name : Str} {xp apos pos : Pos} {e : Expr} {es : List Expr} {L : Addr} {vs : Array Value} {id : String} {Ps : List P3} {Q : Value → Shared → Prop} (he : PE (model prog w) A env s.heap (.Name x xp) (V (.ref L))) (hp : s.heap.PlainList L vs) (hLz : L ∉ zone A)
    (slot : Slot "list" name id) (hty : typeOf (.builtin id) = pure (.type "method_descriptor")) (ha : PEs (model prog w) A env s.heap pos (e :: es) Ps)
    (k : ∀ vs' h1 t1, Ext (zone A) s.heap h1 → AllP Ps h1 vs' → wpAny (model prog w) A (call (.builtin id) (.ref L :: vs')) Q E { s with heap := h1, toks := t1 })
    (hbase : attributeBase (.Name x xp) name env (eval (.Name x xp) env) = eval (.Name x xp) env := by rfl)
    (hfew : ((backTo pos (starEach (e :: es) env)).all (fun x => !x.1) && (backToKw pos (keywordEach [] env)).all (fun x => x.1.isSome)
      && decide ((e :: es).length + ([] : List Keyword).length + (if ([] : List Keyword).isEmpty then 0 else 1) < 30)) = true := by rfl)
    (hline : (apos.endLine == pos.line) = true := by rfl)
    (hst : starEach (e :: es) env = (false, eval e env) :: starEach es env := by rfl) (hpl : (backTo pos (starEach es env)).any (·.1) = false := by rfl) :
    wpAny (model prog w) A (eval (.Call (.Attribute (.Name x xp) name apos) (e :: es) [] pos) env) Q E s := by
  refine wpAny_Call_method hbase hfew hline F.plainAttrs_list slot hty (he s (Ext.refl _ _) _ _ fun v h1 t1 x1 p1 => ?_)
  cases p1
  have hp1 : h1.PlainList L vs := hp.at fun o e => x1.keep hLz e
  obtain ⟨c, e1⟩ := hp1
  refine ⟨⟨_, e1, rfl⟩, fun a q => by cases q; exact ⟨_, e1, rfl⟩, ?_⟩
  have ha' := ha { s with heap := h1, toks := t1 } x1 (fun vs s₁ => wpAny (model prog w) A (call (.builtin id) ([.ref L] ++ vs)) Q E s₁) E fun vs h2 t2 x2 p2 => k vs h2 t2 (x1.trans x2) p2
  rw [hst] at ha' ⊢
  exact Calls.callWith_builtin (by show (false || (backTo pos (starEach es env)).any (·.1)) = false; rw [hpl]; rfl) (Calls.evalArgs_plain ha')
theorem on_list0 {x name : Str} {xp apos pos : Pos} {L : Addr} {vs : Array Value} {id : String} {Q : Value → Shared → Prop} (he : PE (model prog w) A env s.heap (.Name x xp) (V (.ref L))) (hp : s.heap.PlainList L vs) (hLz : L ∉ zone A)
    (slot : Slot "list" name id) (hty : typeOf (.builtin id) = pure (.type "method_descriptor"))
    (k : ∀ h1 t1, Ext (zone A) s.heap h1 → wpAny (model prog w) A (call (.builtin id) [.ref L]) Q E { s with heap := h1, toks := t1 })
    (hbase : attributeBase (.Name x xp) name env (eval (.Name x xp) env) = eval (.Name x xp) env := by rfl)
    (hline : (apos.endLine == pos.line) = true := by rfl) :
    wpAny (model prog w) A (eval (.Call (.Attribute (.Name x xp) name apos) [] [] pos) env) Q E s := by
  refine wpAny_Call_method hbase rfl hline F.plainAttrs_list slot hty (he s (Ext.refl _ _) _ _ fun v h1 t1 x1 p1 => ?_)
  cases p1
  have hp1 : h1.PlainList L vs := hp.at fun o e => x1.keep hLz e
  obtain ⟨c, e1⟩ := hp1
  refine ⟨⟨_, e1, rfl⟩, fun a q => by cases q; exact ⟨_, e1, rfl⟩, ?_⟩
  exact callWith_method0 (k h1 t1 x1)

theorem plain_map {l : Addr} {items : Array Value} {c : Nat} {h : Heap} (f : Array Value → Array Value) (e : h.get? l = some { cls := .type "list", dict := none, data := .seq items c, slots := #[] }) : (h.update l (Obj.mapSeq f)).PlainList l (f items) := by
  have := Heap.get?_update_self (Obj.mapSeq f) e rfl
  exact ⟨_, this⟩

/-- xs.append(e), xs owned -/
theorem ex_append {x : Str} {xp apos pos epos : Pos} {e : Expr} {rest : List Stmt} {L : Addr} {ds : List D} {d : D} (F : Fx base W n A env s.heap m) (hx : PE (model prog w) A env s.heap (.Name x xp) (V (.ref L))) (hL : L ∈ W) (hLb : L ∉ blocks env) (hLz : L ∉ zone A)
    (acc : AccL W s.heap L ds) (he : PE (model prog w) A env s.heap e (R W d)) (hz : ds.length ≤ sizeLine)
    (k : ∀ h2 tk, ExtB (zone A) [L] s.heap h2 → AccL W h2 L (ds ++ [d]) → Fx base W n A env h2 m → wpAny (model prog w) A (execs rest env) Q E { s with heap := h2, toks := tk })
    (hbase : attributeBase (.Name x xp) "append" env (eval (.Name x xp) env) = eval (.Name x xp) env := by rfl)
    (hfew : ((backTo pos (starEach [e] env)).all (fun x => !x.1) && (backToKw pos (keywordEach [] env)).all (fun x => x.1.isSome)
      && decide ([e].length + ([] : List Keyword).length + (if ([] : List Keyword).isEmpty then 0 else 1) < 30)) = true := by rfl)
    (hline : (apos.endLine == pos.line) = true := by rfl) (hst : starEach [e] env = (false, eval e env) :: starEach [] env := by rfl)
    (hi : interactive env = false := by rfl) (hs : swapsWith (.Call (.Attribute (.Name x xp) "append" apos) [e] [] pos) none epos.line env = pure false := by rfl) :
    wpAny (model prog w) A (execs (.Expr (.Call (.Attribute (.Name x xp) "append" apos) [e] [] pos) epos :: rest) env) Q E s := by
  obtain ⟨vs, p, r⟩ := acc
  refine wpAny_execs_cons (wpAny_Expr (on_list hx p hLz PySem.slot_list_append PySem.F.type_list_append (PEs.cons he (F.stable _) PEs.nil hst) (fun vs' h1 t1 x1 p1 => ?_) hbase hfew hline hst) hi hs)
  match vs', p1 with
  | [v], p1 =>
  have pl1 : h1.PlainList L vs.toArray := p.at fun o e => x1.keep hLz e
  refine wpAny_list_append_plain (s := { s with heap := h1, toks := t1 }) pl1 (fun h2 p2 hs2 => ?_) (by simp [r.length]; exact hz)
  have mu : Mut W h1 h2 := Mut.of_same hs2 hL
  refine k h2 t1 (x1.toB.trans (ExtB.of_keep fun b o hb e => (hs2.2 b fun q => hb (by simp [q])).trans e)) ⟨vs ++ [v], by simpa using p2, ((r.mut (x1.mut F.zoneW)).mut mu).append (.cons (Rep.mut mu p1.1) .nil)⟩ ?_
  exact (F.ext x1).wrote hs2 hL hLb hLz (by obtain ⟨_, e⟩ := p2; exact ⟨_, e⟩)

theorem ex_extend {x : Str} {xp apos pos epos : Pos} {e : Expr} {rest : List Stmt} {L : Addr} {ds ds' : List D} (F : Fx base W n A env s.heap m) (hx : PE (model prog w) A env s.heap (.Name x xp) (V (.ref L))) (hL : L ∈ W) (hLb : L ∉ blocks env) (hLz : L ∉ zone A)
    (acc : AccL W s.heap L ds) (he : PE (model prog w) A env s.heap e (R W (.list ds'))) (hz : ds.length + ds'.length ≤ sizeLine)
    (k : ∀ h2 tk, ExtB (zone A) [L] s.heap h2 → AccL W h2 L (ds ++ ds') → Fx base W n A env h2 m → wpAny (model prog w) A (execs rest env) Q E { s with heap := h2, toks := tk })
    (hbase : attributeBase (.Name x xp) "extend" env (eval (.Name x xp) env) = eval (.Name x xp) env := by rfl)
    (hfew : ((backTo pos (starEach [e] env)).all (fun x => !x.1) && (backToKw pos (keywordEach [] env)).all (fun x => x.1.isSome)
      && decide ([e].length + ([] : List Keyword).length + (if ([] : List Keyword).isEmpty then 0 else 1) < 30)) = true := by rfl)
    (hline : (apos.endLine == pos.line) = true := by rfl) (hst : starEach [e] env = (false, eval e env) :: starEach [] env := by rfl)
    (hi : interactive env = false := by rfl) (hs : swapsWith (.Call (.Attribute (.Name x xp) "extend" apos) [e] [] pos) none epos.line env = pure false := by rfl) :
    wpAny (model prog w) A (execs (.Expr (.Call (.Attribute (.Name x xp) "extend" apos) [e] [] pos) epos :: rest) env) Q E s := by
  obtain ⟨vs, p, r⟩ := acc
  refine wpAny_execs_cons (wpAny_Expr (on_list hx p hLz PySem.F.slot_list_extend PySem.F.type_list_extend (PEs.cons he (F.stable _) PEs.nil hst) (fun vs' h1 t1 x1 p1 => ?_) hbase hfew hline hst) hi hs)
  match vs', p1 with
  | [v], p1 =>
  have p1' := p1.1
  have pl1 : h1.PlainList L vs.toArray := p.at fun o e => x1.keep hLz e
  obtain ⟨c1, e1⟩ := pl1
  cases p1' with
  | list hb hl' r' =>
    rename_i b ws
    obtain ⟨c2, e2⟩ := hl'
    have l1 : vs.length = ds.length := r.length
    have l2 : ws.length = ds'.length := r'.length
    refine call_meets PySem.F.slot_list_extend ⟨_, e1, rfl⟩ PySem.F.entry_list_extend (PySem.F.args_list_extend_2 _ _) (AutoSeq1.list_extend_list_list_0 L vs.toArray c1 b ws.toArray c2 ?_ (by simp; omega) (by simp; omega)) ⟨e1, e2, ?_⟩
    · have hb' : Builtin.List.listTooLong (vs.toArray.size + ws.toArray.size) = false := by
        have hle : vs.toArray.size + ws.toArray.size ≤ sizeLine := by simp; omega
        unfold sizeLine at hle
        simp only [Builtin.List.listTooLong]
        first | (simp; omega) | (rw [decide_eq_false_iff_not]; omega)
      rw [hb', Bool.and_false]; decide
    · have p2 := plain_map (fun x => x ++ ws.toArray) e1
      have hs2 : Heap.SameBut L h1 (h1.update L (Obj.mapSeq fun x => x ++ ws.toArray)) := Heap.SameBut.update ..
      have mu : Mut W h1 (h1.update L (Obj.mapSeq fun x => x ++ ws.toArray)) := Mut.of_same hs2 hL
      refine k _ t1 (x1.toB.trans (ExtB.of_keep fun b o hb e => (hs2.2 b fun q => hb (by simp [q])).trans e)) ⟨vs ++ ws, by simpa using p2, ((r.mut (x1.mut F.zoneW)).mut mu).append (r'.mut mu)⟩ ?_
      exact (F.ext x1).wrote hs2 hL hLb hLz (by obtain ⟨_, e⟩ := p2; exact ⟨_, e⟩)
end
end Mine
end

-- W19
noncomputable section
open PySem PySem.W PyProof.Rows PySem.SeqAt
namespace Mine
section
variable {prog : Program} {w : World} {base h : Heap} {W : List Addr} {n : Nat} {A A0 : Around} {env : Env} {m : Vars} {s : Shared} {E : Value → Shared → Prop} {Q : Flow → Shared → Prop} {odd : Bool} {mg mb : Vars}

theorem pe_name_m {x : Str} {pos : Pos} {v : Value} {P : P3} (F : Fx base W n A0 env h m) (hz : zone A = zone A0) (hx : m x = some v) (hP : ∀ h', Ext (zone A) h h' → P h' v)
    (hk : env.kindOf x = some .local ∨ env.kindOf x = some .cell ∨ env.kindOf x = some .free) (hd : plainName x = true) : PE (model prog w) A env h (.Name x pos) P := by
  intro s hs Q E k
  have F' := F.ext (hz ▸ hs)
  have h1 : (x == ("__debug__" : Str)) = false := by simp [plainName] at hd; simpa using hd.1
  have h2 : (x == ("__classdict__" : Str)) = false := by simp [plainName] at hd; simpa using hd.2
  have fin : Q v s := k v s.heap s.toks (Ext.refl _ _) (hP _ hs)
  refine wpAny_Name ?_ h1
  rcases hk with hk | hk | hk
  · obtain ⟨ml, hn, hm⟩ := F'.ns
    exact wpAny_loadName_local F'.kind hk hn ((hm x hk).trans hx) fin
  · obtain ⟨c, hc, _, hv⟩ := F'.cells x (.inl hk)
    rw [hx] at hv
    exact wpAny_loadName_cell F'.kind hk hc hv fin
  · obtain ⟨c, hc, _, hv⟩ := F'.cells x (.inr hk)
    rw [hx] at hv
    exact wpAny_loadName_free F'.kind hk hc hv fin h2
theorem pe_builtin_m {x : Str} {pos : Pos} {v : Value} {P : P3} (F : Fx base W n A0 env h m) (hz : zone A = zone A0) (G : Glo base mg mb)
    (hx : x ∈ (["len", "range", "min", "max", "sorted", "sum", "list", "set", "dict", "isinstance", "bytes", "TypeError", "ValueError"] : List Str)) (hv : bootBuiltins x = some v) (hP : ∀ h', P h' v)
    (hk : env.kindOf x = some .globalImplicit) (hd : plainName x = true) : PE (model prog w) A env h (.Name x pos) P := by
  intro s hs Q E k
  have F' := F.ext (hz ▸ hs)
  have h1 : (x == ("__debug__" : Str)) = false := by simp [plainName] at hd; simpa using hd.1
  obtain ⟨g1, g2⟩ := G.free x hx
  exact Calls.Name_function_global F'.kind hk (Calls.loadGlobal_builtin (by rw [F'.glob]; exact G.g.keeps F'.stays) g1 (by rw [F'.blt]; exact G.b.keeps F'.stays) (g2.trans hv) (k v s.heap s.toks (Ext.refl _ _) (hP _))) h1

/-- xs.append(e) under a mark -/
theorem ex_append_m {x : Str} {xp apos pos epos : Pos} {e : Expr} {rest : List Stmt} {L : Addr} {ds : List D} {d : D} (F : Fx base W n A0 env s.heap m) (hzz : zone A = zone A0) (hx : PE (model prog w) A env s.heap (.Name x xp) (V (.ref L))) (hL : L ∈ W) (hLb : L ∉ blocks env) (hLz : L ∉ zone A)
    (acc : AccL W s.heap L ds) (he : PE (model prog w) A env s.heap e (R W d)) (hz : ds.length ≤ sizeLine)
    (k : ∀ h2 tk, ExtB (zone A) [L] s.heap h2 → AccL W h2 L (ds ++ [d]) → Fx base W n A0 env h2 m → wpAny (model prog w) A (execs rest env) Q E { s with heap := h2, toks := tk })
    (hbase : attributeBase (.Name x xp) "append" env (eval (.Name x xp) env) = eval (.Name x xp) env := by rfl)
    (hfew : ((backTo pos (starEach [e] env)).all (fun x => !x.1) && (backToKw pos (keywordEach [] env)).all (fun x => x.1.isSome)
      && decide ([e].length + ([] : List Keyword).length + (if ([] : List Keyword).isEmpty then 0 else 1) < 30)) = true := by rfl)
    (hline : (apos.endLine == pos.line) = true := by rfl) (hst : starEach [e] env = (false, eval e env) :: starEach [] env := by rfl)
    (hi : interactive env = false := by rfl) (hs : swapsWith (.Call (.Attribute (.Name x xp) "append" apos) [e] [] pos) none epos.line env = pure false := by rfl) :
    wpAny (model prog w) A (execs (.Expr (.Call (.Attribute (.Name x xp) "append" apos) [e] [] pos) epos :: rest) env) Q E s := by
  obtain ⟨vs, p, r⟩ := acc
  have zW : ∀ a ∈ zone A, a ∈ W := by rw [hzz]; exact F.zoneW
  have st : Stable A (R W d) := fun _ _ _ x r => Rep.mut (x.mut zW) r
  refine wpAny_execs_cons (wpAny_Expr (on_list hx p hLz PySem.slot_list_append PySem.F.type_list_append (PEs.cons he st PEs.nil hst) (fun vs' h1 t1 x1 p1 => ?_) hbase hfew hline hst) hi hs)
  match vs', p1 with
  | [v], p1 =>
  have pl1 : h1.PlainList L vs.toArray := p.at fun o e => x1.keep hLz e
  refine wpAny_list_append_plain (s := { s with heap := h1, toks := t1 }) pl1 (fun h2 p2 hs2 => ?_) (by simp [r.length]; exact hz)
  have mu : Mut W h1 h2 := Mut.of_same hs2 hL
  refine k h2 t1 (x1.toB.trans (ExtB.of_keep fun b o hb e => (hs2.2 b fun q => hb (by simp [q])).trans e)) ⟨vs ++ [v], by simpa using p2, ((r.mut (x1.mut zW)).mut mu).append (.cons (Rep.mut mu p1.1) .nil)⟩ ?_
  exact (F.ext (hzz ▸ x1)).wrote hs2 hL hLb (hzz ▸ hLz) (by obtain ⟨_, e⟩ := p2; exact ⟨_, e⟩)

/-- item = xs.pop(), xs owned -/
theorem ex_pop {x y : Str} {xp yp apos pos spos : Pos} {rest : List Stmt} {L : Addr} {ds : List D} {d : D} (F : Fx base W n A env s.heap m) (hx : PE (model prog w) A env s.heap (.Name x xp) (V (.ref L))) (hL : L ∈ W) (hLb : L ∉ blocks env) (hLz : L ∉ zone A)
    (acc : AccL W s.heap L (ds ++ [d])) (hz : ds.length < sizeLine) (hk : env.kindOf y = some .local ∨ env.kindOf y = some .cell)
    (k : ∀ v h1 h2 tk, ExtB (zone A) [L] s.heap h1 → Mut (blocks env) h1 h2 → AccL W h2 L ds → Rep W h2 v d → Fx base W n A env h2 (upd m y v) → wpAny (model prog w) A (execs rest env) Q E { s with heap := h2, toks := tk })
    (hbase : attributeBase (.Name x xp) "pop" env (eval (.Name x xp) env) = eval (.Name x xp) env := by rfl)
    (hline : (apos.endLine == pos.line) = true := by rfl)
    (hs : swapsWith (.Call (.Attribute (.Name x xp) "pop" apos) [] [] pos) (some (.Name y yp)) spos.line env = pure false := by rfl) :
    wpAny (model prog w) A (execs (.Assign [.Name y yp] (.Call (.Attribute (.Name x xp) "pop" apos) [] [] pos) spos :: rest) env) Q E s := by
  obtain ⟨vs, p, r⟩ := acc
  have hlen : vs.length = ds.length + 1 := by rw [r.length]; simp
  obtain ⟨ws, v, rfl⟩ : ∃ ws v, vs = ws ++ [v] := ⟨vs.dropLast, vs.getLast (by intro q; subst q; simp at hlen), (List.dropLast_concat_getLast _).symm⟩
  have hlw : ws.length = ds.length := by simpa using hlen
  have rr : Reps W s.heap ws ds ∧ Rep W s.heap v d := by
    have a := r.take ds.length
    have b := r.drop ds.length
    rw [← hlw] at a b
    simp only [List.take_left, List.drop_left] at a b
    rw [hlw] at a b
    simp only [List.take_left, List.drop_left] at a b
    cases b with
    | cons b1 b2 => exact ⟨a, b1⟩
  refine wpAny_execs_cons (wpAny_Assign_Name (on_list0 hx p hLz PySem.F.slot_list_pop PySem.F.type_list_pop (fun h1 t1 x1 => ?_) hbase hline) hs)
  have pl1 : h1.PlainList L (ws ++ [v]).toArray := p.at fun o e => x1.keep hLz e
  obtain ⟨c1, e1⟩ := pl1
  refine call_meets PySem.F.slot_list_pop ⟨_, e1, rfl⟩ PySem.F.entry_list_pop (PySem.F.args_list_pop_1 _) (MeetsSeq.list_pop_last L (ws ++ [v]).toArray c1 v (by simp) (by simp; omega)) ⟨e1, ?_⟩
  have p2 := plain_map (fun x => x.eraseIdxIfInBounds ((ws ++ [v]).toArray.size - 1)) e1
  generalize hH : (h1.update L (Obj.mapSeq fun x => x.eraseIdxIfInBounds ((ws ++ [v]).toArray.size - 1))) = H at p2
  have hs2 : Heap.SameBut L h1 H := by rw [← hH]; exact Heap.SameBut.update ..
  have mu : Mut W h1 H := Mut.of_same hs2 hL
  have F2 := (F.ext x1).wrote hs2 hL hLb hLz (by obtain ⟨_, e⟩ := p2; exact ⟨_, e⟩)
  have pw : H.PlainList L ws.toArray := by
    have : (ws ++ [v]).toArray.eraseIdxIfInBounds ((ws ++ [v]).toArray.size - 1) = ws.toArray := by
      simp [List.eraseIdx_append_of_length_le]
    rw [this] at p2; exact p2
  show wpAny _ _ (storeName env y v) _ _ { s with heap := H, toks := t1 }
  refine Fx.store (s := { s with heap := H, toks := t1 }) F2 hk fun h3 tk a hs3 ha F3 => ?_
  have m3 : Mut (blocks env) H h3 := Mut.of_same hs3 ha
  have mW : Mut W H h3 := m3.mono F.blocksW
  refine k v H h3 tk (x1.toB.trans (ExtB.of_keep fun b o hb e => (hs2.2 b fun q => hb (by simp [q])).trans e)) m3 ⟨ws, ?_, ((rr.1.mut (x1.mut F.zoneW)).mut mu).mut mW⟩ (((rr.2.mut (x1.mut F.zoneW)).mut mu).mut mW) F3
  exact pw.at fun o e => m3 L o hLb e
end
end Mine
end

-- W20
noncomputable section
open PySem PySem.W PyProof.Rows PySem.SeqAt
namespace Mine
section
variable {prog : Program} {w : World} {base h : Heap} {W : List Addr} {n : Nat} {A A0 : Around} {env : Env} {m : Vars} {s : Shared} {E : Value → Shared → Prop} {Q : Flow → Shared → Prop} {odd : Bool} {mg mb : Vars}

theorem Reps.eraseIdx {h : Heap} {vs : List Value} {ds : List D} (r : Reps W h vs ds) (j : Nat) : Reps W h (vs.eraseIdx j) (ds.eraseIdx j) := by
  induction j generalizing vs ds with
  | zero => cases r with | nil => exact .nil | cons a b => simpa using b
  | succ j ih => cases r with | nil => exact .nil | cons a b => simpa using Reps.cons a (ih b)
theorem erase_idx (l : List L3) (x : L3) : l.erase x = l.eraseIdx (l.idxOf x) := by
  induction l with
  | nil => rfl
  | cons a l ih =>
    by_cases e : a = x
    · subst e; simp
    · have h1 : (a == x) = false := by simpa using e
      rw [List.erase_cons, List.idxOf_cons]; simp [h1, ih]
theorem map_eraseIdx (f : L3 → D) : ∀ (l : List L3) (j : Nat), (l.eraseIdx j).map f = (l.map f).eraseIdx j
  | [], _ => by simp
  | _ :: _, 0 => by simp
  | a :: l, j + 1 => by simp [map_eraseIdx f l j]

theorem nm_hits {l : List L3} {x : L3} {vs : List Value} {v : Value} (r : Reps W h vs (l.map (nmD odd))) (rb : Rep W h v (nmD odd x)) (prog : Program) (w : World) : ∀ j (h1 : j < vs.toArray.size), (nmKind odd prog w).is x vs.toArray[j] = decide (l[j]? = some x) ∧ MeetsSeq.EqGives vs.toArray[j] v ((nmKind odd prog w).is x vs.toArray[j]) := fun j h1 => by
  have g1 : vs[j]? = some vs.toArray[j] := by simp at h1 ⊢
  obtain ⟨y, hy, ry⟩ := reps_map r g1
  have q : (nmKind odd prog w).is x vs.toArray[j] = decide (y = x) := by
    rw [KeyKind.is_eq_decide (nm_is ry)]
    by_cases e : x = y <;> simp [e, eq_comm]
  refine ⟨by rw [q, hy]; simp, ?_⟩
  rw [q]
  exact nm_eqGives ry rb

/-- xs.remove(x), x there -/
theorem call_remove {l : List L3} {x : L3} {L : Addr} {v : Value} {Q : Value → Shared → Prop} (hL : L ∈ W) (acc : AccL W s.heap L (l.map (nmD odd))) (rb : Rep W s.heap v (nmD odd x)) (hx : x ∈ l) (hz : l.length ≤ sizeLine)
    (k : ∀ h2, Heap.SameBut L s.heap h2 → AccL W h2 L ((l.erase x).map (nmD odd)) → Q .none { s with heap := h2 }) : wpAny (model prog w) A (call (.builtin "list.remove") [.ref L, v]) Q E s := by
  obtain ⟨vs, ⟨c1, e1⟩, r⟩ := acc
  have hlen : vs.length = l.length := by rw [r.length]; simp
  have hj : l.idxOf x < l.length := List.idxOf_lt_length_of_mem hx
  have hit := nm_hits r rb prog w
  have M1 := MeetsSeq.list_remove L vs.toArray c1 v (fun y => (nmKind odd prog w).is x y) (fun y hy => by
    obtain ⟨j, hj', rfl⟩ := Array.mem_iff_getElem.mp hy
    exact (hit j hj').2) (l.idxOf x) (by simp [hlen]; exact hj) (by rw [(hit _ _).1]; simp [List.getElem?_eq_getElem hj, List.getElem_idxOf]) (fun m' hm hlt => by
    rw [(hit m' hm).1]
    simp only [decide_eq_false_iff_not]
    intro e
    have hm2 : m' < l.length := by omega
    have e2 : l[m'] = x := by rw [List.getElem?_eq_getElem hm2] at e; exact Option.some.inj e
    have := List.not_of_lt_findIdx (p := fun y => y == x) (xs := l) (i := m') hlt
    simp [e2] at this) (by simp; omega)
  refine call_meets PySem.F.slot_list_remove ⟨_, e1, rfl⟩ PySem.F.entry_list_remove (PySem.F.args_list_remove_2 _ _) M1 ⟨e1, ?_⟩
  have p2 := plain_map (fun x' => x'.eraseIdxIfInBounds (l.idxOf x)) e1
  generalize hH : (s.heap.update L (Obj.mapSeq fun xs => xs.eraseIdxIfInBounds (l.idxOf x))) = H at p2
  have hs2 : Heap.SameBut L s.heap H := by rw [← hH]; exact Heap.SameBut.update ..
  have mu : Mut W s.heap H := Mut.of_same hs2 hL
  show Q .none { s with heap := H }
  refine k H hs2 ⟨vs.eraseIdx (l.idxOf x), ?_, ?_⟩
  · have : vs.toArray.eraseIdxIfInBounds (l.idxOf x) = (vs.eraseIdx (l.idxOf x)).toArray := by
      simp
    rw [this] at p2; exact p2
  · rw [erase_idx, map_eraseIdx]; exact (r.eraseIdx _).mut mu

/-- xs.remove(x), x not there -/
theorem call_remove_none {l : List L3} {x : L3} {L : Addr} {v : Value} {Q : Value → Shared → Prop} (hh : A.handled = none) (acc : AccL W s.heap L (l.map (nmD odd))) (rb : Rep W s.heap v (nmD odd x)) (hx : x ∉ l)
    (k : ∀ h' tk e, Heap.NewExc s.heap h' e "ValueError" → E (.ref e) { s with heap := h', toks := tk }) : wpAny (model prog w) A (call (.builtin "list.remove") [.ref L, v]) Q E s := by
  obtain ⟨vs, ⟨c1, e1⟩, r⟩ := acc
  have hit := nm_hits r rb prog w
  have M1 := MeetsSeq.list_remove_none L vs.toArray c1 v (fun y => (nmKind odd prog w).is x y) (fun y hy => by
    obtain ⟨j, hj', rfl⟩ := Array.mem_iff_getElem.mp hy
    exact (hit j hj').2) (fun m' hm => by
    rw [(hit m' hm).1]
    simp only [decide_eq_false_iff_not]
    intro e
    exact hx (List.mem_of_getElem? e))
  exact call_meets PySem.F.slot_list_remove ⟨_, e1, rfl⟩ PySem.F.entry_list_remove (PySem.F.args_list_remove_2 _ _) M1 ⟨e1, hh, k⟩

/-- an exception caught in its own frame -/
def Held (h0 h : Heap) (e : Addr) (cls : Value) : Prop :=
  ∃ oe vs T oT ts, h.get? e = some oe ∧ oe.cls = cls ∧ oe.data = .fields vs ∧ vs[1]? = some (.ref T) ∧ h0.get? e = none ∧ h0.get? T = none ∧ T ≠ e ∧ h.get? T = some oT ∧ oT.data = .fields ts ∧ 3 < ts.size

theorem note_first {M : Model} {e L : Addr} {outer : List Env} {oe : Obj} {vs : Array Value} {h0 : Heap} {Q : Unit → Shared → Prop} (hfr : A.frames = some (env :: outer)) (hl : s.heap.FunFrames base (env :: outer)) (hf : env.frame = some L)
    (x0 : Ext (zone A) h0 s.heap) (hn : h0.get? e = none) (he : s.heap.get? e = some oe) (hd : oe.data = .fields vs) (h1 : vs[1]? = some .none)
    (k : ∀ h', Ext (zone A) h0 h' → Held h0 h' e oe.cls → Q () { s with heap := h' }) : wpAny M A (noteFrame (.ref e) env) Q E s := by
  have hsz : 1 < vs.size := (Array.getElem?_eq_some_iff.mp h1).1
  have hzone : zone A = (env :: outer).filterMap (·.frame) := by simp [zone, hfr]
  have hene : e ∉ (env :: outer).filterMap (·.frame) := fun hm => by
    obtain ⟨_, o, ho, hnf⟩ := hl.mem hm
    rw [he] at ho; injection ho with ho; subst ho; exact hnf vs hd
  unfold noteFrame
  simp only [hf]
  refine wpAny_bind (wpAny_field he hd h1 ?_)
  rw [if_neg (by decide)]
  refine wpAny_bind (wpAny_frameOf_fun hfr hl hf fun h₁ hs₁ => ?_)
  refine wpAny_bind (wpAny_entryPlaceOf fun pl hpl => ?_)
  unfold EntryCells.newEntry newFields
  refine wpAny_bind (wpAny_newObj_type ?_ (hpl.sizeOk5 _ _ _ _ _))
  have he₁ : h₁.get? e = some oe := (hs₁.2.1 e hene).trans he
  have x1 : Ext (zone A) s.heap h₁ := fun b o hb => by
    by_cases hm : b ∈ (env :: outer).filterMap (·.frame)
    · obtain ⟨sl, e2⟩ := hs₁.2.2 b o hb
      exact ⟨sl, e2, fun q => absurd (hzone ▸ hm) q⟩
    · exact ⟨o.slots, (hs₁.2.1 b hm).trans hb, fun _ => rfl⟩
  generalize hot : ({ cls := .type "traceback", dict := none, data := .fields ([Value.none, .ref L, .none, rawInt L, .none] ++ (if pl.isEmpty then List.replicate 6 Value.none else pl)).toArray } : Obj) = ot
  have hotd : ot.data = .fields ([Value.none, .ref L, .none, rawInt L, .none] ++ (if pl.isEmpty then List.replicate 6 Value.none else pl)).toArray := by rw [← hot]
  have hotf : ot.isFreed = false := by rw [← hot]; rfl
  have he₂ := Heap.get?_push_of_some (h := h₁) ot he₁
  refine wpAny_setField he₂ hd hsz ?_
  have hTe : h₁.objs.size ≠ e := Nat.ne_of_gt (Heap.lt_size he₁)
  have hd₃ := Obj.data_mapFields hd (·.setIfInBounds 1 (Value.ref h₁.objs.size))
  have he₃ := Heap.get?_update_self (Obj.mapFields (·.setIfInBounds 1 (Value.ref h₁.objs.size))) he₂ (Obj.isFreed_of_fields hd₃)
  have hT₃ := (Heap.get?_update_other (h₁.push ot) (Obj.mapFields (·.setIfInBounds 1 (Value.ref h₁.objs.size))) (Ne.symm hTe)).trans (Heap.get?_push_size h₁ hotf)
  have keep : ∀ b o, b ≠ e → h₁.get? b = some o → ((h₁.push ot).update e (Obj.mapFields (·.setIfInBounds 1 (Value.ref h₁.objs.size)))).get? b = some o := fun b o hbe hb => by
    rw [Heap.get?_update_other _ _ (Ne.symm hbe)]
    exact Heap.get?_push_of_some _ hb
  refine k _ (fun b o hb => ?_) ⟨_, _, h₁.objs.size, _, _, he₃, Obj.cls_mapFields _ _, hd₃, by simp [hsz], hn, (x0.trans x1).none (new_none _), hTe, hT₃, hotd, ?_⟩
  · obtain ⟨sl, e1, k1⟩ := (x0.trans x1) b o hb
    exact ⟨sl, keep b _ (fun q => by rw [q, hn] at hb; cases hb) e1, k1⟩
  · simp only [List.size_toArray, List.length_append, List.length_cons, List.length_nil]; omega

theorem flight_none {M : Model} {e : Addr} {h0 : Heap} {cls : Value} {Q : Unit → Shared → Prop} (x0 : Ext (zone A) h0 s.heap) (ht : Held h0 s.heap e cls)
    (k : ∀ h', Ext (zone A) h0 h' → Held h0 h' e cls → Q () { s with heap := h' }) : wpAny M A (setFlight (.ref e) none) Q E s := by
  obtain ⟨oe, vs, T, oT, ts, he, hcls, hd, h1, hn, hnT, hTe, hT, hdT, h3⟩ := ht
  unfold setFlight
  refine wpAny_bind (wpAny_field he hd h1 ?_)
  rw [if_pos (show (Value.ref T != Value.none) = true from by simp)]
  have other : ∀ b, b ≠ T → (s.heap.update T (Obj.mapFields (·.setIfInBounds 3 ((none : Option Addr).elim Value.none fun f => rawInt f)))).get? b = s.heap.get? b :=
    fun b hb => Heap.get?_update_other _ _ (Ne.symm hb)
  refine wpAny_setField hT hdT h3 (k _ (fun b o hb => ?_) ⟨oe, vs, T, _, _, (other e (Ne.symm hTe)).trans he, hcls, hd, h1, hn, hnT, hTe, Heap.get?_update_self _ hT (Obj.isFreed_of_fields (Obj.data_mapFields hdT _)), Obj.data_mapFields hdT _, by simpa using h3⟩)
  obtain ⟨sl, e1, k1⟩ := x0 b o hb
  exact ⟨sl, (other b fun q => by rw [q, hnT] at hb; cases hb).trans e1, k1⟩

theorem ve_exc : isSubtype (.type "ValueError") (.type "BaseException") = pure true := isSubtype_of_subB (by decide +kernel)
theorem ve_tup : isSubtype (.type ((Manifest.find? "ValueError").elim "type" fun x => x.metatype)) (.type "tuple") = pure false := isSubtype_of_subB (by decide +kernel)
theorem ve_self : isSubtype (.type "ValueError") (.type "ValueError") = pure true := isSubtype_of_subB (by decide +kernel)

/-- except ValueError: the suite is walked under the mark -/
theorem caught {e L : Addr} {outer : List Env} {h0 : Heap} {np pos : Pos} {b₀ : Stmt} {suite : List Stmt} (F : Fx base W n A env h0 m) (G : Glo base mg mb) (hfr : A.frames = some (env :: outer)) (hf : env.frame = some L)
    (hx : Heap.NewExc h0 s.heap e "ValueError") (hk : env.kindOf "ValueError" = some .globalImplicit)
    (k : ∀ h' tk, Ext (zone A) h0 h' → ∀ E', wpAny (model prog w) (A.mark (some (.ref e))) (execs (b₀ :: suite) env) Q E' { s with heap := h', toks := tk }) :
    wpAny (model prog w) A (noteFrame (.ref e) env) (fun _ s₂ => wpAny (model prog w) A (setFlight (.ref e) none) (fun _ s₃ => wpAny (model prog w) A (handleBy (.ref e) env [.ExceptHandler (some (.Name "ValueError" np)) none (b₀ :: suite) pos]) Q E s₃) E s₂) E s := by
  obtain ⟨ob, t, he, hc, hdd⟩ := hx.there
  have x0 : Ext (zone A) h0 s.heap := Ext.of_stays hx.keeps
  have F0 := F.ext x0
  obtain ⟨l, hl, hff⟩ := F0.frames
  rw [hfr] at hl; cases hl
  refine note_first (base := base) hfr hff hf x0 hx.new he hdd rfl fun h1 x1 H1 => ?_
  refine flight_none (s := { s with heap := h1 }) x1 H1 fun h2 x2 H2 => ?_
  refine wpAny_handleBy_builtin (X := "ValueError") (T := "ValueError") (b := true) ve_exc ve_tup ve_self ?_
  have hz : zone (A.mark (some (.ref e))) = zone A := rfl
  have F2 := F.ext x2
  refine pe_builtin_m (A := A.mark (some (.ref e))) (P := V (.type "ValueError")) F2 hz G (by decide) (by decide +kernel) (fun _ => rfl) hk (by decide) { s with heap := h2 } (Ext.refl _ _) _ _ fun v h3 t3 x3 p3 => ?_
  cases p3
  have x3' : Ext (zone A) h0 h3 := x2.trans x3
  obtain ⟨oe, vs, T, oT, ts, he2, hcls2, hd2, g1, hn2, hnT, hTe, hT, hdT, g3⟩ := H2
  have enz : e ∉ zone A := fun q => by
    obtain ⟨o, e'⟩ := F.live _ (F.zoneW _ q)
    rw [hx.new] at e'; cases e'
  have tnz : T ∉ zone A := fun q => by
    obtain ⟨o, e'⟩ := F.live _ (F.zoneW _ q)
    rw [hnT] at e'; cases e'
  have he3 := x3.keep enz he2
  have hT3 := x3.keep tnz hT
  have H3 : Held h0 h3 e oe.cls := ⟨oe, vs, T, oT, ts, he3, rfl, hd2, g1, hn2, hnT, hTe, hT3, hdT, g3⟩
  refine ⟨rfl, ⟨_, he3, by rw [hcls2, hc]⟩, ?_⟩
  show wpAny _ _ _ _ _ _
  refine flight_none (A := A.mark (some (.ref e))) (s := { s with heap := h3, toks := t3 }) x3' H3 fun h4 x4 H4 => ?_
  exact k h4 t3 x4 _
end
end Mine
end

-- W21
noncomputable section
open PySem PySem.W PyProof.Rows PySem.SeqAt
namespace Mine
section
variable {prog : Program} {w : World} {base h : Heap} {W T : List Addr} {n : Nat} {A : Around} {env : Env} {m : Vars} {s : Shared} {E : Value → Shared → Prop} {Q : Flow → Shared → Prop}

theorem ExtB.mut {Z T W : List Addr} {h h' : Heap} (x : ExtB Z T h h') (ht : ∀ a ∈ T, a ∈ W) (hz : ∀ a ∈ Z, a ∈ W) : Mut W h h' := fun b o hb e => x.keep (fun q => hb (ht b q)) (fun q => hb (hz b q)) e
/-- what is new since need not be named -/
theorem ExtB.drop {Z T T' : List Addr} {h h' : Heap} (x : ExtB Z T h h') (ht : ∀ a ∈ T, a ∈ T' ∨ h.get? a = none) : ExtB Z T' h h' := fun b o hb e => x b o (fun q => (ht b q).elim hb fun q' => by rw [q'] at e; cases e) e
theorem ExtB.of_mut {Z T : List Addr} {h h' : Heap} (x : Mut T h h') : ExtB Z T h h' := .of_keep fun b o hb e => x b o hb e
theorem ex_let2 {x : Str} {px pos : Pos} {e : Expr} {rest : List Stmt} {d : D} (F : Fx base W n A env s.heap m) (he : PE (model prog w) A env s.heap e (R W d)) (hk : env.kindOf x = some .local ∨ env.kindOf x = some .cell)
    (k : ∀ v h2 tk, Rep W h2 v d → ExtB (zone A) (blocks env) s.heap h2 → Fx base W n A env h2 (upd m x v) → wpAny (model prog w) A (execs rest env) Q E { s with heap := h2, toks := tk })
    (hs : swapsWith e (some (.Name x px)) pos.line env = pure false := by rfl) : wpAny (model prog w) A (execs (.Assign [.Name x px] e pos :: rest) env) Q E s :=
  ex_assign F he hk (fun v h1 h2 tk x1 p1 m1 m2 F2 => k v h2 tk (Rep.mut (m1.mono F.blocksW) p1) (x1.toB.trans (.of_mut m1)) F2) hs
/-- with any predicate that lives on -/
theorem ex_letP {x : Str} {px pos : Pos} {e : Expr} {rest : List Stmt} {P : P3} (F : Fx base W n A env s.heap m) (he : PE (model prog w) A env s.heap e P) (hk : env.kindOf x = some .local ∨ env.kindOf x = some .cell)
    (hP : ∀ h1 h2 v, Mut (blocks env) h1 h2 → P h1 v → P h2 v)
    (k : ∀ v h2 tk, P h2 v → ExtB (zone A) (blocks env) s.heap h2 → Fx base W n A env h2 (upd m x v) → wpAny (model prog w) A (execs rest env) Q E { s with heap := h2, toks := tk })
    (hs : swapsWith e (some (.Name x px)) pos.line env = pure false := by rfl) : wpAny (model prog w) A (execs (.Assign [.Name x px] e pos :: rest) env) Q E s :=
  ex_assign F he hk (fun v h1 h2 tk x1 p1 m1 m2 F2 => k v h2 tk (hP _ _ _ m1 p1) (x1.toB.trans (.of_mut m1)) F2) hs

/-- a for over a row or a range; T bears all that the turns write -/
theorem ex_for2 {x : Str} {px pos : Pos} {iter : Expr} {body rest : List Stmt} (ds : List D) (Inv : Nat → Heap → Vars → Prop) (RetP : Value → Heap → Prop) (F : Fx base W n A env s.heap m)
    (hT : ∀ a ∈ blocks env, a ∈ T) (hTW : ∀ a ∈ T, a ∈ W)
    (hi : PE (model prog w) A env s.heap iter (Itb W ds)) (hk : env.kindOf x = some .local ∨ env.kindOf x = some .cell)
    (h0 : ∀ h', Ext (zone A) s.heap h' → Inv 0 h' m)
    (turn : ∀ i d v h1 m1 h2 tk, ds[i]? = some d → Inv i h1 m1 → MutD (blocks env) h1 h2 → ExtB (zone A) T s.heap h2 → Fx base W n A env h2 (upd m1 x v) → Rep W h2 v d →
      ∀ E, wpAny (model prog w) A (execs body env) (fun fl s3 => ∃ h3 tk3, s3 = { s with heap := h3, toks := tk3 } ∧ ExtB (zone A) T h2 h3 ∧
        (match fl with | .next | .cont => ∃ m3, Fx base W n A env h3 m3 ∧ Inv (i + 1) h3 m3 | .brk => False | .ret v => RetP v h3)) E { s with heap := h2, toks := tk })
    (kend : ∀ h1 m1 h2 tk, Inv ds.length h1 m1 → MutD [] h1 h2 → ExtB (zone A) T s.heap h2 → Fx base W n A env h2 m1 → wpAny (model prog w) A (execs rest env) Q E { s with heap := h2, toks := tk })
    (kret : ∀ v h3 tk, RetP v h3 → ExtB (zone A) T s.heap h3 → Q (.ret v) { s with heap := h3, toks := tk })
    (hs : ∀ x, foldedSetIterable iter env x = pure x := by intro _; rfl) :
    wpAny (model prog w) A (execs (.For (.Name x px) iter body [] pos :: rest) env) Q E s := by
  refine wpAny_execs_cons (wpAny_For (hi s (Ext.refl _ _) _ _ fun v h1 t1 x1 p1 => ?_) hs)
  refine iter_run (s := { s with heap := h1, toks := t1 }) F.handled p1 fun I fp P St hI tI run hnew xI => ?_
  have xs := x1.trans xI
  have FI := F.ext xs
  have hIs : ∀ b o, s.heap.get? b = some o → b ≠ I := fun b o e q => by
    obtain ⟨sl, e', _⟩ := x1 b o e
    rw [q] at e'
    have : h1.get? I = none := hnew
    rw [this] at e'; cases e'
  have hIW : I ∉ W := fun q => by
    obtain ⟨o, e⟩ := F.live I q
    exact hIs I o e rfl
  have hIb : base.get? I = none := by
    cases q : base.get? I with
    | none => rfl
    | some o => exact absurd rfl (hIs I o (F.stays I o q))
  have fxI : ∀ {h' h'' : Heap} {m' : Vars}, Fx base W n A env h' m' → (∀ b o, b ∉ [I] → h'.get? b = some o → h''.get? b = some o) → Fx base W n A env h'' m' := fun {h' h'' m'} F' hk' =>
    F'.keeps (fun b hb o e => hk' b o (by simp; rintro rfl; exact hIW hb) e) fun b o e => hk' b o (by simp; rintro rfl; rw [hIb] at e; cases e) (F'.stays b o e)
  refine codeAny_forLoop (fun k s' => ∃ h' tk m' i, s' = { s with heap := h', toks := tk } ∧ k = ds.length + 1 - i ∧ i ≤ ds.length ∧ St i h' ∧ Fx base W n A env h' m' ∧ ExtB (zone A) T s.heap h' ∧ (∀ v d, Rep W hI v d → Rep W h' v d) ∧ Inv i h' m')
    ?_ (ds.length + 1) ⟨hI, tI, m, 0, rfl, rfl, Nat.zero_le _, run.at0, FI, xs.toB, fun _ _ r => r, h0 _ xs⟩
  rintro k s' ⟨h', tk, m', i, rfl, rfl, hile, hst, F', mu, rp, inv⟩
  by_cases hlt : i < ds.length
  · refine run.walks.item i _ _ _ hlt hst fun v h2 t2 hP hst2 hk2 => ?_
    obtain ⟨d, hd, rd⟩ := run.item i v hlt hP
    have F2 := fxI F' hk2
    refine wpAny_assign_Name (Fx.store (s := { s with heap := h2, toks := t2 }) F2 hk fun h3 t3 a hs3 ha F3 => ?_)
    obtain ⟨oI, vsI, eI, dI⟩ := run.fields i h' hst
    have md : MutD (blocks env) h' h3 := fun b o hb e hdd => by
      have hbI : b ≠ I := fun q => by subst q; rw [eI] at e; cases e; exact hdd _ dI
      exact (hs3.2 b fun q => hb (q ▸ ha)).trans (hk2 b o (by simpa using hbI) e)
    have mu3 : ExtB (zone A) T s.heap h3 := fun b o hb e => by
      obtain ⟨sl, e1, k1⟩ := mu b o hb e
      exact ⟨sl, (hs3.2 b fun q => hb (hT b (q ▸ ha))).trans (hk2 b _ (by simpa using hIs b o e) e1), k1⟩
    refine wpAny_mono (turn i d v h' m' h3 t3 hd inv md mu3 F3 (Rep.mutD (md.mono F'.blocksW) (rp v d rd)) _) (fun fl s3 h3' => ?_) fun _ _ e => e
    obtain ⟨h4, t4, rfl, mu4', hfl⟩ := h3'
    have mu4 : Mut W h3 h4 := mu4'.mut hTW F.zoneW
    have hI3 : I ∉ blocks env := fun q => hIW (F2.blocksW I q)
    have st4 : St (i + 1) h4 := run.walks.frame _ _ _ hst2 fun b hb o e => by
      rcases run.off b hb with q | q
      · subst q; exact mu4 b o hIW ((hs3.2 b fun q => hI3 (q ▸ ha)).trans e)
      · exact mu4 b o q ((hs3.2 b fun q' => q (F2.blocksW b (q' ▸ ha))).trans e)
    have go : (∃ m3, Fx base W n A env h4 m3 ∧ Inv (i + 1) h4 m3) → ∃ m, m < ds.length + 1 - i ∧ ∃ h' tk m' i, ({ s with heap := h4, toks := t4 } : Shared) = { s with heap := h', toks := tk } ∧ m = ds.length + 1 - i ∧ i ≤ ds.length ∧ St i h' ∧ Fx base W n A env h' m' ∧ ExtB (zone A) T s.heap h' ∧ (∀ v d, Rep W hI v d → Rep W h' v d) ∧ Inv i h' m' := by
      rintro ⟨m3, F4, inv4⟩
      exact ⟨ds.length + 1 - (i + 1), by omega, h4, t4, m3, i + 1, rfl, rfl, hlt, st4, F4, mu3.trans mu4', fun v d r => Rep.mut mu4 (Rep.mutD (md.mono F'.blocksW) (rp v d r)), inv4⟩
    cases fl with
    | next => exact go hfl
    | cont => exact go hfl
    | brk => exact hfl.elim
    | ret v => exact kret v h4 t4 hfl (mu3.trans mu4')
  · have hi' : i = ds.length := by omega
    subst hi'
    refine run.walks.done _ _ _ hst fun h2 t2 hk2 => wpAny_execs_nil ?_
    obtain ⟨oI, vsI, eI, dI⟩ := run.fields _ h' hst
    refine kend h' m' h2 t2 inv (fun b o _ e hdd => hk2 b o (fun q => ?_) e) (fun b o hb e => ?_) (fxI F' hk2)
    · simp at q; subst q; rw [eI] at e; cases e; exact hdd _ dI
    · obtain ⟨sl, e1, k1⟩ := mu b o hb e
      exact ⟨sl, hk2 b _ (by simpa using hIs b o e) e1, k1⟩

/-- a while by a measure -/
theorem ex_while2 {t : Expr} {body rest : List Stmt} {pos : Pos} (Inv : Nat → Heap → Vars → Prop) (RetP : Value → Heap → Prop) (F : Fx base W n A env s.heap m) (k0 : Nat) (h0 : Inv k0 s.heap m)
    (turn : ∀ k h1 m1, Inv k h1 m1 → ExtB (zone A) T s.heap h1 → Fx base W n A env h1 m1 → ∃ c, PT (model prog w) A env h1 t c ∧
      (c = true → ∀ h2 tk, Ext (zone A) h1 h2 → Fx base W n A env h2 m1 → ∀ E, wpAny (model prog w) A (execs body env) (fun fl s3 => ∃ h3 tk3, s3 = { s with heap := h3, toks := tk3 } ∧ ExtB (zone A) T h2 h3 ∧
        (match fl with | .next | .cont => ∃ m3 k3, k3 < k ∧ Fx base W n A env h3 m3 ∧ Inv k3 h3 m3 | .brk => False | .ret v => RetP v h3)) E { s with heap := h2, toks := tk }) ∧
      (c = false → ∀ h2 tk, Ext (zone A) h1 h2 → ExtB (zone A) T s.heap h2 → Fx base W n A env h2 m1 → wpAny (model prog w) A (execs rest env) Q E { s with heap := h2, toks := tk }))
    (kret : ∀ v h3 tk, RetP v h3 → ExtB (zone A) T s.heap h3 → Q (.ret v) { s with heap := h3, toks := tk }) :
    wpAny (model prog w) A (execs (.While t body [] pos :: rest) env) Q E s := by
  refine wpAny_execs_cons (wpAny_While ?_)
  refine codeAny_whileLoop (fun k s' => ∃ h' tk m', s' = { s with heap := h', toks := tk } ∧ Fx base W n A env h' m' ∧ ExtB (zone A) T s.heap h' ∧ Inv k h' m') ?_ k0 ⟨s.heap, s.toks, m, rfl, F, ExtB.refl _ _ _, h0⟩
  rintro k s' ⟨h', tk, m', rfl, F', mu, inv⟩
  obtain ⟨c, ht, h1, h2⟩ := turn k h' m' inv mu F'
  refine ht { s with heap := h', toks := tk } (Ext.refl _ _) _ _ fun c' h3 t3 x3 p3 => ?_
  subst p3
  have mu3 : ExtB (zone A) T h' h3 := x3.toB
  cases c' with
  | true =>
    show wpAny _ _ _ _ _ _
    refine wpAny_mono (h1 rfl h3 t3 x3 (F'.ext x3) _) (fun fl s4 h4' => ?_) fun _ _ e => e
    obtain ⟨h4, t4, rfl, mu4, hfl⟩ := h4'
    have mm : ExtB (zone A) T s.heap h4 := mu.trans (mu3.trans mu4)
    cases fl with
    | next => obtain ⟨m3, k3, hk3, F4, inv4⟩ := hfl; exact ⟨k3, hk3, h4, t4, m3, rfl, F4, mm, inv4⟩
    | cont => obtain ⟨m3, k3, hk3, F4, inv4⟩ := hfl; exact ⟨k3, hk3, h4, t4, m3, rfl, F4, mm, inv4⟩
    | brk => exact hfl.elim
    | ret v => exact kret v h4 t4 hfl mm
  | false => exact wpAny_execs_nil (h2 rfl h3 t3 x3 (mu.trans mu3) (F'.ext x3))

/-- a def that stands in the text's top -/
structure FnAt (base : Heap) (f : Addr) (fd : FuncData) : Prop where
  obj : ∃ o, base.get? f = some o ∧ o.data = .func fd
  code : base.CodeRec fd.code fd.qualname

/-- a call of a def: what its block hands back -/
theorem te_call {f : Addr} {fd : FuncData} {body : List Stmt} {args : List Value} {binds : List (Str × Value)} {P : P3} {mg mb : Vars}
    (C : Cx base W (n + 1) A s.heap) (G : Glo base mg mb) (hf : FnAt base f fd) (hbody : fd.body = .stmts body)
    (hg : fd.globals = mainGlobals) (hb : fd.builtins = builtinsNs) (hclo : fd.closure = []) (hbind : BindsTo s fd ⟨args, []⟩ binds)
    (hco : fd.scope.isCoroutine = false) (hgen : fd.scope.isGenerator = false) (hk : fd.scope.kind = .function)
    (hnof : (fd.scope.names.all fun x => x.2 != .free) = true) (hnb : (binds.map (·.1)).Nodup)
    (hkb : (binds.all fun y => fd.scope.names.lookup y.1 == some .local || fd.scope.names.lookup y.1 == some .cell) = true)
    (hnd : ((cellsFrom 0 fd.scope.names []).map (·.1)).Nodup)
    (h : ∀ h₁ tk (e : Env) (W' : List Addr), s.heap.StaysIn h₁ → e = callEnvC fd s.heap.objs.size f → W' = e.locals :: (e.cells.map (·.2) ++ W) →
      Fx base W' n (A.deeper e) e h₁ (fun y => binds.lookup y) → zone (A.deeper e) = s.heap.objs.size :: zone A →
      (∀ a ∈ blocks e, s.heap.get? a = none) → (∀ a ∈ W', a ∈ W ∨ s.heap.get? a = none) →
      ∀ E, wpAny (model prog w) (A.deeper e) (execs body e) (fun fl s' => ∃ h' tk' T v, s' = { s with heap := h', toks := tk' } ∧ (∀ a ∈ T, s.heap.get? a = none) ∧ ExtB (zone (A.deeper e)) T h₁ h' ∧ v = (match fl with | .ret v => v | _ => .none) ∧ P h' v) E { s with heap := h₁, toks := tk }) :
    TE (model prog w) A s (call (.ref f) args) P := by
  intro Q E k
  obtain ⟨o, ho, hd⟩ := hf.obj
  refine wpAny_call ?_
  refine enter C G.lim ho hd hf.code hbody hg hb hclo hbind hco hgen hk hnof hnb hkb hnd fun h₁ tk keep => ?_
  intro e F fresh E'
  obtain ⟨l, hl, hfr⟩ := C.frames
  have hz : zone (A.deeper e) = s.heap.objs.size :: zone A := zone_deeper hl rfl
  have hW : ∀ a ∈ e.locals :: (e.cells.map (·.2) ++ W), a ∈ W ∨ s.heap.get? a = none := fun a ha => by
    rcases List.mem_cons.mp ha with q | q
    · exact .inr (fresh a (q ▸ .head _))
    · rcases List.mem_append.mp q with q | q
      · exact .inr (fresh a (.tail _ q))
      · exact .inl q
  refine wpAny_mono (h h₁ tk e _ keep rfl rfl F hz fresh hW E') (fun fl s' hs' => ?_) fun _ _ x => x
  obtain ⟨h', tk', T, v, rfl, hT, ex, rfl, p⟩ := hs'
  refine k _ h' tk' (fun b o e1 => ?_) p
  obtain ⟨sl, e2, k2⟩ := ex b o (fun q => by rw [hT b q] at e1; cases e1) (keep b o e1)
  refine ⟨sl, e2, fun hb => k2 ?_⟩
  rw [hz]
  intro q
  rcases List.mem_cons.mp q with q | q
  · rw [q, new_none] at e1; cases e1
  · exact hb q
end
end Mine
end

-- W22
noncomputable section
open PySem PySem.W PyProof.Rows PySem.SeqAt PySem.Builtin PySem.Builtin.Str
namespace Mine

theorem cut_at {α : Type} {c : α} : ∀ {a a' x y : List α}, c ∉ a → c ∉ a' → a ++ c :: x = a' ++ c :: y → a = a' ∧ x = y
  | [], [], _, _, _, _, h => by simpa using h
  | [], b :: a', _, _, _, h2, h => by simp at h; exact absurd (h.1 ▸ List.mem_cons_self ..) h2
  | b :: a, [], _, _, h1, _, h => by simp at h; exact absurd (h.1 ▸ List.mem_cons_self ..) h1
  | b :: a, b' :: a', x, y, h1, h2, h => by
    simp at h
    obtain ⟨r1, r2⟩ := cut_at (fun q => h1 (.tail _ q)) (fun q => h2 (.tail _ q)) h.2
    exact ⟨by rw [h.1, r1], r2⟩

theorem join_toList (c : Nat) (a b : PySem.Str) (r : List PySem.Str) : (PySem.Str.join ⟨#[c]⟩ (a :: b :: r)).cps.toList = a.cps.toList ++ c :: (PySem.Str.join ⟨#[c]⟩ (b :: r)).cps.toList := by
  show (a ++ (⟨#[c]⟩ : PySem.Str) ++ PySem.Str.join ⟨#[c]⟩ (b :: r)).cps.toList = _
  simp [Str.cps_append]
theorem join_inj (c : Nat) : ∀ (l l' : List PySem.Str), l ≠ [] → l' ≠ [] → (∀ p ∈ l, c ∉ p.cps.toList) → (∀ p ∈ l', c ∉ p.cps.toList) → PySem.Str.join ⟨#[c]⟩ l = PySem.Str.join ⟨#[c]⟩ l' → l = l'
  | [], _, h, _, _, _, _ => absurd rfl h
  | _, [], _, h, _, _, _ => absurd rfl h
  | [a], [a'], _, _, _, _, h => by
    have : a = a' := h
    rw [this]
  | [a], a' :: b' :: r', _, _, h1, h2, h => by
    have h := congrArg (fun x => x.cps.toList) h
    simp only [join_toList] at h
    have ha : a.cps.toList = a'.cps.toList ++ c :: (PySem.Str.join ⟨#[c]⟩ (b' :: r')).cps.toList := h
    exact absurd (by rw [ha]; simp) (h1 a (.head _))
  | a :: b :: r, [a'], _, _, h1, h2, h => by
    have h := congrArg (fun x => x.cps.toList) h
    simp only [join_toList] at h
    have ha : a.cps.toList ++ c :: (PySem.Str.join ⟨#[c]⟩ (b :: r)).cps.toList = a'.cps.toList := h
    exact absurd (by rw [← ha]; simp) (h2 a' (.head _))
  | a :: b :: r, a' :: b' :: r', _, _, h1, h2, h => by
    have h' := congrArg (fun x => x.cps.toList) h
    simp only [join_toList] at h'
    obtain ⟨e1, e2⟩ := cut_at (h1 a (.head _)) (h2 a' (.head _)) h'
    have ea : a = a' := Str.ext' (Array.toList_inj.mp e1)
    have eb : PySem.Str.join ⟨#[c]⟩ (b :: r) = PySem.Str.join ⟨#[c]⟩ (b' :: r') := Str.ext' (Array.toList_inj.mp e2)
    rw [ea, join_inj c (b :: r) (b' :: r') (by simp) (by simp) (fun p hp => h1 p (.tail _ hp)) (fun p hp => h2 p (.tail _ hp)) eb]

def slash : PySem.Str := "/"
/-- the text of a word -/
def pathS (l : List L3) : PySem.Str := PySem.Str.join slash (l.map nmS)
theorem nmS_free (k : L3) : (47 : Nat) ∉ (nmS k).cps.toList := by revert k; decide
theorem split_path {l : List L3} (hl : l ≠ []) : Txt.split (pathS l) slash = l.map nmS := by
  have e : slash = ⟨#[47]⟩ := by decide
  have h1 := StrLaws.join_split (pathS l) slash
  have h2 := split_pos (pathS l) slash
  refine join_inj 47 _ _ (fun q => by rw [q] at h2; simp at h2) (by simpa using hl) (by rw [e]; exact StrLaws.split_free _ 47) (fun p hp => ?_) (by rw [← e]; exact h1)
  obtain ⟨k, _, rfl⟩ := List.mem_map.mp hp
  exact nmS_free k
theorem split_empty : Txt.split (pathS []) slash = [pathS []] := by decide
theorem sum_ones : ∀ r : List L3, (r.map fun _ => 1).sum = r.length
  | [] => rfl
  | a :: r => by simp only [List.map_cons, List.sum_cons, sum_ones r, List.length_cons]; omega
theorem pathS_len (l : List L3) : (pathS l).length ≤ 2 * l.length := by
  cases l with
  | nil => decide
  | cons a r =>
    unfold pathS
    rw [List.map_cons, len_join_cons]
    have h1 : ∀ k : L3, (nmS k).length = 1 := by decide
    have h2 : (((nmS a :: r.map nmS)).map (·.length)).sum = r.length + 1 := by
      rw [← List.map_cons, List.map_map]
      have : ((fun x : PySem.Str => x.length) ∘ nmS) = fun _ => 1 := funext h1
      rw [this, sum_ones]; simp
    have h3 : slash.length = 1 := by decide
    rw [h2, h3]; simp; omega

section
variable {prog : Program} {w : World} {W : List Addr} {A : Around} {s : Shared} {E : Value → Shared → Prop}
theorem strValues_rep {h : Heap} : ∀ {vs : List Value} {l : List L3}, Reps W h vs (l.map (nmD false)) → ∃ ps : List (PySem.Str × Tok), vs = strValues ps ∧ ps.map (·.1) = l.map nmS
  | [], [], _ => ⟨[], rfl, rfl⟩
  | v :: vs, k :: l, .cons a b => by
    obtain ⟨ps, e1, e2⟩ := strValues_rep b
    cases a with
    | str x t => exact ⟨(nmS k, t) :: ps, by rw [e1]; rfl, by simp [e2]⟩
theorem rep_strValues {h : Heap} : ∀ {ps : List (PySem.Str × Tok)} {ds : List PySem.Str}, ps.map (·.1) = ds → Reps W h (strValues ps) (ds.map .str)
  | [], [], _ => .nil
  | p :: ps, d :: ds, e => by
    simp at e
    obtain ⟨e1, e2⟩ := e
    subst e1
    exact .cons (.str _ _) (rep_strValues e2)

/-- slash.join(row), texts -/
theorem te_join_str {l : List L3} {v v' : Value} (rs : R W (.str slash) s.heap v) (ra : R W (dW false l) s.heap v') (hz : l.length ≤ 100) : TE (model prog w) A s (call (.builtin "str.join") [v, v']) (R W (.str (pathS l))) := by
  cases rs with
  | str x t =>
  cases ra with
  | list ha hl r =>
    rename_i a vs
    intro Q E k
    obtain ⟨ps, e1, e2⟩ := strValues_rep r
    subst e1
    have hl' : s.heap.IsList a (strValues ps).toArray := by obtain ⟨c, e⟩ := hl; exact ⟨_, e, rfl, c, rfl⟩
    have hok : tooLong ((ps.map (·.1)).toArray.foldl (· + ·.length + slash.length) 0) = false := by
      rw [e2]
      have h1 : ∀ k : L3, (nmS k).length = 1 := by decide
      have h3 : slash.length = 1 := by decide
      have key : ∀ (l : List L3) (n : Nat), (l.map nmS).foldl (· + ·.length + slash.length) n = n + 2 * l.length := by
        intro l
        induction l with
        | nil => intro n; simp
        | cons a l ih => intro n; rw [List.map_cons, List.foldl_cons, ih, h1, h3, List.length_cons]; omega
      rw [List.foldl_toArray, key]
      unfold tooLong
      have : sizeLine = 16777216 := by decide
      simp; omega
    refine call_meets F.slot_str_join (typeIs_str _ _ _) F.entry_str_join (F.args_str_join_2 _ _) (meets_str_join_list slash t a ps hok) ⟨hl', ?_⟩
    refine post_join ps ⟨joinFit_length hok, fun t' k' => ?_⟩
    have : Txt.join slash (ps.map (·.1)) = pathS l := by rw [e2]; exact StrLaws.glued_eq_join _ _
    rw [this]
    exact k _ s.heap k' (Ext.refl _ _) (.str _ _)

/-- path.split(sep), texts -/
theorem te_split_str {x : PySem.Str} {v v' : Value} (hn : s.heap.objs.size ∉ W) (rs : R W (.str x) s.heap v) (ra : R W (.str slash) s.heap v') (hz : x.length ≤ 1000) : TE (model prog w) A s (call (.builtin "str.split") [v, v']) (R W (.list ((Txt.split x slash).map .str))) := by
  cases rs with
  | str x t =>
  cases ra with
  | str y u =>
    intro Q E k
    have hy : (slash.length == 0) = false := by decide
    have hs : sizeLine = 16777216 := by decide
    have fin : ∀ (ps : List (PySem.Str × Tok)) tk, ps.map (·.1) = Txt.split x slash → Q (.ref s.heap.objs.size) { s with heap := s.heap.push { cls := .type "list", data := .seq (strValues ps).toArray }, toks := tk } := fun ps tk e =>
      k _ _ tk (Ext.push _ _) (.list hn ⟨0, Heap.get?_push_size _ rfl⟩ (rep_strValues e))
    cases h1 : (decide (x.length < slash.length) || decide (strKind x < strKind slash))
    · cases hf : (occurrences x slash 0 x.length (x.length + 1)).isEmpty
      · have hn' : (partsBetween x (occurrences x slash 0 x.length (x.length + 1)) slash.length).length ≤ sizeLine := by
          have := split_le x slash
          unfold Txt.split at this
          rw [if_neg (ne_true_of_eq_false h1), if_neg (ne_true_of_eq_false hf)] at this
          omega
        refine call_meets F.slot_str_split (typeIs_str _ _ _) F.entry_str_split (F.args_str_split_2 _ _) (meets_str_split_sep x slash t u h1 hy hf (by omega) hn') ?_
        show wants Q E _ { s with toks := _, heap := s.heap.push { cls := .type "list", data := .seq (strsFrom s.toks (partsBetween x (occurrences x slash 0 x.length (x.length + 1)) slash.length)).toArray } }
        rw [strsFrom_eq]
        exact fin (numbered s.toks _) _ ((numbered_texts _ _).trans ((if_neg (ne_true_of_eq_false h1)).trans (if_neg (ne_true_of_eq_false hf))).symm)
      · exact call_meets F.slot_str_split (typeIs_str _ _ _) F.entry_str_split (F.args_str_split_2 _ _) (meets_str_split_not_found x slash t u h1 hy hf) (fin [(x, t)] s.toks ((if_neg (ne_true_of_eq_false h1)).trans (if_pos hf)).symm)
    · exact call_meets F.slot_str_split (typeIs_str _ _ _) F.entry_str_split (F.args_str_split_2 _ _) (meets_str_split_cannot_occur x slash t u h1) (fin [(x, t)] s.toks (if_pos h1).symm)
end
end Mine
end

-- W23
noncomputable section
open PySem PySem.W PyProof.Rows PySem.SeqAt PySem.Builtin
namespace Mine
set_option maxRecDepth 100000
theorem b_special (b : Array UInt8) (t : Tok) : specialOf (.bytes b t) "__buffer__" = pure (some (.builtin "bytes.__buffer__")) := by
  show typeLookup (.type "bytes") _ = _
  rw [typeLookup_type, builtinLookup_eq_fast]; kernel_rfl
theorem b_release (b : Array UInt8) (t : Tok) : specialOf (.bytes b t) "__release_buffer__" = pure none := by
  show typeLookup (.type "bytes") _ = _
  rw [typeLookup_type, builtinLookup_eq_fast]; kernel_rfl
theorem b_inst (b : Array UInt8) (t : Tok) : isInstance (.bytes b t) (.type "bytes") = pure true := by
  show isSubtype (.type "bytes") (.type "bytes") = _
  exact F.sub_bytes_bytes
theorem b_own (b : Array UInt8) (t : Tok) : Bytes.slotIsOwn (.bytes b t) "__buffer__" = pure true := by
  unfold Bytes.slotIsOwn
  rw [show (("__buffer__" : String) : Str) = "__buffer__" from rfl, b_special]
  show (if (!("bytes.__buffer__" : String).endsWith ("." ++ "__buffer__")) = true then _ else isInstance (.bytes b t) (.type (("bytes.__buffer__" : String).dropRight (("__buffer__" : String).length + 1)))) = _
  rw [show (!("bytes.__buffer__" : String).endsWith ("." ++ "__buffer__")) = false by decide +kernel, show (("bytes.__buffer__" : String).dropRight (("__buffer__" : String).length + 1)) = "bytes" by decide +kernel]
  exact b_inst b t
theorem b_own' (b : Array UInt8) (t : Tok) : Bytes.slotIsOwn (.bytes b t) "__release_buffer__" = pure true := by
  unfold Bytes.slotIsOwn
  rw [show (("__release_buffer__" : String) : Str) = "__release_buffer__" from rfl, b_release]
  rfl
theorem b_buffer (id : String) (b : Array UInt8) (t : Tok) (full : Bool) : Bytes.buffer? id (.bytes b t) full = pure (some b) := by
  unfold Bytes.buffer?
  rw [b_special, b_own]
  show (do if ← Bytes.ownRelease (.bytes b t) then unsupported s!"{id}:own-__release_buffer__-on-a-bytearray-subclass"
           return some (← Bytes.payload (.bytes b t)) : Sem (Option (Array UInt8))) = _
  unfold Bytes.ownRelease
  rw [b_own']
  rfl

theorem slot_bytes_join : Slot "bytes" "join" "bytes.join" :=
  .of (owner := "bytes") (n := "join") (by rw [typeLookup_type, builtinLookup_eq_fast]; kernel_rfl) (by decide +kernel) (by decide +kernel) (by decide +kernel)
    (by first | exact .inl (by decide +kernel) | exact .inr (by decide +kernel)) (by rw [isSubtype_type]; kernel_rfl)
theorem type_bytes_join : typeOf (.builtin "bytes.join") = pure (.type "method_descriptor") := by show builtinType _ = _; rw [builtinType_eq_fast]; kernel_rfl
theorem entry_bytes_join : entryFor table "bytes.join" = some Builtin.«bytes.join» := entryFor_of_tree (by kernel_rfl)
theorem args_bytes_join (a b : Value) : argsOk "bytes.join" ⟨[a, b], []⟩ := by unfold argsOk; kernel_rfl
theorem slot_bytes_split : Slot "bytes" "split" "bytes.split" :=
  .of (owner := "bytes") (n := "split") (by rw [typeLookup_type, builtinLookup_eq_fast]; kernel_rfl) (by decide +kernel) (by decide +kernel) (by decide +kernel)
    (by first | exact .inl (by decide +kernel) | exact .inr (by decide +kernel)) (by rw [isSubtype_type]; kernel_rfl)
theorem type_bytes_split : typeOf (.builtin "bytes.split") = pure (.type "method_descriptor") := by show builtinType _ = _; rw [builtinType_eq_fast]; kernel_rfl
theorem entry_bytes_split : entryFor table "bytes.split" = some Builtin.«bytes.split» := entryFor_of_tree (by kernel_rfl)
theorem args_bytes_split (a b : Value) : argsOk "bytes.split" ⟨[a, b], []⟩ := by unfold argsOk; kernel_rfl

def bytesVals (ps : List (Array UInt8 × Tok)) : List Value := ps.map fun p => .bytes p.1 p.2
section
variable {prog : Program} {w : World} {W : List Addr} {A : Around} {s : Shared} {E : Value → Shared → Prop}

theorem b_quiet {M : Model} {id : String} {b : Array UInt8} {t : Tok} {Q : Option (Array UInt8 × Option Value) → Shared → Prop} (h : Q (some (b, none)) s) : wpAny M A (Bytes.takeBufferQuiet? id (.bytes b t) 0) Q E s := by
  unfold Bytes.takeBufferQuiet?
  refine wpAny_bind (wpAny_attempt ?_)
  have e : Bytes.takeBuffer? id (.bytes b t) 0 = pure (some (b, none)) := by
    unfold Bytes.takeBuffer?
    rw [b_special, b_own]
    show (do return (← Bytes.buffer? id (.bytes b t) _).map (·, none)) = _
    rw [b_buffer]; rfl
  rw [e]
  exact wpAny_pure (wpAny_pure h)

theorem letGo_all {M : Model} {keep : List Value} {Q : Unit → Shared → Prop} : ∀ (ps : List (Array UInt8 × Tok)), Q () s → wpAny M A (Bytes.joinLetGo (ps.map fun p => (Value.bytes p.1 p.2, none)) keep) Q E s
  | [], h => wpAny_pure h
  | p :: ps, h => wpAny_bind (wpAny_letGo (letGo_all ps h))

theorem run_join {M : Model} {sep : Array UInt8} {t : Tok} {a : Addr} {ps : List (Array UInt8 × Tok)} {P : PySem.Fin → Shared → Prop} (hl : s.heap.PlainList a (bytesVals ps).toArray)
    (hz : ((ps.map (·.1)).toArray.foldl (· + ·.size) (sep.size * (ps.length - 1))) ≤ sizeLine) (hz2 : (Bytes.joined sep (ps.map (·.1))).size ≤ sizeLine)
    (h1 : ∀ p, ps = [p] → P (.done (.ret (.bytes p.1 p.2))) s)
    (h2 : ps.length ≠ 1 → P (.done (.ret (.bytes (Bytes.joined sep (ps.map (·.1))) s.toks))) { s with toks := s.toks + 1 }) :
    wpAny M A (Builtin.«bytes.join» ⟨[.bytes sep t, .ref a], []⟩) P E s := by
  obtain ⟨c, e1⟩ := hl
  show wpAny M A (Bytes.joinM .bytes ⟨[.bytes sep t, .ref a], []⟩) P E s
  unfold Bytes.joinM
  refine wpAny_bind (wpAny_of_eq (a := (.bytes sep t, .ref a)) (by rfl) ?_)
  dsimp only
  have T : s.TypeIs (.ref a) "list" := ⟨_, e1, rfl⟩
  have items : ∀ {β : Type} {f : Option (Array Value) → Sem β} {Q : β → Shared → Prop} {s' : Shared}, s'.heap = s.heap → wpAny M A (f (some (bytesVals ps).toArray)) Q E s' → wpAny M A (seqItems? (.ref a) >>= f) Q E s' := by
    intro β f Q s' hh hq
    unfold seqItems?
    refine wpAny_bind (wpAny_bind (wpAny_load (by rw [hh]; exact e1) ?_))
    exact wpAny_pure hq
  refine wpAny_bind ?_
  unfold Bytes.joinItems
  refine wpAny_bind (wpAny_typeOf T ?_)
  rw [if_pos (by decide)]
  refine wpAny_pure (items rfl ?_)
  dsimp only
  rw [if_pos (by decide)]
  by_cases hone : ∃ p, ps = [p]
  · obtain ⟨p, rfl⟩ := hone
    show wpAny M A (typeOf (.bytes p.1 p.2) >>= _) _ _ _
    refine wpAny_bind (wpAny_of_eq (a := .type "bytes") rfl ?_)
    rw [if_pos (by decide)]
    exact wpAny_bind (wpAny_rule (wpAny_pure (h1 p rfl)))
  have hne : ps.length ≠ 1 := fun q => hone (List.length_eq_one_iff.mp q)
  have hsz : (bytesVals ps).toArray.size = ps.length := by simp [bytesVals]
  have hmatch : ∀ {β : Type} (its : Array Value) (f : Value → β) (g : β), its.size ≠ 1 → (match its with | #[x] => f x | _ => g) = g := by
    intro β its f g h
    obtain ⟨l⟩ := its
    match l, h with
    | [], _ => rfl
    | [x], h => exact absurd rfl h
    | x :: y :: r, _ => rfl
  refine Eq.mpr (congrArg (fun t => wpAny M A t P E s) (hmatch (bytesVals ps).toArray _ _ (by rw [hsz]; exact hne))) ?_
  generalize hits : (bytesVals ps).toArray = its at items ⊢ hsz
  clear hone
  refine wpAny_bind ?_
  rw [Std.Legacy.Range.forIn_eq_forIn_range']
  refine wpAny_forIn_list _ (fun rest b s' => ∃ i, s' = s ∧ rest = List.range' i (ps.length - i) ∧ i ≤ ps.length ∧ b.1 = ((ps.take i).map (·.1)).toArray ∧ b.2 = (ps.take i).map fun p => (Value.bytes p.1 p.2, none)) _ ?_ ?_ _ _ ⟨0, rfl, ?_, Nat.zero_le _, rfl, rfl⟩
  · rintro x rest b s' ⟨i, rfl, hr, hi, hb1, hb2⟩
    have hlt : i < ps.length := by
      rcases Nat.lt_or_ge i ps.length with q | q
      · exact q
      · rw [Nat.sub_eq_zero_of_le q] at hr; cases hr
    rw [show ps.length - i = (ps.length - (i + 1)) + 1 by omega, List.range'_succ] at hr
    injection hr with hx hr
    subst hx hr
    refine items rfl ?_
    dsimp only
    have hoff : (Bytes.Kind.bytes == Bytes.Kind.bytearray || b.2.any fun x => x.fst.onHeap) = false := by
      rw [hb2]
      have : ((ps.take x).map fun p => ((Value.bytes p.1 p.2, none) : Value × Option Value)).any (fun x => x.fst.onHeap) = false := by
        rw [List.any_map, List.any_eq_false]
        intro p _; simp [Function.comp, Value.onHeap]
      rw [this]; decide
    rw [hoff]
    simp only [Bool.false_eq_true, if_false]
    have hget : its.getD x Value.none = .bytes ps[x].1 ps[x].2 := by
      rw [← hits]; simp [bytesVals, Array.getD, hlt]
    rw [hget]
    refine wpAny_bind (wpAny_holding (b_quiet ?_))
    dsimp only
    refine items rfl ?_
    dsimp only
    rw [if_neg (by simp)]
    have et : ps.take (x + 1) = ps.take x ++ [ps[x]] := by rw [List.take_add_one, List.getElem?_eq_getElem hlt]; rfl
    refine wpAny_pure ⟨x + 1, rfl, rfl, hlt, ?_, ?_⟩
    · dsimp only
      rw [hb1, et]; simp only [List.map_append, List.map_cons, List.map_nil, List.push_toArray]
    · dsimp only
      rw [hb2, et]; simp only [List.map_append, List.map_cons, List.map_nil]
  · rintro b s' ⟨i, rfl, hr, hi, hb1, hb2⟩
    have hi' : i = ps.length := by
      have := congrArg List.length hr
      simp at this; omega
    subst hi'
    rw [List.take_length] at hb1 hb2
    refine wpAny_bind (wpAny_of_eq (a := sep) rfl ?_)
    rw [hb1, hb2]
    rw [if_neg (by unfold Bytes.tooLong; simp only [decide_eq_true_eq, Nat.not_lt]; simpa using hz)]
    refine wpAny_bind ?_
    show wpAny M A (mkBytes (Bytes.joined sep (ps.map (·.1)).toArray.toList)) _ _ _
    rw [List.toList_toArray]
    refine wpAny_mkBytes (wpAny_bind (wpAny_holding (wpAny_point (wpAny_bind (letGo_all ps (wpAny_pure (h2 hne))))))) hz2
  · rw [hsz]; simp
end
end Mine
end

-- W24
noncomputable section
open PySem PySem.W PyProof.Rows PySem.SeqAt PySem.Builtin
namespace Mine

def lett (k : L3) : UInt8 := UInt8.ofNat (97 + k.val)
theorem nmB_eq (k : L3) : nmB k = [lett k] := rfl
theorem lett_ne : ∀ k : L3, lett k ≠ 47 := by decide
/-- the octets of a word -/
def pathB : List L3 → List UInt8
  | [] => []
  | x :: r => lett x :: r.flatMap fun y => [47, lett y]

theorem tail_get (r : List L3) : ∀ i, (r.flatMap fun y => [(47 : UInt8), lett y])[2 * i]? = (r[i]?).map fun _ => 47 := by
  induction r with
  | nil => intro i; simp
  | cons a r ih =>
    intro i
    cases i with
    | zero => simp
    | succ i =>
      rw [List.flatMap_cons, show 2 * (i + 1) = 2 * i + 2 by omega]
      simpa using ih i
theorem tail_get' (r : List L3) : ∀ i, (r.flatMap fun y => [(47 : UInt8), lett y])[2 * i + 1]? = (r[i]?).map lett := by
  induction r with
  | nil => intro i; simp
  | cons a r ih =>
    intro i
    cases i with
    | zero => simp
    | succ i =>
      rw [List.flatMap_cons, show 2 * (i + 1) + 1 = (2 * i + 1) + 2 by omega]
      simpa using ih i
theorem tail_len (r : List L3) : (r.flatMap fun y => [(47 : UInt8), lett y]).length = 2 * r.length := by
  induction r with
  | nil => rfl
  | cons a r ih => rw [List.flatMap_cons, List.length_append, ih]; simp; omega
theorem path_even (x : L3) (r : List L3) (i : Nat) : (pathB (x :: r))[2 * i]? = ((x :: r)[i]?).map lett := by
  cases i with
  | zero => simp [pathB]
  | succ i => rw [pathB, show 2 * (i + 1) = (2 * i + 1) + 1 by omega]; simpa using tail_get' r i
theorem path_odd (x : L3) (r : List L3) (i : Nat) : (pathB (x :: r))[2 * i + 1]? = (r[i]?).map fun _ => 47 := by
  rw [pathB]; simpa using tail_get r i
theorem path_len (x : L3) (r : List L3) : (pathB (x :: r)).length = 2 * r.length + 1 := by rw [pathB, List.length_cons, tail_len]

theorem joined_tail (r : List L3) : ∀ (i : Nat) (acc : Array UInt8), 0 < i → ((r.map fun k => (nmB k).toArray).zipIdx i).foldl (fun out (p : Array UInt8 × Nat) => (if p.2 > 0 then out ++ #[47] else out) ++ p.1) acc = acc ++ (r.flatMap fun y => [(47 : UInt8), lett y]).toArray := by
  induction r with
  | nil => intro i acc _; simp
  | cons a r ih =>
    intro i acc hi
    rw [List.map_cons, List.zipIdx_cons, List.foldl_cons, ih (i + 1) _ (by omega)]
    simp only [if_pos hi, nmB_eq, List.flatMap_cons]
    simp
theorem joined_path (l : List L3) : Bytes.joined #[47] (l.map fun k => (nmB k).toArray) = (pathB l).toArray := by
  unfold Bytes.joined
  cases l with
  | nil => rfl
  | cons x r =>
    rw [List.map_cons, List.zipIdx_cons, List.foldl_cons]
    have := joined_tail r 1 (nmB x).toArray (by omega)
    simp only [nmB_eq] at this ⊢
    simpa [pathB] using this

theorem occ_fold (b : Array UInt8) (k : Nat) : ∃ m, m ≤ k ∧ (((List.range k).map (· + 0)).foldl (fun (acc : List Nat × Nat) (i : Nat) => if i ≥ acc.2 && b.extract i (i + (#[47] : Array UInt8).size) == #[47] then (i :: acc.1, i + (#[47] : Array UInt8).size) else acc) ([], 0)) = (((List.range k).filter fun i => b.extract i (i + 1) == #[47]).reverse, m) := by
  induction k with
  | zero => exact ⟨0, Nat.le_refl _, rfl⟩
  | succ k ih =>
    obtain ⟨m, hm, e⟩ := ih
    rw [List.range_succ, List.map_append, List.foldl_append, e, List.filter_append]
    by_cases hq : (b.extract k (k + 1) == #[47]) = true
    · refine ⟨k + 1, Nat.le_refl _, ?_⟩
      simp only [List.map_cons, List.map_nil, List.foldl_cons, List.foldl_nil, Nat.add_zero, ge_iff_le]
      have h1 : (decide (m ≤ k) && b.extract k (k + (#[47] : Array UInt8).size) == #[47]) = true := by
        rw [Bool.and_eq_true]; exact ⟨by simpa using hm, hq⟩
      rw [if_pos h1]
      simp [hq]
    · refine ⟨m, by omega, ?_⟩
      simp only [List.map_cons, List.map_nil, List.foldl_cons, List.foldl_nil, Nat.add_zero, ge_iff_le]
      have h1 : ¬ (decide (m ≤ k) && b.extract k (k + (#[47] : Array UInt8).size) == #[47]) = true := by
        rw [Bool.and_eq_true]; exact fun q => hq q.2
      rw [if_neg h1]
      simp [hq]
theorem occ_eq (b : Array UInt8) : Bytes.occurrences b #[47] 0 b.size = (List.range b.size).filter fun i => b.extract i (i + 1) == #[47] := by
  unfold Bytes.occurrences
  obtain ⟨m, _, e⟩ := occ_fold b (b.size + 1 - (0 + (#[47] : Array UInt8).size))
  simp only at e ⊢
  rw [e]
  simp

theorem ext1 (b : Array UInt8) (i : Nat) (c : UInt8) (h : b.toList[i]? = some c) : b.extract i (i + 1) = #[c] := by
  have hlt : i < b.size := by
    rcases Nat.lt_or_ge i b.size with q | q
    · exact q
    · rw [List.getElem?_eq_none (by simpa using q)] at h; cases h
  apply Array.ext
  · simp; omega
  · intro j h1 h2
    have hj : j = 0 := by simp at h2; exact h2
    subst hj
    rw [Array.getElem?_toList, Array.getElem?_eq_getElem hlt] at h
    simp
    exact Option.some.inj h

theorem odd_filter (p : Nat → Bool) (m : Nat) (h1 : ∀ i, i ≤ m → p (2 * i) = false) (h2 : ∀ i, i < m → p (2 * i + 1) = true) : (List.range (2 * m + 1)).filter p = (List.range m).map fun i => 2 * i + 1 := by
  induction m with
  | zero => have := h1 0 (Nat.le_refl _); simp at this; simp [this]
  | succ m ih =>
    have e1 := h2 m (by omega)
    have e2 := h1 (m + 1) (Nat.le_refl _)
    rw [show 2 * (m + 1) + 1 = (2 * m + 1) + 1 + 1 by omega, List.range_succ, List.range_succ, List.filter_append, List.filter_append, ih (fun i hi => h1 i (by omega)) (fun i hi => h2 i (by omega)), List.range_succ, List.map_append]
    rw [show 2 * (m + 1) = 2 * m + 1 + 1 by omega] at e2
    simp [e1, e2]

theorem between_fold (b : Array UInt8) (m : Nat) : ((List.range m).map fun i => 2 * i + 1).foldl (fun (st : Array (Array UInt8) × Nat) p => (st.1.push (b.extract st.2 p), p + 1)) (#[], 0) = (((List.range m).map fun i => b.extract (2 * i) (2 * i + 1)).toArray, 2 * m) := by
  induction m with
  | zero => rfl
  | succ m ih =>
    rw [List.range_succ, List.map_append, List.foldl_append, ih, List.map_append]
    simp
    omega
theorem between_path (x : L3) (r : List L3) : Bytes.between (pathB (x :: r)).toArray 1 ((List.range r.length).map fun i => 2 * i + 1) = (x :: r).map fun k => (nmB k).toArray := by
  unfold Bytes.between
  have e := between_fold (pathB (x :: r)).toArray r.length
  simp only at e ⊢
  have e' : (((List.range r.length).map fun i => 2 * i + 1).foldl (fun (x_1 : Array (Array UInt8) × Nat) p => (x_1.1.push ((pathB (x :: r)).toArray.extract x_1.2 p), p + 1)) (#[], 0)) = _ := e
  rw [show (List.foldl (fun (x_1 : Array (Array UInt8) × Nat) p => match x_1 with | (parts, last) => (parts.push ((pathB (x :: r)).toArray.extract last p), p + 1)) (#[], 0) ((List.range r.length).map fun i => 2 * i + 1)) = _ from e]
  have hget : ∀ i, i < r.length + 1 → (pathB (x :: r)).toArray.extract (2 * i) (2 * i + 1) = (nmB ((x :: r)[i]?.getD 0)).toArray := fun i hi => by
    rw [ext1 _ _ (lett ((x :: r)[i]?.getD 0)) (by
      show (pathB (x :: r))[2 * i]? = _
      rw [path_even, List.getElem?_eq_getElem (by simpa using hi)]; rfl)]
    rfl
  have hlast : (pathB (x :: r)).toArray.extract (2 * r.length) (pathB (x :: r)).toArray.size = (pathB (x :: r)).toArray.extract (2 * r.length) (2 * r.length + 1) := by
    rw [List.size_toArray, path_len]
  dsimp only
  rw [hlast]
  have : (((List.range r.length).map fun i => (pathB (x :: r)).toArray.extract (2 * i) (2 * i + 1)).toArray.push ((pathB (x :: r)).toArray.extract (2 * r.length) (2 * r.length + 1))).toList = (List.range (r.length + 1)).map fun i => (pathB (x :: r)).toArray.extract (2 * i) (2 * i + 1) := by
    rw [List.range_succ, List.map_append]; simp
  rw [this]
  apply List.ext_getElem?
  intro i
  rw [List.getElem?_map, List.getElem?_map]
  by_cases hi : i < r.length + 1
  · rw [List.getElem?_range hi, List.getElem?_eq_getElem (l := x :: r) (by simpa using hi)]
    simp only [Option.map_some]
    rw [hget i hi, List.getElem?_eq_getElem (by simpa using hi)]; rfl
  · rw [List.getElem?_eq_none (by simpa using hi), List.getElem?_eq_none (by simpa using hi)]; rfl
theorem places_path (x : L3) (r : List L3) : (Bytes.occurrences (pathB (x :: r)).toArray #[47] 0 (pathB (x :: r)).toArray.size).take ((pathB (x :: r)).toArray.size + 1) = (List.range r.length).map fun i => 2 * i + 1 := by
  rw [occ_eq, List.size_toArray, path_len, odd_filter]
  · rw [List.take_of_length_le]; simp; omega
  · intro i hi
    have : (x :: r)[i]? = some ((x :: r)[i]'(by simp; omega)) := List.getElem?_eq_getElem _
    rw [ext1 _ _ (lett ((x :: r)[i]'(by simp; omega))) (by show (pathB (x :: r))[2 * i]? = _; rw [path_even, this]; rfl)]
    have := lett_ne ((x :: r)[i]'(by simp; omega))
    simpa using this
  · intro i hi
    rw [ext1 _ _ 47 (by show (pathB (x :: r))[2 * i + 1]? = _; rw [path_odd, List.getElem?_eq_getElem hi]; rfl)]
    rfl
end Mine
end

-- W25
noncomputable section
open PySem PySem.W PyProof.Rows PySem.SeqAt PySem.Builtin
namespace Mine
set_option maxRecDepth 100000

def pathD (odd : Bool) (l : List L3) : D := cond odd (.bytes (pathB l).toArray) (.str (pathS l))
def sepD (odd : Bool) : D := cond odd (.bytes #[47]) (.str slash)
def splitD (odd : Bool) (l : List L3) : List D := match l with
  | [] => [pathD odd []]
  | x :: r => (x :: r).map (nmD odd)
def joinId (odd : Bool) : String := cond odd "bytes.join" "str.join"
def splitI (odd : Bool) : String := cond odd "bytes.split" "str.split"
def textT (odd : Bool) : String := cond odd "bytes" "str"

section
variable {prog : Program} {w : World} {W : List Addr} {A : Around} {s : Shared} {E : Value → Shared → Prop}
theorem bytesVals_rep {h : Heap} : ∀ {vs : List Value} {l : List L3}, Reps W h vs (l.map (nmD true)) → ∃ ps : List (Array UInt8 × Tok), vs = bytesVals ps ∧ ps.map (·.1) = l.map fun k => (nmB k).toArray
  | [], [], _ => ⟨[], rfl, rfl⟩
  | v :: vs, k :: l, .cons a b => by
    obtain ⟨ps, e1, e2⟩ := bytesVals_rep b
    cases a with
    | bytes x t => exact ⟨((nmB k).toArray, t) :: ps, by rw [e1]; rfl, by simp [e2]⟩
theorem rep_bytesVals {h : Heap} : ∀ {ps : List (Array UInt8 × Tok)} {ds : List (Array UInt8)}, ps.map (·.1) = ds → Reps W h (bytesVals ps) (ds.map .bytes)
  | [], [], _ => .nil
  | p :: ps, d :: ds, e => by
    simp at e
    obtain ⟨e1, e2⟩ := e
    subst e1
    exact .cons (.bytes _ _) (rep_bytesVals e2)

theorem te_join_bytes {l : List L3} {v v' : Value} (rs : R W (.bytes #[47]) s.heap v) (ra : R W (dW true l) s.heap v') (hz : l.length ≤ 100) : TE (model prog w) A s (call (.builtin "bytes.join") [v, v']) (R W (.bytes (pathB l).toArray)) := by
  cases rs with
  | bytes x t =>
  cases ra with
  | list ha hl r =>
    rename_i a vs
    intro Q E k
    obtain ⟨ps, e1, e2⟩ := bytesVals_rep r
    subst e1
    have hs : sizeLine = 16777216 := by decide
    have hlen : ps.length = l.length := by have := congrArg List.length e2; simpa using this
    have hj : Bytes.joined #[47] (ps.map (·.1)) = (pathB l).toArray := by rw [e2]; exact joined_path l
    have hT : s.TypeIs (.bytes #[47] t) "bytes" := by rfl
    refine wpAny_call_entry slot_bytes_join hT entry_bytes_join (run_join hl ?_ ?_ ?_ ?_) (args_bytes_join _ _)
    · rw [e2]
      have key : ∀ (l : List L3) (n : Nat), (l.map fun k => (nmB k).toArray).foldl (· + ·.size) n = n + l.length := by
        intro l
        induction l with
        | nil => intro n; simp
        | cons a l ih => intro n; rw [List.map_cons, List.foldl_cons, ih, List.length_cons]; simp [nmB]; omega
      rw [List.foldl_toArray, key, hlen]
      show 1 * (l.length - 1) + l.length ≤ sizeLine
      omega
    · rw [hj, List.size_toArray]
      cases l with
      | nil => simp [pathB]
      | cons x r => rw [path_len]; simp at hz; omega
    · intro p hp
      subst hp
      refine ⟨_, rfl, k _ s.heap s.toks (Ext.refl _ _) ?_⟩
      have : p.1 = (pathB l).toArray := by rw [← hj]; simp [Bytes.joined]
      rw [← this]; exact .bytes _ _
    · intro _
      refine ⟨_, rfl, k _ s.heap (s.toks + 1) (Ext.refl _ _) ?_⟩
      rw [hj]; exact .bytes _ _

theorem mapM_mkBytes {M : Model} {Q : List Value → Shared → Prop} : ∀ (ds : List (Array UInt8)) (s : Shared), (∀ d ∈ ds, d.size ≤ sizeLine) → (∀ ps tk, ps.map (·.1) = ds → Q (bytesVals ps) { s with toks := tk }) → wpAny M A (ds.mapM (Bytes.Kind.new .bytes)) Q E s
  | [], s, _, h => by rw [List.mapM_nil]; exact wpAny_pure (h [] s.toks rfl)
  | d :: ds, s, hz, h => by
    rw [List.mapM_cons]
    refine wpAny_bind ?_
    show wpAny M A (mkBytes d) _ _ _
    refine wpAny_mkBytes (wpAny_bind (mapM_mkBytes ds _ (fun d' hd => hz d' (.tail _ hd)) fun ps tk e => wpAny_pure ?_)) (hz d (.head _))
    exact h ((d, s.toks) :: ps) tk (by simp [e])

theorem te_split_bytes {l : List L3} {v v' : Value} (hn : s.heap.objs.size ∉ W) (rs : R W (.bytes (pathB l).toArray) s.heap v) (ra : R W (.bytes #[47]) s.heap v') (hz : l.length ≤ 100) : TE (model prog w) A s (call (.builtin "bytes.split") [v, v']) (R W (.list (splitD true l))) := by
  cases rs with
  | bytes x t =>
  cases ra with
  | bytes y u =>
    intro Q E k
    have hs : sizeLine = 16777216 := by decide
    have hT : s.TypeIs (.bytes (pathB l).toArray t) "bytes" := by rfl
    refine wpAny_call_entry slot_bytes_split hT entry_bytes_split ?_ (args_bytes_split _ _)
    show wpAny _ _ (Bytes.splitM .bytes "split" false ⟨[.bytes (pathB l).toArray t, .bytes #[47] u], []⟩) _ _ _
    unfold Bytes.splitM
    dsimp only
    refine wpAny_bind (wpAny_of_eq (a := [some (.bytes #[47] u), none]) (by rfl) ?_)
    dsimp only
    refine wpAny_bind (wpAny_pure (wpAny_bind (wpAny_of_eq (a := (pathB l).toArray) rfl ?_)))
    refine wpAny_bind (wpAny_of_eq (a := #[47]) ?_ ?_)
    · unfold Bytes.bytesLike
      rw [b_buffer]; rfl
    rw [if_neg (by decide)]
    have same : wpAny (model prog w) A.in1 (Bytes.Kind.same .bytes (.bytes (pathB l).toArray t)) (fun x s' => x = .bytes (pathB l).toArray t ∧ s' = s) E s := by
      unfold Bytes.Kind.same
      rw [if_pos (by decide)]
      refine wpAny_bind (wpAny_of_eq (a := .type "bytes") rfl ?_)
      rw [if_pos (by decide)]
      exact wpAny_pure ⟨rfl, rfl⟩
    rw [show (if (-1 : Int) < 0 then (pathB l).toArray.size + 1 else (-1 : Int).toNat) = (pathB l).toArray.size + 1 from rfl]
    simp only [Bool.false_eq_true, if_false]
    cases l with
    | nil =>
      rw [if_pos (by decide)]
      refine wpAny_bind (wpAny_rule (wpAny_bind (wpAny_mono same (fun x s' hx => ?_) fun _ _ e => e)))
      obtain ⟨rfl, rfl⟩ := hx
      refine wpAny_bind (wpAny_newList (wpAny_pure ⟨_, rfl, k _ _ _ (Ext.push _ _) (.list hn ⟨0, Heap.get?_push_size _ rfl⟩ (.cons (.bytes _ _) .nil))⟩) (by rw [hs]; simp))
    | cons x r =>
      rw [places_path]
      cases r with
      | nil =>
        rw [if_pos (by rfl)]
        refine wpAny_bind (wpAny_rule (wpAny_bind (wpAny_mono same (fun x s' hx => ?_) fun _ _ e => e)))
        obtain ⟨rfl, rfl⟩ := hx
        refine wpAny_bind (wpAny_newList (wpAny_pure ⟨_, rfl, k _ _ _ (Ext.push _ _) (.list hn ⟨0, Heap.get?_push_size _ rfl⟩ (.cons (.bytes _ _) .nil))⟩) (by rw [hs]; simp))
      | cons y r =>
        rw [if_neg (by simp [List.range_succ])]
        refine wpAny_bind ?_
        rw [show (#[47] : Array UInt8).size = 1 from rfl, between_path]
        refine mapM_mkBytes _ s (fun d hd => ?_) fun ps tk e => ?_
        · obtain ⟨k', _, rfl⟩ := List.mem_map.mp hd
          show 1 ≤ sizeLine; omega
        · have hlen : ps.length = (x :: y :: r).length := by have := congrArg List.length e; simpa using this
          refine wpAny_bind (wpAny_newList (wpAny_pure ⟨_, rfl, k _ _ tk (Ext.push _ _) (.list hn ⟨0, Heap.get?_push_size _ rfl⟩ ?_)⟩) (by simp [bytesVals, hlen]; simp at hz; omega))
          have := rep_bytesVals (W := W) (h := s.heap.push { cls := .type "list", data := .seq (bytesVals ps).toArray }) e
          rw [List.map_map] at this
          exact this

/-- either way -/
theorem te_join {odd : Bool} {l : List L3} {v v' : Value} (rs : R W (sepD odd) s.heap v) (ra : R W (dW odd l) s.heap v') (hz : l.length ≤ 100) : TE (model prog w) A s (call (.builtin (joinId odd)) [v, v']) (R W (pathD odd l)) := by
  cases odd
  · exact te_join_str rs ra hz
  · exact te_join_bytes rs ra hz
theorem te_split {odd : Bool} {l : List L3} {v v' : Value} (hn : s.heap.objs.size ∉ W) (rs : R W (pathD odd l) s.heap v) (ra : R W (sepD odd) s.heap v') (hz : l.length ≤ 100) : TE (model prog w) A s (call (.builtin (splitI odd)) [v, v']) (R W (.list (splitD odd l))) := by
  cases odd
  · have h1 := te_split_str (prog := prog) (w := w) (A := A) (x := pathS l) hn rs ra (by have := pathS_len l; omega)
    cases l with
    | nil => rw [split_empty] at h1; exact h1
    | cons x r =>
      rw [split_path (by simp)] at h1
      rw [List.map_map] at h1
      exact h1
  · exact te_split_bytes hn rs ra hz
end
end Mine
end

-- W26
noncomputable section
open PySem PySem.W PyProof.Rows PySem.SeqAt PySem.Builtin PySem.MeetsSeq PySem.MeetsSeq2 PySem.MeetsSeq3 PySem.SeqRoads2
open PySem.AutoSeq1 (wpAny_loadPart')
namespace Mine
set_option maxRecDepth 100000

/-- up: is it the question 'less'? -/
def opOf (up : Bool) : CmpOp := cond up .Lt .Gt
def codeOf (up : Bool) : Int := cond up 0 4
def CmpAt (up : Bool) (A : Around) (s : Shared) (y x : Value) (b : Bool) : Prop :=
  ∀ (prog : Program) (w : World) (E : Value → Shared → Prop) (Q : Value → Shared → Prop), Q (.bool b) s → wpAny (model prog w) A (richCompare (opOf up) y x) Q E s

theorem slot_bytes_lt : Slot "bytes" (cmpInfo .Lt).2.1 "bytes.__lt__" :=
  .of (owner := "bytes") (n := "__lt__") (by rw [typeLookup_type, builtinLookup_eq_fast]; kernel_rfl) (by decide +kernel) (by decide +kernel) (by decide +kernel)
    (by first | exact .inl (by decide +kernel) | exact .inr (by decide +kernel)) (by rw [isSubtype_type]; kernel_rfl)
theorem entry_bytes_lt : entryFor table "bytes.__lt__" = some Builtin.«bytes.__lt__» := entryFor_of_tree (by kernel_rfl)
theorem args_bytes_lt (a b : Value) : argsOk "bytes.__lt__" ⟨[a, b], []⟩ := by unfold argsOk; kernel_rfl
theorem slot_bytes_gt : Slot "bytes" (cmpInfo .Gt).2.1 "bytes.__gt__" :=
  .of (owner := "bytes") (n := "__gt__") (by rw [typeLookup_type, builtinLookup_eq_fast]; kernel_rfl) (by decide +kernel) (by decide +kernel) (by decide +kernel)
    (by first | exact .inl (by decide +kernel) | exact .inr (by decide +kernel)) (by rw [isSubtype_type]; kernel_rfl)
theorem entry_bytes_gt : entryFor table "bytes.__gt__" = some Builtin.«bytes.__gt__» := entryFor_of_tree (by kernel_rfl)
theorem args_bytes_gt (a b : Value) : argsOk "bytes.__gt__" ⟨[a, b], []⟩ := by unfold argsOk; kernel_rfl
theorem gives_bytes_lt (b c : Array UInt8) (t u : Tok) : Gives (Builtin.«bytes.__lt__» ⟨[.bytes b t, .bytes c u], []⟩) (.val (.bool (Bytes.order b.toList c.toList == .lt))) := by
  refine .of_wp fun M A E s Q hq => ?_
  show wpAny M A (isInstance (.bytes c u) (.type "bytes") >>= fun r => _) _ E s
  refine wpAny_bind (wpAny_isInstance (typeIs_bytes s c u) F.sub_bytes_bytes ?_)
  exact wpAny_pure ⟨_, rfl, hq⟩
theorem gives_bytes_gt (b c : Array UInt8) (t u : Tok) : Gives (Builtin.«bytes.__gt__» ⟨[.bytes b t, .bytes c u], []⟩) (.val (.bool (Bytes.order b.toList c.toList == .gt))) := by
  refine .of_wp fun M A E s Q hq => ?_
  show wpAny M A (isInstance (.bytes c u) (.type "bytes") >>= fun r => _) _ E s
  refine wpAny_bind (wpAny_isInstance (typeIs_bytes s c u) F.sub_bytes_bytes ?_)
  exact wpAny_pure ⟨_, rfl, hq⟩

def ltN (up : Bool) (i j : L3) : Bool := cond up (decide (i < j)) (decide (j < i))
theorem nmS_lt : ∀ i j : L3, decide ((nmS i).cps.toList < (nmS j).cps.toList) = ltN true i j := by decide
theorem nmS_gt : ∀ i j : L3, decide ((nmS j).cps.toList < (nmS i).cps.toList) = ltN false i j := by decide
theorem nmB_lt : ∀ i j : L3, (Bytes.order (nmB i).toArray.toList (nmB j).toArray.toList == .lt) = ltN true i j := by decide
theorem nmB_gt : ∀ i j : L3, (Bytes.order (nmB i).toArray.toList (nmB j).toArray.toList == .gt) = ltN false i j := by decide
theorem nm_cmp {odd : Bool} {up : Bool} {W W' : List Addr} {h h' : Heap} {v v' : Value} {i j : L3} {A : Around} {s : Shared} (r : Rep W h v (nmD odd i)) (r' : Rep W' h' v' (nmD odd j)) : CmpAt up A s v v' (ltN up i j) := fun prog w E Q hq => by
  cases odd
  · cases r with
    | str x t =>
    cases r' with
    | str y u =>
      cases up
      · show wpAny _ _ (compareOp .Gt (.str (nmS i) t) (.str (nmS j) u)) _ _ _
        refine PySem.P.gt_str ?_
        rw [nmS_gt]; exact hq
      · show wpAny _ _ (compareOp .Lt (.str (nmS i) t) (.str (nmS j) u)) _ _ _
        refine PyProof.Rows.lt_str ?_
        rw [nmS_lt]; exact hq
  · cases r with
    | bytes x t =>
    cases r' with
    | bytes y u =>
      cases up
      · show wpAny _ _ (compareOp .Gt (.bytes (nmB i).toArray t) (.bytes (nmB j).toArray u)) _ _ _
        refine compareOp_gives (op := .Gt) (typeIs_bytes s _ t) (typeIs_bytes s _ u) slot_bytes_gt entry_bytes_gt (args_bytes_gt _ _) (gives_bytes_gt _ _ t u) (fun e => nomatch e) ?_
        show Q (.bool _) s
        rw [nmB_gt]; exact hq
      · show wpAny _ _ (compareOp .Lt (.bytes (nmB i).toArray t) (.bytes (nmB j).toArray u)) _ _ _
        refine compareOp_gives (op := .Lt) (typeIs_bytes s _ t) (typeIs_bytes s _ u) slot_bytes_lt entry_bytes_lt (args_bytes_lt _ _) (gives_bytes_lt _ _ t u) (fun e => nomatch e) ?_
        show Q (.bool _) s
        rw [nmB_lt]; exact hq

/-- the first difference decides, then the lengths -/
def lexR (e c : Nat → Bool) (z : Bool) : Nat → Nat → Bool
  | 0, _ => z
  | k + 1, i => if e i then lexR e c z k (i + 1) else c i
def szR (up : Bool) (m n : Nat) : Bool := cond up (decide (m < n)) (decide (m > n))

theorem cmp_loop (up : Bool) (l b : Addr) (items items2 : Array Value) (n n2 : Nat) (e c : Nat → Bool) (k : Nat) :
    ∀ i : Nat, min items.size items2.size - i = k → i ≤ min items.size items2.size → Meets (Builtin.«list.__eq__.loop» ⟨[.ref l, .ref b, rawInt i, rawInt (codeOf up)], []⟩)
      (fun A R s => s.heap.get? l = some { cls := .type "list", dict := none, data := .seq items n, slots := #[] } ∧ s.heap.get? b = some { cls := .type "list", dict := none, data := .seq items2 n2, slots := #[] } ∧
        (∀ j (h1 : j < items.size) (h2 : j < items2.size), EqAt A.in1 s items[j] items2[j] (e j)) ∧ (∀ j (h1 : j < items.size) (h2 : j < items2.size), e j = false → CmpAt up A.in1 s items[j] items2[j] (c j)) ∧
        R (.ok (.ret (.bool (lexR e c (szR up items.size items2.size) k i)))) s) := by
  induction k with
  | zero =>
    intro i hk hi prog w A R s h
    obtain ⟨hp, g, d, tk, os⟩ := s; obtain ⟨hl, hb, he, hc, h⟩ := h
    cases up
    all_goals
      wp_walk using wpAny_loadPart' hl, wpAny_loadPart' hb
      have hor : items[((i : Nat) : Int).toNat]? = none ∨ items2[((i : Nat) : Int).toNat]? = none := by simp; omega
      have done : ∀ {α : Type} (x y : Option Value) (f : Value → Value → α) (g : α), (x = none ∨ y = none) → (match (x, y) with | (some a, some b) => f a b | _ => g) = g := by
        intro α x y f g hxy
        rcases hxy with rfl | rfl
        · cases y <;> rfl
        · cases x <;> rfl
      refine Eq.mpr (congrArg (fun t => wpAny _ _ t _ _ _) (done _ _ _ _ hor)) ?_
      wp_walk using wpAny_loadPart' hl, wpAny_loadPart' hb
      exact h
  | succ k ih =>
    intro i hk hi prog w A R s h
    obtain ⟨hp, g, d, tk, os⟩ := s; obtain ⟨hl, hb, he, hc, h⟩ := h
    have hlt : i < items.size := by omega
    have hlt2 : i < items2.size := by omega
    have hi1 : items[((i : Nat) : Int).toNat]? = some items[i] := by simp [hlt]
    have hi2 : items2[((i : Nat) : Int).toNat]? = some items2[i] := by simp [hlt2]
    have hcst : ((i : Int) + 1) = ((i + 1 : Nat) : Int) := by push_cast; rfl
    cases up
    all_goals
      wp_walk using wpAny_loadPart' hl, wpAny_loadPart' hb
      rw [hi1, hi2]
      refine wpAny_bind (he i hlt hlt2 prog w _ _ ?_)
      simp only [lexR] at h
      cases hb' : e i with
      | true =>
        rw [hb'] at h
        wp_walk
        rw [hcst]
        exact ⟨plainId_quiet plain_eq_loop _, codeAny_builtin entry_eq_loop (by
          rw [Around.under_plainId plain_eq_loop _]
          exact ih (i + 1) (by omega) (by omega) prog w A R _ ⟨hl, hb, he, hc, by simpa using h⟩)⟩
      | false =>
        rw [hb'] at h
        wp_walk using wpAny_loadPart' hl, wpAny_loadPart' hb
        rw [hi1, hi2]
        refine wpAny_bind (hc i hlt hlt2 hb' prog w _ _ ?_)
        exact wpAny_pure (by simpa using h)

theorem list_cmp_lt (l b : Addr) (items items2 : Array Value) (n n2 : Nat) (e c : Nat → Bool) :
    Meets (Builtin.«list.__lt__» ⟨[.ref l, .ref b], []⟩)
      (fun A R s => s.heap.get? l = some { cls := .type "list", dict := none, data := .seq items n, slots := #[] } ∧ s.heap.get? b = some { cls := .type "list", dict := none, data := .seq items2 n2, slots := #[] } ∧
        (∀ j (h1 : j < items.size) (h2 : j < items2.size), EqAt A.in1 s items[j] items2[j] (e j)) ∧ (∀ j (h1 : j < items.size) (h2 : j < items2.size), e j = false → CmpAt true A.in1 s items[j] items2[j] (c j)) ∧
        R (.ok (.ret (.bool (lexR e c (szR true items.size items2.size) (min items.size items2.size) 0)))) s) := by
  intro prog w A R s h
  obtain ⟨hp, g, d, tk, os⟩ := s; obtain ⟨hl, hb, he, hc, h⟩ := h
  have f3 := AutoSeq1.sub_list_list
  wp_walk using wpAny_loadPart' hl, wpAny_loadPart' hb
  exact ⟨plainId_quiet plain_eq_loop _, codeAny_builtin entry_eq_loop (by
    rw [Around.under_plainId plain_eq_loop _]
    exact cmp_loop true l b items items2 n n2 e c _ 0 (by omega) (by omega) prog w A R _ ⟨hl, hb, he, hc, h⟩)⟩
theorem list_cmp_gt (l b : Addr) (items items2 : Array Value) (n n2 : Nat) (e c : Nat → Bool) :
    Meets (Builtin.«list.__gt__» ⟨[.ref l, .ref b], []⟩)
      (fun A R s => s.heap.get? l = some { cls := .type "list", dict := none, data := .seq items n, slots := #[] } ∧ s.heap.get? b = some { cls := .type "list", dict := none, data := .seq items2 n2, slots := #[] } ∧
        (∀ j (h1 : j < items.size) (h2 : j < items2.size), EqAt A.in1 s items[j] items2[j] (e j)) ∧ (∀ j (h1 : j < items.size) (h2 : j < items2.size), e j = false → CmpAt false A.in1 s items[j] items2[j] (c j)) ∧
        R (.ok (.ret (.bool (lexR e c (szR false items.size items2.size) (min items.size items2.size) 0)))) s) := by
  intro prog w A R s h
  obtain ⟨hp, g, d, tk, os⟩ := s; obtain ⟨hl, hb, he, hc, h⟩ := h
  have f3 := AutoSeq1.sub_list_list
  wp_walk using wpAny_loadPart' hl, wpAny_loadPart' hb
  exact ⟨plainId_quiet plain_eq_loop _, codeAny_builtin entry_eq_loop (by
    rw [Around.under_plainId plain_eq_loop _]
    exact cmp_loop false l b items items2 n n2 e c _ 0 (by omega) (by omega) prog w A R _ ⟨hl, hb, he, hc, h⟩)⟩

theorem CmpAt.lists {up : Bool} {A : Around} {s : Shared} {l b : Addr} {items items2 : Array Value} {e c : Nat → Bool} (hl : s.heap.PlainList l items) (hb : s.heap.PlainList b items2) (hu : A.units < cLine)
    (he : ∀ j (h1 : j < items.size) (h2 : j < items2.size), EqAt A.in1 s items[j] items2[j] (e j)) (hc : ∀ j (h1 : j < items.size) (h2 : j < items2.size), e j = false → CmpAt up A.in1 s items[j] items2[j] (c j)) :
    CmpAt up A s (.ref l) (.ref b) (lexR e c (szR up items.size items2.size) (min items.size items2.size) 0) := fun prog w E Q h => by
  obtain ⟨n, ho⟩ := hl
  obtain ⟨n2, ho2⟩ := hb
  cases up
  · exact richCompare_meets_room (op := .Gt) ⟨_, ho, rfl⟩ ⟨_, ho2, rfl⟩ F.slot_list_gt F.entry_list_gt (F.args_list_gt_2 _ _) (list_cmp_gt l b items items2 n n2 e c)
      ⟨ho, ho2, he, hc, show Value.bool _ ≠ Value.notImplemented ∧ Q (.bool _) s from ⟨(fun x => nomatch x), h⟩⟩ hu
  · exact richCompare_meets_room (op := .Lt) ⟨_, ho, rfl⟩ ⟨_, ho2, rfl⟩ F.slot_list_lt F.entry_list_lt (F.args_list_lt_2 _ _) (list_cmp_lt l b items items2 n n2 e c)
      ⟨ho, ho2, he, hc, show Value.bool _ ≠ Value.notImplemented ∧ Q (.bool _) s from ⟨(fun x => nomatch x), h⟩⟩ hu
end Mine
end

-- W27
noncomputable section
open PySem PySem.W PyProof.Rows PySem.SeqAt PySem.Builtin
namespace Mine
set_option maxRecDepth 100000

theorem toArr_inj {α : Type} {l l' : List α} (h : l.toArray = l'.toArray) : l = l' := by simpa using congrArg Array.toList h
mutual
theorem Rep.fn {W W' : List Addr} {h : Heap} : ∀ {v : Value} {d d' : D}, Rep W h v d → Rep W' h v d' → d = d'
  | _, _, _, .none, q => by cases q; rfl
  | _, _, _, .bool b, q => by cases q; rfl
  | _, _, _, .int i t, q => by cases q; rfl
  | _, _, _, .str i t, q => by cases q; rfl
  | _, _, _, .bytes i t, q => by cases q; rfl
  | _, _, _, .list ha hl r, q => by
    cases q with
    | list ha' hl' r' =>
      obtain ⟨c, e⟩ := hl
      obtain ⟨c', e'⟩ := hl'
      rw [e] at e'
      have e2 : Data.seq _ c = Data.seq _ c' := congrArg (fun o => o.data) (Option.some.inj e')
      injection e2 with e3 _
      have e4 := toArr_inj e3
      subst e4
      rw [Reps.fn r r']
    | tuple ha' hl' r' =>
      obtain ⟨c, e⟩ := hl
      obtain ⟨o', e', hc, _⟩ := hl'
      rw [e] at e'; cases e'
      exact absurd (show (Value.type "list" : Value) = .type "tuple" from hc) (by decide)
  | _, _, _, .tuple ha hl r, q => by
    cases q with
    | tuple ha' hl' r' =>
      obtain ⟨o, e, _, c, ed⟩ := hl
      obtain ⟨o', e', _, c', ed'⟩ := hl'
      rw [e] at e'
      cases e'
      rw [ed] at ed'
      injection ed' with e3 _
      have e4 := toArr_inj e3
      subst e4
      rw [Reps.fn r r']
    | list ha' hl' r' =>
      obtain ⟨c, e⟩ := hl'
      obtain ⟨o', e', hc, _⟩ := hl
      rw [e] at e'; cases e'
      exact absurd (show (Value.type "list" : Value) = .type "tuple" from hc) (by decide)
theorem Reps.fn {W W' : List Addr} {h : Heap} : ∀ {vs : List Value} {ds ds' : List D}, Reps W h vs ds → Reps W' h vs ds' → ds = ds'
  | _, _, _, .nil, q => by cases q; rfl
  | _, _, _, .cons a b, q => by cases q with | cons a' b' => rw [Rep.fn a a', Reps.fn b b']
end

def codeD (odd : Bool) : Cd L3 → D
  | .e => .list []
  | .n f a g b => .list [codeD odd f, dW odd [a], codeD odd g, dW odd [b]]
theorem nmD_inj {odd : Bool} {i j : L3} (h : nmD odd i = nmD odd j) : i = j := by
  cases odd
  · exact nmS_inj i j (by injection h)
  · refine nmB_inj i j ?_
    have : (nmB i).toArray = (nmB j).toArray := by injection h
    exact toArr_inj this
theorem codeD_inj {odd : Bool} : ∀ {x y : Cd L3}, codeD odd x = codeD odd y → x = y
  | .e, .e, _ => rfl
  | .e, .n .., h => by simp [codeD] at h
  | .n .., .e, h => by simp [codeD] at h
  | .n f a g b, .n f' a' g' b', h => by
    simp only [codeD, D.list.injEq, List.cons.injEq, and_true, dW, List.map_cons, List.map_nil] at h
    rw [codeD_inj h.1, nmD_inj h.2.1, codeD_inj h.2.2.1, nmD_inj h.2.2.2]

def beqC : Cd L3 → Cd L3 → Bool
  | .e, .e => true
  | .n f a g b, .n f' a' g' b' => beqC f f' && (decide (a = a') && (beqC g g' && decide (b = b')))
  | _, _ => false
theorem beqC_iff : ∀ x y : Cd L3, beqC x y = true ↔ x = y
  | .e, .e => by simp [beqC]
  | .e, .n .. => by simp [beqC]
  | .n .., .e => by simp [beqC]
  | .n f a g b, .n f' a' g' b' => by simp [beqC, beqC_iff f f', beqC_iff g g']
theorem beqC_self (x : Cd L3) : beqC x x = true := (beqC_iff x x).mpr rfl
def dp : Cd L3 → Nat
  | .e => 1
  | .n f _ g _ => dp f + dp g + 2
def cmpC (up : Bool) : Cd L3 → Cd L3 → Bool
  | .e, .e => false
  | .e, .n .. => up
  | .n .., .e => !up
  | .n f a g b, .n f' a' g' b' => if beqC f f' then (if a = a' then (if beqC g g' then (if b = b' then false else ltN up b b') else cmpC up g g') else ltN up a a') else cmpC up f f'
theorem cmpC_self (up : Bool) (x : Cd L3) : cmpC up x x = false := by
  cases x <;> simp [cmpC, beqC_self]
theorem ltN_tri : ∀ i j : L3, i ≠ j → ltN true i j ≠ ltN false i j := by decide
theorem cmpC_tri : ∀ x y : Cd L3, x ≠ y → cmpC true x y ≠ cmpC false x y
  | .e, .e, h => absurd rfl h
  | .e, .n .., _ => by simp [cmpC]
  | .n .., .e, _ => by simp [cmpC]
  | .n f a g b, .n f' a' g' b', h => by
    simp only [cmpC]
    by_cases h1 : beqC f f' = true
    · rw [if_pos h1, if_pos h1]
      by_cases h2 : a = a'
      · rw [if_pos h2, if_pos h2]
        by_cases h3 : beqC g g' = true
        · rw [if_pos h3, if_pos h3]
          by_cases h4 : b = b'
          · exact absurd (by rw [(beqC_iff f f').mp h1, h2, (beqC_iff g g').mp h3, h4]) h
          · rw [if_neg h4, if_neg h4]; exact ltN_tri b b' h4
        · rw [if_neg h3, if_neg h3]; exact cmpC_tri g g' fun q => h3 ((beqC_iff g g').mpr q)
      · rw [if_neg h2, if_neg h2]; exact ltN_tri a a' h2
    · rw [if_neg h1, if_neg h1]; exact cmpC_tri f f' fun q => h1 ((beqC_iff f f').mpr q)

section
variable {W : List Addr} {A : Around} {s : Shared} {odd : Bool}
theorem eq_of_rc {v v' : Value} {d d' : D} {k : Bool} (ra : Rep W s.heap v d) (rb : Rep W s.heap v' d') (hv : ∃ a, v = .ref a) (hv' : ∃ a, v' = .ref a) (hk : d = d' → k = true) (h : RcAt A s v v' k) : EqAt A s v v' k := by
  obtain ⟨a, rfl⟩ := hv
  obtain ⟨b, rfl⟩ := hv'
  by_cases hab : a = b
  · subst hab
    rw [hk (Rep.fn ra rb)]
    exact EqAt.same _
  · exact EqAt.of_refs hab h
theorem rep_ref {v : Value} {ds : List D} (r : Rep W s.heap v (.list ds)) : ∃ a, v = .ref a := by cases r; exact ⟨_, rfl⟩
theorem code_ref {v : Value} {c : Cd L3} (r : Rep W s.heap v (codeD odd c)) : ∃ a, v = .ref a := by cases c <;> exact rep_ref r
theorem row_eqAt {v v' : Value} {l l' : List L3} (ra : Rep W s.heap v (dW odd l)) (rb : Rep W s.heap v' (dW odd l')) (hu : A.units < cLine) : EqAt A s v v' (decide (l = l')) :=
  eq_of_rc ra rb (rep_ref ra) (rep_ref rb) (fun q => by
    have : l.map (nmD odd) = l'.map (nmD odd) := by injection q
    have := List.map_inj_right (fun x y h => nmD_inj h) |>.mp this
    simpa using this) (words_eq ra rb hu).1

theorem isList_of {h : Heap} {a : Addr} {vs : Array Value} (x : h.PlainList a vs) : h.IsList a vs := let ⟨c, e⟩ := x; ⟨_, e, rfl, c, rfl⟩

theorem reps1 {h : Heap} {vs : List Value} {d0 : D} (r : Reps W h vs [d0]) : ∃ x0, vs = [x0] ∧ Rep W h x0 d0 := by
  cases r with | cons a r => cases r; exact ⟨_, rfl, a⟩
theorem reps4 {h : Heap} {vs : List Value} {d0 d1 d2 d3 : D} (r : Reps W h vs [d0, d1, d2, d3]) : ∃ x0 x1 x2 x3, vs = [x0, x1, x2, x3] ∧ Rep W h x0 d0 ∧ Rep W h x1 d1 ∧ Rep W h x2 d2 ∧ Rep W h x3 d3 := by
  cases r with | cons a r => cases r with | cons b r => cases r with | cons c r => cases r with | cons d r => cases r; exact ⟨_, _, _, _, rfl, a, b, c, d⟩
theorem code_rc : ∀ (c c' : Cd L3) (A : Around) (v v' : Value), A.units + dp c < cLine → Rep W s.heap v (codeD odd c) → Rep W s.heap v' (codeD odd c') → RcAt A s v v' (beqC c c')
  | .e, .e, A, v, v', hu, ra, rb => by
    have := words_eq (odd := odd) (l := []) (l' := []) ra rb (Nat.lt_of_le_of_lt (Nat.le_add_right ..) hu)
    exact this.1
  | .e, .n f a g b, A, v, v', hu, ra, rb => by
    cases ra with
    | list ha hl r =>
    cases rb with
    | list hb hl' r' =>
      have h1 := r.length
      have h2 := r'.length
      exact RcAt.lists_lengths (isList_of hl) (isList_of hl') (by simp at h1 h2; simp [h1, h2]) (Nat.lt_of_le_of_lt (Nat.le_add_right ..) hu)
  | .n f a g b, .e, A, v, v', hu, ra, rb => by
    cases ra with
    | list ha hl r =>
    cases rb with
    | list hb hl' r' =>
      have h1 := r.length
      have h2 := r'.length
      exact RcAt.lists_lengths (isList_of hl) (isList_of hl') (by simp at h1 h2; simp [h1, h2]) (Nat.lt_of_le_of_lt (Nat.le_add_right ..) hu)
  | .n f a g b, .n f' a' g' b', A, v, v', hu, ra, rb => by
    cases ra with
    | list ha hl r =>
    cases rb with
    | list hb hl' r' =>
        obtain ⟨x0, x1, x2, x3, rfl, r0, r1, r2, r3⟩ := reps4 r
        obtain ⟨y0, y1, y2, y3, rfl, q0, q1, q2, q3⟩ := reps4 r'
        have hd : dp (.n f a g b) = dp f + dp g + 2 := rfl
        have hu1 : A.in1.units + dp f < cLine := by rw [hd] at hu; have : A.in1.units = A.units + 1 := rfl; omega
        have hu2 : A.in1.units + dp g < cLine := by rw [hd] at hu; have : A.in1.units = A.units + 1 := rfl; omega
        have hu3 : A.in1.units < cLine := by omega
        have e0 := eq_of_rc (A := A.in1) r0 q0 (code_ref r0) (code_ref q0) (fun q => (beqC_iff f f').mpr (codeD_inj q)) (code_rc f f' A.in1 _ _ hu1 r0 q0)
        have e1 := row_eqAt (A := A.in1) r1 q1 hu3
        have e2 := eq_of_rc (A := A.in1) r2 q2 (code_ref r2) (code_ref q2) (fun q => (beqC_iff g g').mpr (codeD_inj q)) (code_rc g g' A.in1 _ _ hu2 r2 q2)
        have e3 := row_eqAt (A := A.in1) r3 q3 hu3
        have := RcAt.lists (A := A) (s := s) (e := fun j => match j with | 0 => beqC f f' | 1 => decide ([a] = [a']) | 2 => beqC g g' | _ => decide ([b] = [b'])) (isList_of hl) (isList_of hl') rfl (by omega) (fun j h1 h2 => by
          match j, h1, h2 with
          | 0, _, _ => exact e0
          | 1, _, _ => exact e1
          | 2, _, _ => exact e2
          | 3, _, _ => exact e3
          | j + 4, h1, _ => simp at h1; omega)
        have hb : (List.range 4).all (fun j => match j with | 0 => beqC f f' | 1 => decide ([a] = [a']) | 2 => beqC g g' | _ => decide ([b] = [b'])) = beqC (.n f a g b) (.n f' a' g' b') := by
          simp [List.range_succ, beqC, Bool.and_assoc]
        rw [← hb]; exact this

theorem row_cmp {up : Bool} {v v' : Value} {a a' : L3} (ra : Rep W s.heap v (dW odd [a])) (rb : Rep W s.heap v' (dW odd [a'])) (hu : A.units < cLine) : CmpAt up A s v v' (if a = a' then false else ltN up a a') := by
  cases ra with
  | list ha hl r =>
  cases rb with
  | list hb hl' r' =>
      obtain ⟨x0, rfl, r0⟩ := reps1 r
      obtain ⟨y0, rfl, q0⟩ := reps1 r'
      have := CmpAt.lists (up := up) (A := A) (s := s) (e := fun _ => decide (a = a')) (c := fun _ => ltN up a a') hl hl' hu (fun j h1 h2 => by
        match j, h1, h2 with
        | 0, _, _ => exact nm_eqAt r0 q0
        | j + 1, h1, _ => simp at h1) (fun j h1 h2 _ => by
        match j, h1, h2 with
        | 0, _, _ => exact nm_cmp r0 q0
        | j + 1, h1, _ => simp at h1)
      have hb : lexR (fun _ => decide (a = a')) (fun _ => ltN up a a') (szR up 1 1) 1 0 = (if a = a' then false else ltN up a a') := by
        simp only [lexR, decide_eq_true_eq]
        by_cases q : a = a'
        · rw [if_pos q, if_pos q]; cases up <;> rfl
        · rw [if_neg q, if_neg q]
      rw [← hb]; exact this

theorem code_cmp {up : Bool} : ∀ (c c' : Cd L3) (A : Around) (v v' : Value), A.units + dp c < cLine → Rep W s.heap v (codeD odd c) → Rep W s.heap v' (codeD odd c') → CmpAt up A s v v' (cmpC up c c')
  | .e, .e, A, v, v', hu, ra, rb => by
    cases ra with
    | list ha hl r =>
    cases rb with
    | list hb hl' r' =>
      cases r; cases r'
      have := CmpAt.lists (up := up) (A := A) (s := s) (e := fun _ => true) (c := fun _ => true) hl hl' (by omega) (fun j h1 _ => by simp at h1) (fun j h1 _ _ => by simp at h1)
      have hb : lexR (fun _ => true) (fun _ => true) (szR up 0 0) 0 0 = cmpC up .e .e := by cases up <;> rfl
      rw [← hb]; exact this
  | .e, .n f a g b, A, v, v', hu, ra, rb => by
    cases ra with
    | list ha hl r =>
    cases rb with
    | list hb hl' r' =>
      cases r
      obtain ⟨y0, y1, y2, y3, rfl, q0, q1, q2, q3⟩ := reps4 r'
      have := CmpAt.lists (up := up) (A := A) (s := s) (e := fun _ => true) (c := fun _ => true) hl hl' (by omega) (fun j h1 _ => by simp at h1) (fun j h1 _ _ => by simp at h1)
      have hb : lexR (fun _ => true) (fun _ => true) (szR up 0 4) 0 0 = cmpC up .e (.n f a g b) := by cases up <;> rfl
      rw [← hb]; exact this
  | .n f a g b, .e, A, v, v', hu, ra, rb => by
    cases ra with
    | list ha hl r =>
    cases rb with
    | list hb hl' r' =>
      cases r'
      obtain ⟨y0, y1, y2, y3, rfl, q0, q1, q2, q3⟩ := reps4 r
      have := CmpAt.lists (up := up) (A := A) (s := s) (e := fun _ => true) (c := fun _ => true) hl hl' (by omega) (fun j _ h1 => by simp at h1) (fun j _ h1 _ => by simp at h1)
      have hb : lexR (fun _ => true) (fun _ => true) (szR up 4 0) 0 0 = cmpC up (.n f a g b) .e := by cases up <;> rfl
      rw [← hb]; exact this
  | .n f a g b, .n f' a' g' b', A, v, v', hu, ra, rb => by
    cases ra with
    | list ha hl r =>
    cases rb with
    | list hb hl' r' =>
        obtain ⟨x0, x1, x2, x3, rfl, r0, r1, r2, r3⟩ := reps4 r
        obtain ⟨y0, y1, y2, y3, rfl, q0, q1, q2, q3⟩ := reps4 r'
        have hd : dp (.n f a g b) = dp f + dp g + 2 := rfl
        have hu1 : A.in1.units + dp f < cLine := by rw [hd] at hu; have : A.in1.units = A.units + 1 := rfl; omega
        have hu2 : A.in1.units + dp g < cLine := by rw [hd] at hu; have : A.in1.units = A.units + 1 := rfl; omega
        have hu3 : A.in1.units < cLine := by omega
        have e0 := eq_of_rc (A := A.in1) r0 q0 (code_ref r0) (code_ref q0) (fun q => (beqC_iff f f').mpr (codeD_inj q)) (code_rc f f' A.in1 _ _ hu1 r0 q0)
        have e1 := row_eqAt (A := A.in1) r1 q1 hu3
        have e2 := eq_of_rc (A := A.in1) r2 q2 (code_ref r2) (code_ref q2) (fun q => (beqC_iff g g').mpr (codeD_inj q)) (code_rc g g' A.in1 _ _ hu2 r2 q2)
        have e3 := row_eqAt (A := A.in1) r3 q3 hu3
        have c0 := code_cmp (up := up) f f' A.in1 _ _ hu1 r0 q0
        have c1 := row_cmp (up := up) (A := A.in1) r1 q1 hu3
        have c2 := code_cmp (up := up) g g' A.in1 _ _ hu2 r2 q2
        have c3 := row_cmp (up := up) (A := A.in1) r3 q3 hu3
        have := CmpAt.lists (up := up) (A := A) (s := s) (e := fun j => match j with | 0 => beqC f f' | 1 => decide ([a] = [a']) | 2 => beqC g g' | _ => decide ([b] = [b']))
          (c := fun j => match j with | 0 => cmpC up f f' | 1 => (if a = a' then false else ltN up a a') | 2 => cmpC up g g' | _ => (if b = b' then false else ltN up b b')) hl hl' (by omega) (fun j h1 h2 => by
          match j, h1, h2 with
          | 0, _, _ => exact e0
          | 1, _, _ => exact e1
          | 2, _, _ => exact e2
          | 3, _, _ => exact e3
          | j + 4, h1, _ => simp at h1; omega) (fun j h1 h2 _ => by
          match j, h1, h2 with
          | 0, _, _ => exact c0
          | 1, _, _ => exact c1
          | 2, _, _ => exact c2
          | 3, _, _ => exact c3
          | j + 4, h1, _ => simp at h1; omega)
        have hb : lexR (fun j => match j with | 0 => beqC f f' | 1 => decide ([a] = [a']) | 2 => beqC g g' | _ => decide ([b] = [b']))
            (fun j => match j with | 0 => cmpC up f f' | 1 => (if a = a' then false else ltN up a a') | 2 => cmpC up g g' | _ => (if b = b' then false else ltN up b b')) (szR up 4 4) 4 0 = cmpC up (.n f a g b) (.n f' a' g' b') := by
          have hz : szR up 4 4 = false := by cases up <;> rfl
          simp only [lexR, cmpC, hz, decide_eq_true_eq, List.cons.injEq, and_true]
          by_cases h1 : beqC f f' = true
          · rw [if_pos h1, if_pos h1]
            by_cases h2 : a = a'
            · rw [if_pos h2, if_pos h2]
              by_cases h3 : beqC g g' = true
              · rw [if_pos h3, if_pos h3]
                by_cases h4 : b = b'
                · rw [if_pos h4, if_pos h4]
                · rw [if_neg h4, if_neg h4]
              · rw [if_neg h3, if_neg h3]
            · rw [if_neg h2, if_neg h2, if_neg h2]
          · rw [if_neg h1, if_neg h1]
        rw [← hb]; exact this
end
end Mine
end

-- W28
noncomputable section
open PySem PySem.W PyProof.Rows PySem.SeqAt PySem.Builtin
namespace Mine
set_option maxRecDepth 100000

section
variable {prog : Program} {w : World} {base h : Heap} {W : List Addr} {n : Nat} {A : Around} {env : Env} {m : Vars} {s : Shared} {E : Value → Shared → Prop} {odd : Bool}

/-- isinstance(path, bytes) -/
theorem bytes_meta : typeOf (.type "bytes") = pure (.type "type") := by first | rfl | kernel_rfl
theorem te_isinst {l : List L3} {v : Value} (ra : R W (pathD odd l) s.heap v) : TE (model prog w) A s (call (.builtin "isinstance") [v, .type "bytes"]) (V (.bool odd)) := by
  cases odd
  · cases ra with
    | str x t => exact fun Q E k => IsiPair.str_bytes (k _ s.heap (s.toks + 1) (Ext.refl _ _) rfl)
  · cases ra with
    | bytes x t => exact fun Q E k => call_isinstance (isinstance_true (Tx := "bytes") bytes_meta F.sub_bytes_bytes) ⟨rfl, k _ s.heap s.toks (Ext.refl _ _) rfl⟩

/-- path[:0] -/
def emptyD (odd : Bool) : D := pathD odd []
theorem te_cut0 {l : List L3} {v i : Value} (ra : R W (pathD odd l) s.heap v) (ri : Sl none (some 0) none s.heap i) : TE (model prog w) A s (PySem.getItem v i) (R W (emptyD odd)) := by
  obtain ⟨a, vl, vu, vs, rfl, hsl, p1, p2, p3⟩ := ri
  cases p1; cases p3
  cases odd
  · cases ra with
    | str x t =>
      intro Q E k
      cases p2 with
      | int _ u =>
        refine getItem_meets (typeIs_str _ _ _) (by decide) F.slot_str_getitem F.entry_str_getitem (F.args_str_getitem_2 _ _) (meets_str_getitem_slice (pathS l) t a none (some (0, u)) none (by decide)) ⟨hsl, ?_⟩
        have hp : slicePicked (pathS l) none (some (0, u)) none = [] := by
          show Builtin.Str.strSliceIndices none (some ((0 : Nat) : Int)) 1 (pathS l).length = []
          simp only [Builtin.Str.strSliceIndices, sliceRange]
          simp
          split <;> omega
        have fin : ∀ t' k', Q (.str (pathS []) t') { s with toks := k' } := fun t' k' => k _ s.heap k' (Ext.refl _ _) (.str _ _)
        unfold sliceMade
        rw [hp]
        by_cases hz : (pathS l).length = 0
        · rw [if_pos (by simp [hz])]
          have e : pathS l = pathS [] := by
            apply Str.ext'
            have h1 : (pathS l).cps.size = 0 := hz
            rw [Array.eq_empty_of_size_eq_zero h1]; rfl
          rw [e]; exact fin _ _
        · rw [if_neg (by simp; omega)]
          exact ⟨by show 0 ≤ sizeLine; exact Nat.zero_le _, fin _ _⟩
  · cases ra with
    | bytes x t =>
      intro Q E k
      have hp : KBy.picked (pathB l).toArray none (some 0) = #[] := by
        rw [KBc.picked_eq]
        have : clipAt (pathB l).toArray.size 0 = 0 := by rw [show (0 : Int) = ((0 : Nat) : Int) from rfl, clipAt_nat]; simp
        simp only [Option.elim, this]; simp
      refine getItem_meets (typeIs_bytes _ _ _) (by decide) FB.slot_bytes_getitem FB.entry_bytes_getitem (FB.args_bytes_getitem_2 _ _) (KBc.meets_slice2 _ t _ IsPart.none p2) ⟨hsl, by rw [hp]; decide, fun t' k' => ?_⟩
      rw [hp]
      exact k _ s.heap k' (Ext.refl _ _) (.bytes _ _)

/-- name != '' -/
theorem te_ne_name {k : L3} {v v' : Value} (ra : R W (nmD odd k) s.heap v) (rb : R W (emptyD odd) s.heap v') : TE (model prog w) A s (compareOp .NotEq v v') (V (.bool true)) := by
  cases odd
  · cases ra with
    | str x t =>
    cases rb with
    | str y u =>
      intro Q E kk
      refine PyProof.Rows.ne_str ?_
      have : ∀ k : L3, (nmS k != pathS []) = true := by decide
      have e := this k
      first | (rw [e]; exact kk _ s.heap s.toks (Ext.refl _ _) rfl) | (simp only [bne, e]; exact kk _ s.heap s.toks (Ext.refl _ _) rfl) | exact kk _ s.heap s.toks (Ext.refl _ _) (by revert k; decide)
  · cases ra with
    | bytes x t =>
    cases rb with
    | bytes y u =>
      intro Q E kk
      refine ne_bytes ?_
      have : ∀ k : L3, ((nmB k).toArray.toList != (pathB []).toArray.toList) = true := by decide
      rw [this k]
      exact kk _ s.heap s.toks (Ext.refl _ _) rfl
theorem te_ne_empty {v v' : Value} (ra : R W (emptyD odd) s.heap v) (rb : R W (emptyD odd) s.heap v') : TE (model prog w) A s (compareOp .NotEq v v') (V (.bool false)) := by
  cases odd
  · cases ra with
    | str x t =>
    cases rb with
    | str y u =>
      intro Q E kk
      refine PyProof.Rows.ne_str ?_
      have e : (pathS [] != pathS []) = false := by decide
      first | (rw [e]; exact kk _ s.heap s.toks (Ext.refl _ _) rfl) | exact kk _ s.heap s.toks (Ext.refl _ _) rfl
  · cases ra with
    | bytes x t =>
    cases rb with
    | bytes y u =>
      intro Q E kk
      refine ne_bytes ?_
      rw [show ((pathB []).toArray.toList != (pathB []).toArray.toList) = false from by decide]
      exact kk _ s.heap s.toks (Ext.refl _ _) rfl

/-- rows of ints -/
def intsD (ns : List Int) : D := .list (ns.map .int)
theorem ints_rep {h : Heap} : ∀ {vs : List Value} {ns : List Int}, Reps W h vs (ns.map .int) → ∃ xs : List (Int × Tok), vs = xs.map (fun p => .int p.1 p.2) ∧ xs.map (·.1) = ns
  | [], [], _ => ⟨[], rfl, rfl⟩
  | v :: vs, k :: l, .cons a b => by
    obtain ⟨ps, e1, e2⟩ := ints_rep b
    cases a with
    | int x t => exact ⟨(k, t) :: ps, by rw [e1]; rfl, by simp [e2]⟩
theorem intsAre_of {h : Heap} : ∀ {vs : List Value} {ns : List Int}, Reps W h vs (ns.map .int) → IntsAre vs ns
  | [], [], _ => .nil
  | v :: vs, k :: l, .cons a b => by
    cases a with
    | int x t => exact .cons k t (intsAre_of b)
theorem reps_intsAre {h : Heap} {vs : List Value} {ns : List Int} (x : IntsAre vs ns) : Reps W h vs (ns.map .int) := by
  induction x with
  | nil => exact .nil
  | cons n t _ ih => exact .cons (.int _ _) ih

theorem te_sorted {ns : List Int} {v : Value} (hn : s.heap.objs.size + 1 ∉ W) (ra : R W (intsD ns) s.heap v) (hz : ns.length < 64) : TE (model prog w) A s (call (.builtin "sorted") [v]) (fun h' v' => ∃ ns', ns'.Perm ns ∧ ns'.Pairwise (· ≤ ·) ∧ R W (intsD ns') h' v') := by
  cases ra with
  | list ha hl r =>
    rename_i a vs
    intro Q E k
    refine sorted_ints hl.isList (intsAre_of r) (by rw [r.length]; simpa using hz) fun out ns' a1 a2 a3 => ?_
    obtain ⟨e, he⟩ := sortedAll_at s.heap vs out
    refine k _ _ s.toks (Ext.of_stays fun _ _ => sortedAll_old) ⟨ns', a2, a3, .list (vs := out.toList) hn ⟨e, ?_⟩ (reps_intsAre a1)⟩
    rw [Array.toArray_toList]; exact he
theorem te_sum {ns : List Int} {v : Value} (hh : A.handled = none) (ra : R W (intsD ns) s.heap v) : TE (model prog w) A s (call (.builtin "sum") [v]) (R W (.int ns.sum)) := by
  cases ra with
  | list ha hl r =>
    rename_i a vs
    intro Q E k
    obtain ⟨xs, e1, e2⟩ := ints_rep r
    have hl' : s.heap.IsList a (intItems xs.toArray) := by
      have := hl.isList
      rw [e1] at this
      have e : intItems xs.toArray = (xs.map fun p => Value.int p.1 p.2).toArray := by simp [intItems]
      rw [e]; exact this
    refine sum_intListG hh hl' fun h' tk t' hk => ?_
    have : preSum (numAt xs.toArray) xs.toArray.size = ns.sum := by
      rw [preSum_eq, List.take_of_length_le (by simp)]
      rw [← e2]
    rw [this]
    exact k _ h' tk (Ext.of_stays hk) (.int _ _)

theorem te_max {ns : List Int} {v : Value} (hh : A.handled = none) (ra : R W (intsD ns) s.heap v) (hne : ns ≠ []) : TE (model prog w) A s (call (.builtin "max") [v]) (fun h' v' => ∃ x, x ∈ ns ∧ (∀ y ∈ ns, y ≤ x) ∧ R W (.int x) h' v') := by
  cases ra with
  | list ha hl r =>
    rename_i a vs
    intro Q E k
    obtain ⟨xs, e1, e2⟩ := ints_rep r
    have hl' : s.heap.IsList a (intItems xs.toArray) := by
      have := hl.isList
      rw [e1] at this
      have e : intItems xs.toArray = (xs.map fun p => Value.int p.1 p.2).toArray := by simp [intItems]
      rw [e]; exact this
    have hlen : xs.length = ns.length := by have := congrArg List.length e2; simpa using this
    have hpos : 0 < ns.length := List.length_pos_iff.mpr hne
    refine max_intList hh hl' (by simp; omega) fun v' h' tk hv hk => ?_
    obtain ⟨b1, b2⟩ := argBest_gt (numAt xs.toArray) (xs.toArray.size - 1)
    generalize hj : argBest (fun i j => decide (numAt xs.toArray i > numAt xs.toArray j)) (xs.toArray.size - 1) = j at hv b1 b2
    have hjl : j < xs.length := by simp at b1; omega
    have hnum : ∀ i (hi : i < xs.length), numAt xs.toArray i = xs[i].1 := fun i hi => by simp [numAt, hi]
    have hv' : v' = .int xs[j].1 xs[j].2 := by
      simp [intItems, hjl] at hv
      exact hv.symm
    refine k _ h' tk (Ext.of_stays hk) ⟨xs[j].1, ?_, fun y hy => ?_, by rw [hv']; exact .int _ _⟩
    · rw [← e2]; exact List.mem_map.mpr ⟨_, List.getElem_mem hjl, rfl⟩
    · rw [← e2] at hy
      obtain ⟨p, hp, rfl⟩ := List.mem_map.mp hy
      obtain ⟨i, hi, rfl⟩ := List.getElem_of_mem hp
      have := b2 i (by simp; omega)
      rw [hnum i hi, hnum j hjl] at this
      exact this

/-- a is not b, on truth values -/
theorem te_isnot_bool {a b : Bool} {v v' : Value} (ra : R W (.bool a) s.heap v) (rb : R W (.bool b) s.heap v') : TE (model prog w) A s (compareOp .IsNot v v') (V (.bool (!decide (a = b)))) := by
  cases ra; cases rb
  intro Q E k
  have e : (!(Value.bool a == Value.bool b)) = !decide (a = b) := by cases a <;> cases b <;> rfl
  exact wpAny_pure (a := Value.bool (!(Value.bool a == Value.bool b))) (by rw [e]; exact k _ s.heap s.toks (Ext.refl _ _) rfl)
theorem pe_neg {e : Expr} {i : Int} {pos : Pos} (he : PE (model prog w) A env h e (R W (.int i))) : PE (model prog w) A env h (.UnaryOp .USub e pos) (R W (.int (-i))) := by
  intro s hs Q E k
  refine UnaryOp_ (he s hs _ _ fun v h1 t1 x1 p1 => ?_)
  cases p1
  exact PyProof.Rows.neg_int (k _ h1 _ x1 (.int _ _))
theorem pt_bool {x : Expr} {b : Bool} (he : PE (model prog w) A env h x (R W (.bool b))) (ht : ∀ whole, isTrue x env whole = (do let v ← whole; standAt x.pos; holding [v] (truthy v)) := by intro _; rfl) : PT (model prog w) A env h x b := by
  intro s hs Q E k
  refine wpAny_isTrue_value (he s hs _ _ fun v h1 t1 x1 p1 => ?_) (ht _)
  cases p1
  exact wpAny_truthy_bool (k b h1 t1 x1 rfl)
/-- the truth of a row -/
theorem pt_list {x : Expr} {L : Addr} {vs : List Value} (he : PE (model prog w) A env h x (V (.ref L))) (hL : ∀ h', Ext (zone A) h h' → h'.PlainList L vs.toArray) (hz : vs.length ≤ sizeLine) (ht : ∀ whole, isTrue x env whole = (do let v ← whole; standAt x.pos; holding [v] (truthy v)) := by intro _; rfl) : PT (model prog w) A env h x (!vs.isEmpty) := by
  intro s hs Q E k
  refine wpAny_isTrue_value (he s hs _ _ fun v h1 t1 x1 p1 => ?_) (ht _)
  cases p1
  have hs' : sizeLine = 16777216 := by decide
  refine wpAny_truthy_list (hL _ (hs.trans x1)).isList (by simp; omega) ?_
  have e : (!vs.toArray.isEmpty) = !vs.isEmpty := by cases vs <;> rfl
  rw [e]
  exact k _ h1 _ x1 rfl
theorem pt_and {x y : Expr} {a b : Bool} {pos : Pos} (hx : PT (model prog w) A env h x a) (hy : PT (model prog w) A env h y b) : PT (model prog w) A env h (.BoolOp .And [x, y] pos) (a && b) := by
  intro s hs Q E k
  refine wpAny_isTrue_BoolOp (wpAny_allTrue_And_cons (hx s hs _ _ fun v h1 t1 x1 p1 => ?_))
  subst p1
  cases v with
  | false => exact k _ h1 t1 x1 rfl
  | true =>
    rw [if_pos rfl]
    refine wpAny_allTrue_And_cons (hy { s with heap := h1, toks := t1 } (hs.trans x1) _ _ fun v h2 t2 x2 p2 => ?_)
    subst p2
    cases v with
    | false => exact k _ h2 t2 (x1.trans x2) rfl
    | true => rw [if_pos rfl]; exact wpAny_allTrue_And_nil (k _ h2 t2 (x1.trans x2) rfl)
theorem pt_true {k : Nat} {pos : Pos} : PT (model prog w) A env h (.Constant (.bool true) k pos) true := pt_bool (W := []) PE.boolc (by intro _; rfl)
/-- not x, as a value -/
theorem pe_not {x : Expr} {b : Bool} {pos : Pos} {P : P3} (he : PE (model prog w) A env h x P) (ht : ∀ (s : Shared) v, Ext (zone A) h s.heap → P s.heap v → TE (model prog w) A s (truthy v) (fun _ c => c = b)) : PE (model prog w) A env h (.UnaryOp .Not x pos) (R W (.bool (!b))) := by
  intro s hs Q E k
  refine UnaryOp_ (he s hs _ _ fun v h1 t1 x1 p1 => ?_)
  show wpAny _ _ (holding [v] (do return Value.bool !(← truthy v))) _ _ _
  refine wpAny_holding ?_
  refine wpAny_bind (ht { s with heap := h1, toks := t1 } v (hs.trans x1) p1 _ _ fun c h2 t2 x2 p2 => wpAny_pure ?_)
  subst p2
  exact k _ h2 t2 (x1.trans x2) (.bool _)
end
end Mine
end

-- W29
noncomputable section
open PySem PySem.W PyProof.Rows PySem.SeqAt
namespace Mine
/-- the heap has moved on: what lay outside W lies outside W' as it was -/
structure Mv (W : List Addr) (h : Heap) (W' : List Addr) (h' : Heap) : Prop where
  new : ∀ a ∈ W', a ∈ W ∨ h.get? a = none
  md : MutD W' h h'
theorem Mv.rep {W W' : List Addr} {h h' : Heap} (x : Mv W h W' h') {v : Value} {d : D} (r : Rep W h v d) : Rep W' h' v d := Rep.mutD x.md (Rep.anti x.new r)
theorem Mv.step {W W' : List Addr} {h h' h'' : Heap} (x : Mv W h W' h') (y : MutD W' h' h'') : Mv W h W' h'' := ⟨x.new, x.md.trans y⟩
theorem Mv.rs {prog : Program} {w : World} {odd : Bool} {l : List L3} {W W' : List Addr} {h h' : Heap} (x : Mv W h W' h') {v : Value} (r : RS prog w W odd l h v) : RS prog w W' odd l h' v := RS.mutD (RS.anti r x.new) x.md
section
variable {prog : Program} {w : World} {base h : Heap} {W : List Addr} {n : Nat} {A : Around} {env cenv : Env} {m : Vars} {s : Shared} {E : Value → Shared → Prop}

theorem comp2_bodyM {elt iter iter2 c : Expr} {x y : Str} {px py : Pos} {scope : Scope} {cl : List (Str × Addr)} {pos : Pos} {ds : List D} (ds2 : Nat → List D) (test : Nat → Nat → Bool) (val : Nat → Nat → D) (b : Nat)
    (hw : Ext (zone A) h s.heap) (F : Fx base W n A env h m) (hx : (relabel scope env).names.lookup x = some .local) (hy : (relabel scope env).names.lookup y = some .local) (hxy : x ≠ y)
    (hel1 : ∀ W' C h' m' i d v, Fx base W' n A (compEnvC scope cl C env) h' (upd m' x v) → Jn scope m [x, y] m' → ds[i]? = some d → Rep W' h' v d → Mv W h W' h' →
      PE (model prog w) A (compEnvC scope cl C env) h' iter2 (Itb W' (ds2 i)))
    (hel2 : ∀ W' C h' m' i d v j d2 v2, Fx base W' n A (compEnvC scope cl C env) h' (upd m' y v2) → Jn scope m [x, y] m' → m' x = some v → ds[i]? = some d → Rep W' h' v d → (ds2 i)[j]? = some d2 → Rep W' h' v2 d2 → Mv W h W' h' →
      PT (model prog w) A (compEnvC scope cl C env) h' c (test i j) ∧ (test i j = true → PE (model prog w) A (compEnvC scope cl C env) h' elt (R W' (val i j))))
    (hb : ∀ i, i < ds.length → (ds2 i).length ≤ b) (hz : ds.length * b ≤ sizeLine)
    (hfs : ∀ C v, foldedSetIterable iter2 (compEnvC scope cl C env) v = pure v) :
    CompBody prog w base W n A env m s (.ListComp elt [⟨.Name x px, iter, [], 0⟩, ⟨.Name y py, iter2, [c], 0⟩] scope pos) scope cl ds
      ((List.range ds.length).flatMap fun i => ((List.range (ds2 i).length).filter (test i)).map (val i)) := by
  intro C B I fp P St h' tk F' run acc hI hIb hBb hBz hBC xs hno R' k
  have mv0 : Mv W h (C :: B :: W) h' := ⟨fun a ha => by
      rcases List.mem_cons.mp ha with q | q
      · exact .inr (hw.none (q ▸ hno C (.head _)))
      · rcases List.mem_cons.mp q with q | q
        · exact .inr (hw.none (q ▸ hno B (.tail _ (.head _))))
        · exact .inl q, ((hw.mut (fun a ha => .tail _ (.tail _ (F.zoneW a ha)))).trans (xs.mut F'.zoneW)).toD⟩
  have hT : ∀ i, i < ds.length → (((List.range (ds2 i).length).filter (test i)).map (val i)).length ≤ b := fun i hi => by
    rw [List.length_map]
    exact Nat.le_trans (List.length_filter_le _ _) (by simpa using hb i hi)
  refine comp_loop (s := { s with heap := h', toks := tk }) (inner := innerT elt [⟨.Name x px, iter, [], 0⟩, ⟨.Name y py, iter2, [c], 0⟩] scope pos iter2 (.ref I) (.ref B) (compEnvC scope cl C env)) (fun _ => true) (fun i => ((List.range (ds2 i).length).filter (test i)).map (val i)) (Jn scope m [x, y]) [] rfl rfl (Around.under_of_weight rfl) F' (fun _ _ => rfl) (fun m1 v1 h1 z hz => ?_) hx (.tail _ (.head _)) hBC hBz run hI hIb acc ?_ ?_ ?_
  · have : z ≠ x := fun q => hz (q ▸ .head _)
    show (if z = x then some v1 else m1 z) = _
    rw [if_neg this]; exact h1 z hz
  · intro i d v h1 m1 hd F1 J1 r1 md
    exact rfl
  · intro i d v h1 tk1 m1 out hd F1 J1 r1 md ht acc1 hlen Q E kk
    have hlt : i < ds.length := (List.getElem?_eq_some_iff.mp hd).1
    have mv1 : Mv W h (C :: B :: W) h1 := mv0.step md
    unfold innerT
    refine wpAny_bind (hel1 _ C h1 m1 i d v F1 J1 hd r1 mv1 { s with heap := h1, toks := tk1 } (Ext.refl _ _) _ _ fun v1 h2 t2 x2 p2 => ?_)
    refine wpAny_bind (wpAny_standAt (wpAny_bind (wpAny_of_eq (hfs C v1) (wpAny_bind (wpAny_holding ?_)))))
    refine iter_run (s := { s with heap := h2, toks := t2 }) F1.handled p2 fun I2 fp2 P2 St2 h3 t3 run2 hnew2 x3 => ?_
    have x13 : Ext (zone A) h1 h3 := x2.trans x3
    have hnew' : h2.get? I2 = none := hnew2
    have hI21 : h1.get? I2 = none := by
      cases q : h1.get? I2 with
      | none => rfl
      | some o => obtain ⟨sl, e', _⟩ := x2 I2 o q; rw [hnew'] at e'; cases e'
    have F3 := F1.ext x13
    have hI2W : I2 ∉ C :: B :: W := fun q => by obtain ⟨o, e⟩ := F1.live _ q; rw [hI21] at e; cases e
    have hI2b : base.get? I2 = none := by
      cases q : base.get? I2 with
      | none => rfl
      | some o => have := F1.stays _ _ q; rw [hI21] at this; cases this
    have acc3 : AccL (C :: B :: W) h3 B out := let ⟨vs, p, r⟩ := acc1; ⟨vs, p.at fun o e => x13.keep hBz e, r.mut (x13.mut F1.zoneW)⟩
    have r3 : Rep (C :: B :: W) h3 v d := r1.ext F1 x13
    have hlenT := flat_le (fun j => if (fun _ => true) j = true then ((List.range (ds2 j).length).filter (test j)).map (val j) else []) b i (fun j hj => by simpa using hT j (by omega))
    have hcount : ∀ j, j < (ds2 i).length → out.length + j ≤ sizeLine := fun j hj => by
      have h1' : out.length ≤ i * b := by simp only [List.length_nil, Nat.zero_add] at hlen; exact Nat.le_trans hlen hlenT
      have h2' := hb i hlt
      have h3' : i * b + b ≤ ds.length * b := by
        have : (i + 1) * b ≤ ds.length * b := Nat.mul_le_mul_right _ hlt
        rw [Nat.add_mul, Nat.one_mul] at this; exact this
      omega
    let Rk : Result → Shared → Prop := fun r s' => r = .ok .next ∧ ∃ h'' tk'' m'', s' = { s with heap := h'', toks := tk'' } ∧ Fx base (C :: B :: W) n A (compEnvC scope cl C env) h'' m'' ∧ Jn scope m [x, y] m'' ∧ AccL (C :: B :: W) h'' B (out ++ ((List.range (ds2 i).length).filter (test i)).map (val i)) ∧ ExtB (zone A) [C, B] h1 h''
    have loop : ∀ tk', codeAny (model prog w) A (.compLoop (.ListComp elt [⟨.Name x px, iter, [], 0⟩, ⟨.Name y py, iter2, [c], 0⟩] scope pos) 1 (.ref I2) (.ref B) (compEnvC scope cl C env)) Rk { s with heap := h3, toks := tk' } := by
      intro tk'
      refine comp_loop (s := { s with heap := h3, toks := tk' }) (inner := emitT elt (.ref B) (compEnvC scope cl C env) >>= fun _ => again (.compLoop (.ListComp elt [⟨.Name x px, iter, [], 0⟩, ⟨.Name y py, iter2, [c], 0⟩] scope pos) 1 (.ref I2) (.ref B) (compEnvC scope cl C env))) (test i) (fun j => [val i j]) (fun m' => Jn scope m [x, y] m' ∧ m' x = some v) out rfl rfl (Around.under_of_weight rfl) F3 ⟨fun z hz => ?_, by simp⟩ (fun m2 v2 h2 => ⟨fun z hz => ?_, ?_⟩) hy (.tail _ (.head _)) hBC hBz run2 hI2W hI2b acc3 ?_ ?_ ?_
      · have : z ≠ x := fun q => hz (q ▸ .head _)
        show (if z = x then some v else m1 z) = _
        rw [if_neg this]; exact J1 z hz
      · have : z ≠ y := fun q => hz (q ▸ .tail _ (.head _))
        show (if z = y then some v2 else m2 z) = _
        rw [if_neg this]; exact h2.1 z hz
      · show (if x = y then some v2 else m2 x) = _
        rw [if_neg hxy]; exact h2.2
      · intro j d2 v2 h4 m4 hd2 F4 J4 r4 md4
        exact (hel2 _ C h4 m4 i d v j d2 v2 F4 J4.1 J4.2 hd (Rep.mutD md4 r3) hd2 r4 ((mv1.step (x13.mut F1.zoneW).toD).step md4)).1
      · intro j d2 v2 h4 tk4 m4 out4 hd2 F4 J4 r4 md4 ht4 acc4 hlen4 Q4 E4 kk4
        have he := (hel2 _ C h4 m4 i d v j d2 v2 F4 J4.1 J4.2 hd (Rep.mutD md4 r3) hd2 r4 ((mv1.step (x13.mut F1.zoneW).toD).step md4)).2 ht4
        have hlt2 : j < (ds2 i).length := (List.getElem?_eq_some_iff.mp hd2).1
        have hlen5 := flat_filter_le (test i) (val i) j
        have hc := hcount j hlt2
        refine emit_ok (s := { s with heap := h4, toks := tk4 }) F4 he acc4 (by omega) (.tail _ (.head _)) hBb hBz _ _ _ fun h5' t5 F5 acc5 ex5 => ?_
        refine kk4 h5' t5 _ F5 ⟨fun z hz => ?_, ?_⟩ acc5 ex5
        · have : z ≠ y := fun q => hz (q ▸ .tail _ (.head _))
          show (if z = y then some v2 else m4 z) = _
          rw [if_neg this]; exact J4.1 z hz
        · show (if x = y then some v2 else m4 x) = _
          rw [if_neg hxy]; exact J4.2
      · intro h4 tk4 m4 F4 J4 acc4 ex4
        refine ⟨rfl, h4, tk4, m4, rfl, F4, J4.1, ?_, ?_⟩
        · rw [← flat_filter]; exact acc4
        · intro b' o hb' e
          obtain ⟨sl, e1, k1⟩ := x13 b' o e
          obtain ⟨sl2, e2, k2⟩ := ex4 b' _ (fun q => by
            rcases List.mem_cons.mp q with q | q
            · exact hb' (q ▸ .head _)
            · rcases List.mem_cons.mp q with q | q
              · exact hb' (q ▸ .tail _ (.head _))
              · rcases List.mem_cons.mp q with q | q
                · rw [q, hI21] at e; cases e
                · cases q) e1
          exact ⟨sl2, e2, fun hz => (k2 hz).trans (k1 hz)⟩
    refine wpAny_bind (wpAny_runOwn ?_)
    rw [show A.mark none = A from by cases A; rfl]
    refine codeAny_mono (compStart_inner (R' := Rk) (loop _) (run2.walks.self 0 _ _ _ run2.at0 (loop _))) fun r s' hr => ?_
    obtain ⟨rfl, h'', tk'', m'', rfl, Fk, Jk, ak, xk⟩ := hr
    exact kk h'' tk'' m'' Fk Jk ak xk
  · intro h1 tk1 m1 F1 J1 acc1 ex1
    refine k h1 tk1 m1 F1 ?_ ex1
    simpa using acc1
end
end Mine
end

-- P1
noncomputable section
open PySem PySem.W PyProof.Rows PySem.SeqAt
namespace Mine

theorem Steps.snoc {w n n' : List L3} (h : Steps w n) (k : Step n n') : Steps w n' := by
  induction h with
  | refl => exact .head k (.refl _)
  | head a _ ih => exact .head a (ih k)

def pairD (p : Nat × Nat) : D := .tuple [.int (p.1 : Int), .int (p.2 : Int)]
theorem pairs_atoms (l : List (Nat × Nat)) : ∀ d ∈ l.map pairD, ∃ l, d = .tuple l ∧ ∀ x ∈ l, D.atom x = true := fun d hd => by
  obtain ⟨p, _, rfl⟩ := List.mem_map.mp hd
  refine ⟨_, rfl, fun x hx => ?_⟩
  rcases List.mem_cons.mp hx with q | q
  · rw [q]; rfl
  · rw [List.mem_singleton.mp q]; rfl

theorem flatMap_le {α β : Type} (l : List α) (f : α → List β) (b : Nat) (h : ∀ x ∈ l, (f x).length ≤ b) : (l.flatMap f).length ≤ l.length * b := by
  induction l with
  | nil => simp
  | cons a l ih =>
    have h1 := ih fun x hx => h x (.tail _ hx)
    have h2 := h a (.head _)
    rw [List.flatMap_cons, List.length_append, List.length_cons, Nat.add_mul, Nat.one_mul]
    omega

/-- the squares, as the comprehension makes them -/
def sqTest (w : List L3) (i j : Nat) : Bool := decide (sl w j (j + (i + 1)) = sl w (j + (i + 1)) (j + 2 * (i + 1)))
def sqVal (i j : Nat) : D := pairD (j, j + (i + 1))
def sqDs2 (w : List L3) (i : Nat) : List D := rangeD 0 (w.length - 2 * (i + 1) + 1)
theorem sq_out (w : List L3) : (List.range (rangeD 1 (w.length / 2)).length).flatMap (fun i => ((List.range (sqDs2 w i).length).filter (sqTest w i)).map (sqVal i)) = (cutsSq w).map pairD := by
  rw [rangeD_length, cutsSq, List.map_flatMap, List.range'_eq_map_range, List.flatMap_map]
  congr 1
  funext i
  rw [List.map_map, sqDs2, rangeD_length, Nat.add_comm 1 i]
  rfl
theorem sq_len (w : List L3) (hw : w.length ≤ 9) : (cutsSq w).length ≤ 40 := by
  have := flatMap_le (List.range' 1 (w.length / 2)) (fun h => ((List.range (w.length - 2 * h + 1)).filter (fun i => decide (sl w i (i + h) = sl w (i + h) (i + 2 * h)))).map (fun i => (i, i + h))) 10 fun h _ => by
    rw [List.length_map]
    refine Nat.le_trans (List.length_filter_le _ _) ?_
    rw [List.length_range]; omega
  rw [List.length_range'] at this
  have e : cutsSq w = (List.range' 1 (w.length / 2)).flatMap fun h => ((List.range (w.length - 2 * h + 1)).filter (fun i => decide (sl w i (i + h) = sl w (i + h) (i + 2 * h)))).map (fun i => (i, i + h)) := rfl
  rw [← e] at this
  omega

/-- the middles, likewise -/
def midTest (w : List L3) (i j : Nat) (a b : Nat) : Bool := sameSet (sl w (j + 1 + a) (j + 1 + a + 1 + b)) (sl w i j) && subSet (sl w j (j + 1 + a)) (sl w i j)
def midVal (j : Nat) (a b : Nat) : D := pairD (j, j + 1 + a)
def midDs2 (w : List L3) (j a : Nat) : List D := rangeD ((j + 1 + a + 1 : Nat) : Int) (w.length + 1 - (j + 1 + a + 1))
theorem mid_out (w : List L3) (i j : Nat) : (List.range (rangeD ((j + 1 : Nat) : Int) (w.length - (j + 1))).length).flatMap (fun a => ((List.range (midDs2 w j a).length).filter (midTest w i j a)).map (midVal j a)) = (cutsMid w i j).map pairD := by
  rw [rangeD_length, cutsMid, List.map_flatMap, List.range'_eq_map_range, List.flatMap_map]
  congr 1
  funext a
  rw [List.map_map, midDs2, rangeD_length, List.range'_eq_map_range, List.filter_map, List.map_map]
  rfl
theorem mid_len (w : List L3) (i j : Nat) (hw : w.length ≤ 9) : (cutsMid w i j).length ≤ 90 := by
  have h1 : (cutsMid w i j).length ≤ (List.range' (j + 1) (w.length - (j + 1))).length * 10 := by
    rw [cutsMid]
    refine flatMap_le _ _ 10 fun h _ => ?_
    rw [List.length_map]
    refine Nat.le_trans (List.length_filter_le _ _) ?_
    rw [List.length_range']; omega
  rw [List.length_range'] at h1
  omega
def midJ (w : List L3) (i t : Nat) : List (Nat × Nat) := (List.range' (i + 1) t).flatMap fun j => cutsMid w i j
def midI (w : List L3) (t : Nat) : List (Nat × Nat) := (List.range t).flatMap fun i => midJ w i (w.length - 1 - (i + 1))
theorem midJ_succ (w : List L3) (i t : Nat) : midJ w i (t + 1) = midJ w i t ++ cutsMid w i (i + 1 + t) := by
  rw [midJ, List.range'_1_concat, List.flatMap_append]; simp [midJ]
theorem midI_succ (w : List L3) (t : Nat) : midI w (t + 1) = midI w t ++ midJ w t (w.length - 1 - (t + 1)) := by
  rw [midI, List.range_succ, List.flatMap_append]; simp [midI]
theorem midI_all (w : List L3) : midI w (w.length - 2) = cutsMids w := rfl
theorem midJ_len (w : List L3) (i t : Nat) (hw : w.length ≤ 9) (ht : t ≤ 9) : (midJ w i t).length ≤ 810 := by
  have := flatMap_le (List.range' (i + 1) t) (fun j => cutsMid w i j) 90 fun j _ => mid_len w i j hw
  rw [List.length_range'] at this
  rw [midJ]; omega
theorem midI_len (w : List L3) (t : Nat) (hw : w.length ≤ 9) (ht : t ≤ 9) : (midI w t).length ≤ 7290 := by
  have := flatMap_le (List.range t) (fun i => midJ w i (w.length - 1 - (i + 1))) 810 fun j _ => midJ_len w j _ hw (by omega)
  rw [List.length_range] at this
  rw [midI]; omega
theorem emod_lt (t : Int) (n : Nat) (hn : 0 < n) : 0 ≤ t.fmod n ∧ (t.fmod n).toNat < n := by
  have h1 : 0 ≤ t.fmod n := Int.fmod_nonneg_of_pos t (by omega)
  have h2 : t.fmod n < n := Int.fmod_lt_of_pos t (by omega)
  exact ⟨h1, by omega⟩
end Mine
end

-- P2
noncomputable section
open PySem PySem.W PyProof.Rows PySem.SeqAt
namespace Mine

def dpB : Nat → Nat
  | 0 => 1
  | k + 1 => 2 * dpB k + 2
theorem dp_code : ∀ (k : Nat) (l : List L3), l.length < k → dp (code l) ≤ dpB (dedup l).length := by
  intro k
  induction k with
  | zero => intro l h; omega
  | succ k ih =>
    intro l hl
    rcases code_cases l with rfl | ⟨f, a, g, b, d, d', e⟩
    · rw [code_nil]; simp [dp, dpB, dedup]
    · have h1 := dec_lt d
      have h2 := dec_lt d'
      rw [List.length_reverse] at h2
      have e1 := dedup_dec d
      have e2 := dedup_dec d'
      have el : (dedup l.reverse).length = (dedup l).length := by
        refine Nat.le_antisymm (nodup_le _ _ (nodup_dedup _) fun x hx => ?_) (nodup_le _ _ (nodup_dedup _) fun x hx => ?_)
        · rw [mem_dedup] at hx ⊢; exact List.mem_reverse.mp hx
        · rw [mem_dedup] at hx ⊢; exact List.mem_reverse.mpr hx
      have l1 : (dedup l).length = (dedup f).length + 1 := by rw [e1]; simp
      have l2 : (dedup l).length = (dedup g).length + 1 := by rw [← el, e2]; simp
      have i1 := ih f (by omega)
      have i2 := ih g (by omega)
      rw [e, l1, dpB]
      rw [show (dedup g).length = (dedup f).length by omega] at i2
      simp only [dp]; omega
theorem dp_code22 (l : List L3) : dp (code l) ≤ 22 := by
  have h := dp_code _ l (Nat.lt_succ_self _)
  have h3 := dedup_len l
  have : ∀ k, k ≤ 3 → dpB k ≤ 22 := by intro k hk; match k, hk with | 0, _ => decide | 1, _ => decide | 2, _ => decide | 3, _ => decide
  exact Nat.le_trans h (this _ h3)

/-- a number's name -/
def m3 (x : Int) : L3 := ⟨(x.fmod 3).toNat, by
  have h1 : 0 ≤ x.fmod 3 := Int.fmod_nonneg_of_pos x (by decide)
  have h2 : x.fmod 3 < 3 := Int.fmod_lt_of_pos x (by decide)
  omega⟩
def signsD (odd : Bool) : List D := [nmD odd 0, nmD odd 1, nmD odd 2]
theorem signs_get (odd : Bool) (x : Int) : (signsD odd)[(x.fmod 3).toNat]? = some (nmD odd (m3 x)) := by
  have e : (x.fmod 3).toNat = (m3 x).val := rfl
  rw [e]
  generalize m3 x = k
  revert k
  intro k
  match k with
  | 0 => rfl
  | 1 => rfl
  | 2 => rfl

def outC (odd : Bool) : Cd L3 → List D
  | .e => []
  | .n f a g b => [codeD odd f, dW odd [a], codeD odd g, dW odd [b]]
theorem codeD_outC (odd : Bool) (c : Cd L3) : codeD odd c = .list (outC odd c) := by cases c <;> rfl
theorem outC_swap (odd : Bool) (c : Cd L3) : (outC odd c).drop 2 ++ (outC odd c).take 2 = outC odd c.swap := by cases c <;> rfl
theorem outC_len (odd : Bool) (c : Cd L3) : (outC odd c).length ≤ 4 := by cases c <;> simp [outC]

def cmp3 (c c' : Cd L3) : Int := (if cmpC false c c' then 1 else 0) - (if cmpC true c c' then 1 else 0)
theorem cmp3_iff (c c' : Cd L3) : cmp3 c c' = 0 ↔ c = c' := by
  constructor
  · intro h
    refine Classical.byContradiction fun hne => ?_
    have := cmpC_tri c c' hne
    unfold cmp3 at h
    revert h this
    cases cmpC false c c' <;> cases cmpC true c c' <;> simp
  · rintro rfl
    unfold cmp3
    rw [cmpC_self, cmpC_self]; rfl

theorem mirror_eq {l l' : List L3} (h : Steps l l') (i : Irr l') : decide (cmp3 (code l) (code l).swap = 0) = decide (l' = l'.reverse) := by
  rw [Bool.eq_iff_iff, decide_eq_true_eq, decide_eq_true_eq, cmp3_iff]
  exact law_mirror h i

theorem sorted2 {a b : Int} {ns : List Int} (h : ns.Perm [a, b]) (hs : ns.Pairwise (· ≤ ·)) : ∃ x y, ns = [x, y] ∧ x ≤ y ∧ (x = a ∨ x = b) ∧ (y = a ∨ y = b) := by
  have hl := h.length_eq
  match ns, hl with
  | [x, y], _ =>
    refine ⟨x, y, rfl, ?_, ?_, ?_⟩
    · simpa using hs
    · have := h.mem_iff (a := x); simpa using this.mp (by simp)
    · have := h.mem_iff (a := y); simpa using this.mp (by simp)

theorem fdiv_mod_bd (t : Int) (n : Nat) : 0 ≤ t.fmod ((n : Int) + 1) ∧ t.fmod ((n : Int) + 1) ≤ n := by
  have h1 : 0 ≤ t.fmod ((n : Int) + 1) := Int.fmod_nonneg_of_pos t (by omega)
  have h2 : t.fmod ((n : Int) + 1) < (n : Int) + 1 := Int.fmod_lt_of_pos t (by omega)
  exact ⟨h1, by omega⟩

/-- the last of the first places -/
def firsts (l : List L3) : List Int := l.map (fun x => ((l.idxOf x : Nat) : Int)) ++ [-1]
theorem last_eq {l : List L3} {x : Int} (h1 : x ∈ firsts l) (h2 : ∀ y ∈ firsts l, y ≤ x) (k : Nat) : decide (∀ a ∈ l, a ∈ l.take k) = decide (x < (k : Int)) := by
  rw [Bool.eq_iff_iff, decide_eq_true_eq, decide_eq_true_eq]
  have hp := law_places l k
  constructor
  · intro h
    have := hp.mp fun a => ⟨fun q => List.mem_of_mem_take q, h a⟩
    rcases List.mem_append.mp h1 with q | q
    · obtain ⟨a, ha, rfl⟩ := List.mem_map.mp q
      have := this a ha; omega
    · rw [List.mem_singleton.mp q]; omega
  · intro h a ha
    refine (hp.mpr fun b hb => ?_) a |>.mpr ha
    have := h2 _ (List.mem_append_left _ (List.mem_map.mpr ⟨b, hb, rfl⟩))
    omega
end Mine
end

-- HD
noncomputable section
open PySem PySem.W PyProof.Rows
namespace Mine
set_option maxRecDepth 100000 in
set_option maxHeartbeats 8000000 in
open_top hd for PySem.Challenge.rw_op0006_01
end Mine
end

-- C1
noncomputable section
open PySem PySem.W PyProof.Rows PySem.SeqAt
namespace Mine
set_option maxRecDepth 100000

/-- the part of the heap that the top leaves, read off the head -/
def fragOf {p : Program} {ns : List Str} {X : (Str → Option Value) → Heap → Prop} {K : Params → Frag} {as : List Addr} {e : ∀ P, as = (K P).map (·.1)} {row : RowW} {d : DefRec} {l : List (Str × Expr)} {f : Value → List Value → Sem Value} {T : Prop} (_ : WalkO p ns X (kHook K as e).says row d l f → T) : Params → Frag := K
noncomputable abbrev KF (P : Params) : Frag := fragOf hd P
noncomputable def objAt (P : Params) (a : Addr) : Obj := ((KF P).lookup a).getD { cls := .none, data := .seq #[] }
def fdOf (o : Obj) (d : FuncData) : FuncData := match o.data with | .func fd => fd | _ => d
def fd0 : FuncData := { name := "", qualname := "", params := { posonlyargs := [], args := [], vararg := none, kwonlyargs := [], kw_defaults := [], kwarg := none, defaults := [] }, body := .stmts [], scope := { kind := .function, names := [], isGenerator := false, isCoroutine := false }, globals := 3, closure := [], defaults := .none, kwdefaults := .none, pyModule := .none, code := .none }
noncomputable def fdAt (P : Params) (a : Addr) : FuncData := fdOf (objAt P a) fd0
structure Env0 (w : World) (base : Heap) (mg mb : Vars) : Prop where
  G : Glo base mg mb
  X : (KF w.params).In base

section
variable {w : World} {base : Heap} {mg mb : Vars}
theorem Env0.fn (Z : Env0 w base mg mb) {f c : Addr} {o oc : Obj} {vs : Array Value} {fd : FuncData} {t : Tok} (h : (KF w.params).lookup f = some o) (hd : o.data = .func fd) (hc : fd.code = .ref c) (h2 : (KF w.params).lookup c = some oc) (hv : oc.data = .fields vs) (hq : vs[1]? = some (.str fd.qualname t)) : FnAt base f fd :=
  ⟨⟨o, Z.X _ _ h, hd⟩, ⟨c, oc, vs, t, hc, Z.X _ _ h2, hv, hq⟩⟩
theorem Env0.glob (Z : Env0 w base mg mb) {x : Str} {v : Value} (e : nsIn (KF w.params) mainGlobals x = some (some v)) : mg x = some v := mg_of Z.X Z.G.g e
end
section
variable {w : World} {base : Heap} {mg mb : Vars}
theorem fn_sep (Z : Env0 w base mg mb) : FnAt base 43 (fdAt w.params 43) := Z.fn rfl rfl rfl rfl rfl rfl
theorem gl_sep (Z : Env0 w base mg mb) : mg "_get_sep" = some (.ref 43) := Z.glob (by rfl)
end
end Mine
end

-- C2
noncomputable section
open PySem PySem.W PyProof.Rows PySem.SeqAt
namespace Mine
set_option maxRecDepth 100000
section
variable {prog : Program} {w : World} {base h h₁ : Heap} {W W' : List Addr} {n : Nat} {A : Around} {env : Env} {m : Vars} {s : Shared} {E : Value → Shared → Prop} {odd : Bool} {mg mb : Vars} {Q : Flow → Shared → Prop}

theorem Rep.enter {v : Value} {d : D} (r : Rep W h v d) (hW : ∀ a ∈ W', a ∈ W ∨ h.get? a = Option.none) (k : h.StaysIn h₁) : Rep W' h₁ v d := Rep.mut (fun b o _ e => k b o e) (Rep.anti hW r)
theorem Rep.leave {v : Value} {d : D} (r : Rep W' h v d) (hW : ∀ a ∈ W, a ∈ W') : Rep W h v d := Rep.anti (fun a ha => .inl (hW a ha)) r
theorem sub_of {l : List Addr} {a : Addr} : ∀ x ∈ W, x ∈ a :: (l ++ W) := fun x hx => .tail _ (List.mem_append_right _ hx)

theorem c_sep {l : List L3} {v : Value} (Z : Env0 w base mg mb) (C : Cx base W (n + 1) A s.heap) (ra : R W (pathD odd l) s.heap v) : TE (model prog w) A s (call (.ref 43) [v]) (R W (sepD odd)) := by
  refine te_call (binds := [("path", v)]) C Z.G (fn_sep Z) rfl rfl rfl rfl (BindsTo.of_eq (by rfl)) rfl rfl rfl rfl (show ([("path" : Str)]).Nodup by decide) (by rfl) (show ([] : List Str).Nodup from List.nodup_nil) ?_
  intro h₁ tk e W' keep he hW' F hz hfresh hin E'
  have rv : Rep W' h₁ v (pathD odd l) := Rep.enter ra hin keep
  have sub : ∀ a ∈ W, a ∈ W' := hW' ▸ sub_of
  have ka : e.kindOf "path" = some .local := by rw [he]; rfl
  have kb : e.kindOf "isinstance" = some .globalImplicit := by rw [he]; rfl
  have kc : e.kindOf "bytes" = some .globalImplicit := by rw [he]; rfl
  refine ex_if (c := odd) (pt_bool (W := W') (PE.callB (id := "isinstance") (Ps := [R W' (pathD odd l), V (.type "bytes")]) (PE.builtin F Z.G (by decide) (by decide +kernel) (fun _ => rfl) kb (by decide))
    (PEs.cons (PE.var F (v := v) rfl rv (.inl ka)) (F.stable _) (PEs.cons (PE.builtin F Z.G (by decide) (by decide +kernel) (fun _ => rfl) kc (by decide)) (Stable.val _) PEs.nil (by rfl)) (by rfl)) (fun s' vs x p => ?_) (by rfl) (by rfl)) (by intro _; rfl)) (fun h1 t1 x1 => ?_)
  · match vs, p with
    | [a, b], p =>
      obtain ⟨p1, p2, _⟩ := p
      cases p2
      exact (te_isinst p1).mono fun _ _ _ q => by cases q; exact .bool _
  · have F1 := F.ext x1
    cases odd
    · refine ex_return (P := R W' (sepD false)) PE.str fun v' h2 t2 x2 p2 => ?_
      exact ⟨h2, t2, [], v', rfl, by simp, (x1.trans x2).toB, rfl, Rep.leave p2 sub⟩
    · refine ex_return (P := R W' (sepD true)) PE.bytes fun v' h2 t2 x2 p2 => ?_
      exact ⟨h2, t2, [], v', rfl, by simp, (x1.trans x2).toB, rfl, Rep.leave p2 sub⟩
end
end Mine
end

-- C3
noncomputable section
open PySem PySem.W PyProof.Rows PySem.SeqAt
namespace Mine
set_option maxRecDepth 100000
section
variable {prog : Program} {w : World} {base h h₁ : Heap} {W W' : List Addr} {n : Nat} {A : Around} {env : Env} {m : Vars} {s : Shared} {E : Value → Shared → Prop} {odd : Bool} {mg mb : Vars} {Q : Flow → Shared → Prop}

theorem fn_dedup (Z : Env0 w base mg mb) : FnAt base 22 (fdAt w.params 22) := Z.fn rfl rfl rfl rfl rfl rfl
theorem gl_dedup (Z : Env0 w base mg mb) : mg "_deduplicate" = some (.ref 22) := Z.glob (by rfl)
theorem fn_uniq (Z : Env0 w base mg mb) : FnAt base 29 (fdAt w.params 29) := Z.fn rfl rfl rfl rfl rfl rfl
theorem gl_uniq (Z : Env0 w base mg mb) : mg "_deduplicate_unhashable" = some (.ref 29) := Z.glob (by rfl)
theorem fn_cmp3 (Z : Env0 w base mg mb) : FnAt base 57 (fdAt w.params 57) := Z.fn rfl rfl rfl rfl rfl rfl
theorem gl_cmp3 (Z : Env0 w base mg mb) : mg "three_way_cmp" = some (.ref 57) := Z.glob (by rfl)

theorem pe_mono {e : Expr} {P P' : P3} (h0 : PE (model prog w) A env h e P) (hp : ∀ h' v, P h' v → P' h' v) : PE (model prog w) A env h e P' := fun s hs => (h0 s hs).mono fun h' v _ p => hp h' v p

theorem cu_lt : cLine = 9900 := rfl

theorem c_cmp3 {c c' : Cd L3} {v v' : Value} (Z : Env0 w base mg mb) (C : Cx base W (n + 1) A s.heap) (hd : dp c ≤ 800) (ra : R W (codeD odd c) s.heap v) (rb : R W (codeD odd c') s.heap v') :
    TE (model prog w) A s (call (.ref 57) [v, v']) (R W (.int ((if cmpC false c c' then 1 else 0) - (if cmpC true c c' then 1 else 0)))) := by
  refine te_call (binds := [("x", v), ("y", v')]) C Z.G (fn_cmp3 Z) rfl rfl rfl rfl (BindsTo.of_eq (by rfl)) rfl rfl rfl rfl (show ([("x" : Str), "y"]).Nodup by decide) (by rfl) (show ([] : List Str).Nodup from List.nodup_nil) ?_
  intro h₁ tk e W' keep he hW' F hz hfresh hin E'
  have rv : Rep W' h₁ v (codeD odd c) := Rep.enter ra hin keep
  have rv' : Rep W' h₁ v' (codeD odd c') := Rep.enter rb hin keep
  have sub : ∀ a ∈ W, a ∈ W' := hW' ▸ sub_of
  have ka : e.kindOf "x" = some .local := by rw [he]; rfl
  have kb : e.kindOf "y" = some .local := by rw [he]; rfl
  have hu : (A.deeper e).units + dp c < cLine := by have := F.units; rw [cu_lt]; omega
  have cmp : ∀ (up : Bool) {p q r : Pos}, PE (model prog w) (A.deeper e) e h₁ (.Compare (.Name "x" p) [opOf up] [.Name "y" q] r) (R W' (.bool (cmpC up c c'))) := fun up {p q r} =>
    PE.cmp (PE.var F (v := v) rfl rv (.inl ka)) (F.stable _) (PE.var F (v := v') rfl rv' (.inl kb)) (fun s' a b x p1 p2 => fun Q E k => by
      have := code_cmp (up := up) c c' (A.deeper e) a b hu p1 p2 prog w E Q
      cases up
      · exact this (k _ s'.heap s'.toks (Ext.refl _ _) (.bool _))
      · exact this (k _ s'.heap s'.toks (Ext.refl _ _) (.bool _))) (by cases up <;> rfl)
  refine ex_return (P := R W' (.int ((if cmpC false c c' then 1 else 0) - (if cmpC true c c' then 1 else 0)))) (PE.bin (cmp false) (F.stable _) (cmp true) fun s' a b x p1 p2 => TE.sub_bool p1 p2) fun v2 h2 t2 x2 p2 => ?_
  exact ⟨h2, t2, [], v2, rfl, by simp, x2.toB, rfl, Rep.leave p2 sub⟩

theorem c_dedup {l : List L3} {v : Value} (Z : Env0 w base mg mb) (C : Cx base W (n + 1) A s.heap) (ra : R W (dW odd l) s.heap v) : TE (model prog w) A s (call (.ref 22) [v]) (RK prog w W odd l) := by
  have hb : BindsTo s (fdAt w.params 22) ⟨[v], []⟩ [("params", v), ("unhashable_fallback", .bool false)] :=
    kp_binds (K := KF w.params) (fun a o e => C.stays _ _ (Z.X a o e)) (fun S => by rfl)
  refine te_call (binds := [("params", v), ("unhashable_fallback", .bool false)]) C Z.G (fn_dedup Z) rfl rfl rfl rfl hb rfl rfl rfl rfl (show ([("params" : Str), "unhashable_fallback"]).Nodup by decide) (by rfl) (show ([] : List Str).Nodup from List.nodup_nil) ?_
  intro h₁ tk e W' keep he hW' F hz hfresh hin E'
  have rv : Rep W' h₁ v (dW odd l) := Rep.enter ra hin keep
  have sub : ∀ a ∈ W, a ∈ W' := hW' ▸ sub_of
  have ka : e.kindOf "params" = some .local := by rw [he]; rfl
  have kb : e.kindOf "dict" = some .globalImplicit := by rw [he]; rfl
  refine wpAny_execs_cons (wpAny_Try_except ?_)
  refine ex_return (P := RK prog w W' odd l) (pe_fromkeys (x := "") (xp := ⟨0, 0, 0, 0⟩) F Z.G (PE.builtin F Z.G (by decide) (by decide +kernel) (fun _ => rfl) kb (by decide)) (PE.var F (v := v) rfl rv (.inl ka)) (by rfl) (by rfl) (by rfl) (by rfl)) fun v2 h2 t2 x2 p2 => ?_
  exact ⟨h2, t2, [], v2, rfl, by simp, x2.toB, rfl, p2.anti fun a ha => .inl (sub a ha)⟩

/-- t not in xs, xs a row of names -/
theorem te_notin {l : List L3} {x : L3} {L : Addr} {v : Value} (acc : AccL W s.heap L (l.map (nmD odd))) (rb : Rep W s.heap v (nmD odd x)) : TE (model prog w) A s (compareOp .NotIn v (.ref L)) (V (.bool (decide (x ∉ l)))) := by
  intro Q E k
  obtain ⟨vs, hl, r⟩ := acc
  have hit := nm_hits r rb prog w
  have hlen : vs.length = l.length := by rw [r.length]; simp
  refine notIn_listAt (fun y => (nmKind odd prog w).is x y) hl.isList (fun y hy => ?_) ?_
  · obtain ⟨j, hj, rfl⟩ := Array.mem_iff_getElem.mp hy
    exact (hit j hj).2.at _ _
  · have e : (!(vs.toArray.any fun y => (nmKind odd prog w).is x y)) = decide (x ∉ l) := by
      rw [Bool.eq_iff_iff, Bool.not_eq_true', Array.any_eq_false]
      simp only [decide_eq_true_eq]
      constructor
      · intro hno hx
        obtain ⟨j, hj, e⟩ := List.getElem_of_mem hx
        have hj' : j < vs.toArray.size := by simp; omega
        refine hno j hj' ?_
        rw [(hit j hj').1, List.getElem?_eq_getElem hj, e]; simp
      · intro hx j hj hq
        rw [(hit j hj).1] at hq
        simp only [decide_eq_true_eq] at hq
        exact hx (List.mem_of_getElem? hq)
    rw [e]
    exact k _ s.heap s.toks (Ext.refl _ _) rfl

theorem c_uniq {l : List L3} {v : Value} (Z : Env0 w base mg mb) (C : Cx base W (n + 1) A s.heap) (ra : R W (dW odd l) s.heap v) : TE (model prog w) A s (call (.ref 29) [v]) (R W (dW odd (dedup l))) := by
  refine te_call (binds := [("unhashable_params", v)]) C Z.G (fn_uniq Z) rfl rfl rfl rfl (BindsTo.of_eq (by rfl)) rfl rfl rfl rfl (show ([("unhashable_params" : Str)]).Nodup by decide) (by rfl) (show ([] : List Str).Nodup from List.nodup_nil) ?_
  intro h₁ tk e W' keep he hW' F hz hfresh hin E'
  have rv : Rep W' h₁ v (dW odd l) := Rep.enter ra hin keep
  have sub : ∀ a ∈ W, a ∈ W' := hW' ▸ sub_of
  have ka : e.kindOf "unhashable_params" = some .local := by rw [he]; rfl
  have kn : e.kindOf "new_unhashable" = some .local := by rw [he]; rfl
  have kt : e.kindOf "t" = some .local := by rw [he]; rfl
  have hbl : blocks e = [e.locals] := by rw [he]; rfl
  refine ex_own F (ds := []) (pe_list_new F PEs.nil (by simp)) (.inl kn) (fun L vs h2 tk2 hL hLW pl rs ex2 F2 F2o => ?_) (by rw [he]; rfl)
  cases rs
  have hLs : s.heap.get? L = none := by
    cases q : s.heap.get? L with
    | none => rfl
    | some o => have := keep _ _ q; rw [hL] at this; cases this
  have hLb : L ∉ blocks e := fun q => hLW (F.blocksW L q)
  have hLz : L ∉ zone (A.deeper e) := fun q => hLW (F.zoneW L q)
  have rv2 : Rep (L :: W') h2 v (dW odd l) := Rep.into rv hL (ex2.mut (fun a ha => .tail _ (F.blocksW a ha)) (fun a ha => .tail _ (F.zoneW a ha)))
  refine ex_for2 (W := L :: W') (T := L :: blocks e) (l.map (nmD odd)) (fun i h m => m "new_unhashable" = some (.ref L) ∧ AccL (L :: W') h L ((dedup (l.take i)).map (nmD odd))) (fun _ _ => False) F2o (fun a ha => .tail _ ha)
    (fun a ha => (List.mem_cons.mp ha).elim (fun q => q ▸ .head _) fun q => .tail _ (F.blocksW a q)) (pe_mono (PE.var F2o (v := v) rfl rv2 (.inl ka)) fun _ _ p => .inl p) (.inl kt) (fun h' x => ⟨rfl, [], ?_, .nil⟩) ?_ ?_ (fun _ _ _ q => q.elim) (by rw [he]; intro _; rfl)
  · exact pl.at fun o e1 => x.keep hLz e1
  · rintro i d vt h3 m3 h4 tk4 hd ⟨hm3, acc3⟩ md ex4 F4 rt E2
    obtain ⟨x, hx, rfl⟩ : ∃ x, l[i]? = some x ∧ d = nmD odd x := by
      rw [List.getElem?_map] at hd
      cases q : l[i]? with
      | none => rw [q] at hd; cases hd
      | some x => rw [q] at hd; cases hd; exact ⟨x, rfl, rfl⟩
    have acc4 : AccL (L :: W') h4 L ((dedup (l.take i)).map (nmD odd)) := acc3.mutD md (fun a ha => .tail _ (F.blocksW a ha)) hLb
    have hmn : (upd m3 "t" vt) "new_unhashable" = some (.ref L) := by simp only [upd]; rw [if_neg (by decide)]; exact hm3
    have hmt : (upd m3 "t" vt) "t" = some vt := by simp [upd]
    have pn : ∀ {hh : Heap} {p : Pos}, Fx base (L :: W') n (A.deeper e) e hh (upd m3 "t" vt) → PE (model prog w) (A.deeper e) e hh (.Name "new_unhashable" p) (V (.ref L)) := fun F' => PE.name F' hmn (fun _ _ => rfl) (.inl kn) (by decide)
    have step : dedup (l.take (i + 1)) = dstep (dedup (l.take i)) x := dedup_take hx
    refine ex_if (c := decide (x ∉ dedup (l.take i))) (PT.cmp (P1 := R (L :: W') (nmD odd x)) (PE.var F4 hmt rt (.inl kt)) (F4.stable _) (pn F4) (fun s' a b x1 p1 p2 => ?_) (by rfl)) (fun h5 tk5 x5 => ?_)
    · cases p2
      exact te_notin (acc4.mutD (T := zone (A.deeper e)) (x1.mut fun a q => q).toD F4.zoneW hLz) p1
    · have F5 := F4.ext x5
      have acc5 : AccL (L :: W') h5 L ((dedup (l.take i)).map (nmD odd)) := acc4.mutD (T := zone (A.deeper e)) (x5.mut fun a q => q).toD F4.zoneW hLz
      have rt5 : Rep (L :: W') h5 vt (nmD odd x) := rt.ext F4 x5
      by_cases hin' : x ∈ dedup (l.take i)
      · have hc : decide (x ∉ dedup (l.take i)) = false := by simpa using hin'
        rw [hc]
        refine ex_done (ex_done ⟨h5, tk5, rfl, x5.toB, _, F5, hmn, ?_⟩)
        rw [step, dstep, if_pos hin']; exact acc5
      · have hc : decide (x ∉ dedup (l.take i)) = true := by simpa using hin'
        rw [hc]
        refine ex_append (ds := (dedup (l.take i)).map (nmD odd)) (d := nmD odd x) F5 (pn F5) (.head _) hLb hLz acc5 (PE.var F5 hmt rt5 (.inl kt)) (by have := dedup_len (l.take i); rw [List.length_map]; unfold sizeLine; omega) (fun h6 tk6 ex6 acc6 F6 => ?_) (by rfl) (by rfl) (by rfl) (by rfl) (by rw [he]; rfl) (by rw [he]; rfl)
        refine ex_done (ex_done ⟨h6, tk6, rfl, (x5.toB (T := L :: blocks e)).trans (ex6.mono fun a ha => by rw [List.mem_singleton.mp ha]; exact .head _), _, F6, hmn, ?_⟩)
        rw [step, dstep, if_neg hin', List.map_append]; exact acc6
  · rintro h3 m3 h4 tk4 ⟨hm3, acc3⟩ md ex4 F4
    have acc4 : AccL (L :: W') h4 L ((dedup l).map (nmD odd)) := by
      rw [List.length_map, List.take_length] at acc3
      exact acc3.mutD md (by simp) (by simp)
    refine ex_return (P := R W' (dW odd (dedup l))) (PE.name F4 hm3 (fun h5 x5 => ?_) (.inl kn) (by decide)) fun v2 h5 t5 x5 p5 => ?_
    · exact (acc4.mutD (T := zone (A.deeper e)) (x5.mut fun a q => q).toD F4.zoneW hLz).out hLW
    · refine ⟨h5, t5, L :: blocks e, v2, rfl, fun a ha => ?_, ((ex2.mono fun a ha => .tail _ ha).trans ex4).trans x5.toB, rfl, Rep.leave p5 sub⟩
      rcases List.mem_cons.mp ha with q | q
      · rw [q]; exact hLs
      · exact hfresh a q
end
end Mine
end

-- C4
noncomputable section
open PySem PySem.W PyProof.Rows PySem.SeqAt
namespace Mine
set_option maxRecDepth 100000
section
variable {prog : Program} {w : World} {base h h₁ : Heap} {W W' T0 : List Addr} {n : Nat} {A : Around} {env : Env} {m : Vars} {s : Shared} {E : Value → Shared → Prop} {odd : Bool} {mg mb : Vars}

/-- a call of a def that may write to what is handed to it -/
theorem call_mut {f : Addr} {fd : FuncData} {body : List Stmt} {args : List Value} {binds : List (Str × Value)} {P : P3} {Q : Value → Shared → Prop}
    (C : Cx base W (n + 1) A s.heap) (G : Glo base mg mb) (hf : FnAt base f fd) (hbody : fd.body = .stmts body)
    (hg : fd.globals = mainGlobals) (hb : fd.builtins = builtinsNs) (hclo : fd.closure = []) (hbind : BindsTo s fd ⟨args, []⟩ binds)
    (hco : fd.scope.isCoroutine = false) (hgen : fd.scope.isGenerator = false) (hk : fd.scope.kind = .function)
    (hnof : (fd.scope.names.all fun x => x.2 != .free) = true) (hnb : (binds.map (·.1)).Nodup)
    (hkb : (binds.all fun y => fd.scope.names.lookup y.1 == some .local || fd.scope.names.lookup y.1 == some .cell) = true)
    (hnd : ((cellsFrom 0 fd.scope.names []).map (·.1)).Nodup)
    (h : ∀ h₁ tk (e : Env) (W' : List Addr) (outer : List Env), s.heap.StaysIn h₁ → e = callEnvC fd s.heap.objs.size f → W' = e.locals :: (e.cells.map (·.2) ++ W) → (A.deeper e).frames = some (e :: outer) →
      Fx base W' n (A.deeper e) e h₁ (fun y => binds.lookup y) → zone (A.deeper e) = s.heap.objs.size :: zone A →
      (∀ a ∈ blocks e, s.heap.get? a = none) → (∀ a ∈ W', a ∈ W ∨ s.heap.get? a = none) →
      ∀ E, wpAny (model prog w) (A.deeper e) (execs body e) (fun fl s' => ∃ h' tk' T v, s' = { s with heap := h', toks := tk' } ∧ (∀ a ∈ T, a ∈ T0 ∨ s.heap.get? a = none) ∧ ExtB (zone (A.deeper e)) T h₁ h' ∧ v = (match fl with | .ret v => v | _ => .none) ∧ P h' v) E { s with heap := h₁, toks := tk })
    (k : ∀ v h' tk, ExtB (zone A) T0 s.heap h' → P h' v → Q v { s with heap := h', toks := tk }) :
    wpAny (model prog w) A (call (.ref f) args) Q E s := by
  obtain ⟨o, ho, hd⟩ := hf.obj
  refine wpAny_call ?_
  refine enter C G.lim ho hd hf.code hbody hg hb hclo hbind hco hgen hk hnof hnb hkb hnd fun h₁ tk keep => ?_
  intro e F fresh E'
  obtain ⟨l, hl, hfr⟩ := C.frames
  have hz : zone (A.deeper e) = s.heap.objs.size :: zone A := zone_deeper hl rfl
  have hW : ∀ a ∈ e.locals :: (e.cells.map (·.2) ++ W), a ∈ W ∨ s.heap.get? a = none := fun a ha => by
    rcases List.mem_cons.mp ha with q | q
    · exact .inr (fresh a (q ▸ .head _))
    · rcases List.mem_append.mp q with q | q
      · exact .inr (fresh a (.tail _ q))
      · exact .inl q
  refine wpAny_mono (h h₁ tk e _ l keep rfl rfl (by simp [Around.deeper, hl]) F hz fresh hW E') (fun fl s' hs' => ?_) fun _ _ x => x
  obtain ⟨h', tk', T, v, rfl, hT, ex, rfl, p⟩ := hs'
  refine k _ h' tk' (fun b o hb e1 => ?_) p
  obtain ⟨sl, e2, k2⟩ := ex b o (fun q => (hT b q).elim hb fun q' => by rw [q'] at e1; cases e1) (keep b o e1)
  refine ⟨sl, e2, fun hb => k2 ?_⟩
  rw [hz]
  intro q
  rcases List.mem_cons.mp q with q | q
  · rw [q, new_none] at e1; cases e1
  · exact hb q

theorem fn_uld (Z : Env0 w base mg mb) : FnAt base 50 (fdAt w.params 50) := Z.fn rfl rfl rfl rfl rfl rfl
theorem gl_uld (Z : Env0 w base mg mb) : mg "unorderable_list_difference" = some (.ref 50) := Z.glob (by rfl)

theorem erase_last (l : List L3) (j : Nat) (x : L3) (hx : l[j]? = some x) (hn : l.Nodup) : (l.take (j + 1)).erase x = l.take j := by
  rw [List.take_add_one, hx]
  have hno : x ∉ l.take j := fun q => by
    obtain ⟨i, hi, e⟩ := List.getElem_of_mem q
    have hij : i < j := by simp at hi; omega
    have hj : j < l.length := by
      rcases Nat.lt_or_ge j l.length with q | q
      · exact q
      · rw [List.getElem?_eq_none q] at hx; cases hx
    rw [List.getElem_take] at e
    rw [List.getElem?_eq_getElem hj] at hx
    have : l[i] = l[j] := e.trans (Option.some.inj hx).symm
    exact absurd ((List.getElem_inj hn).mp this) (by omega)
  rw [List.erase_append_right _ hno]; simp

/-- expected l' ++ [a], actual l': what is lacking is [a], what is left over is nothing -/
theorem c_uld {l' : List L3} {a : L3} {N O : Addr} {Q : Value → Shared → Prop} (Z : Env0 w base mg mb) (C : Cx base W (n + 1) A s.heap) (hn : l'.Nodup) (ha : a ∉ l') (hlen : l'.length ≤ 100) (hN : N ∈ W) (hO : O ∈ W) (hNO : N ≠ O) (hNz : N ∉ zone A) (hOz : O ∉ zone A)
    (accN : AccL W s.heap N ((l' ++ [a]).map (nmD odd))) (accO : AccL W s.heap O (l'.map (nmD odd)))
    (k : ∀ v h' tk, ExtB (zone A) [N, O] s.heap h' → (∃ t M, v = .ref t ∧ h'.IsTuple t #[.ref M, .ref O] ∧ s.heap.get? t = none ∧ s.heap.get? M = none ∧ AccL W h' M ([a].map (nmD odd)) ∧ AccL W h' O []) → Q v { s with heap := h', toks := tk }) :
    wpAny (model prog w) A (call (.ref 50) [.ref N, .ref O]) Q E s := by
  refine call_mut (T0 := [N, O]) (binds := [("expected", .ref N), ("actual", .ref O)]) C Z.G (fn_uld Z) rfl rfl rfl rfl (BindsTo.of_eq (by rfl)) rfl rfl rfl rfl (show ([("expected" : Str), "actual"]).Nodup by decide) (by rfl) (show ([] : List Str).Nodup from List.nodup_nil) ?_ k
  intro h₁ tk e W' outer keep he hW' hframes F hz hfresh hin E'
  have sub : ∀ a ∈ W, a ∈ W' := hW' ▸ sub_of
  have kx : e.kindOf "expected" = some .local := by rw [he]; rfl
  have ky : e.kindOf "actual" = some .local := by rw [he]; rfl
  have kn : e.kindOf "missing" = some .local := by rw [he]; rfl
  have ki : e.kindOf "item" = some .local := by rw [he]; rfl
  have kv : e.kindOf "ValueError" = some .globalImplicit := by rw [he]; rfl
  have hef : e.frame = some s.heap.objs.size := by rw [he]; rfl
  have old : ∀ {x : Addr}, x ∈ W → (∃ o, s.heap.get? x = some o) := fun q => C.live _ q
  have notb : ∀ {x : Addr}, x ∈ W → x ∉ blocks e := fun {x} q q' => by obtain ⟨o, e1⟩ := old q; rw [hfresh x q'] at e1; cases e1
  have notz : ∀ {x : Addr}, x ∈ W → x ∉ zone A → x ∉ zone (A.deeper e) := fun {x} q q' q2 => by
    rw [hz] at q2
    rcases List.mem_cons.mp q2 with r | r
    · obtain ⟨o, e1⟩ := old q; rw [r, new_none] at e1; cases e1
    · exact q' r
  have hNb := notb hN
  have hOb := notb hO
  have hNz' := notz hN hNz
  have hOz' := notz hO hOz
  have up : ∀ {x : Addr} {l : List L3}, AccL W s.heap x (l.map (nmD odd)) → ∀ Wx, AccL Wx h₁ x (l.map (nmD odd)) := fun q Wx => let ⟨vs, p, r⟩ := q; ⟨vs, p.at fun o e1 => keep _ _ e1, r.names⟩
  refine ex_own F (ds := []) (pe_list_new F PEs.nil (by simp)) (.inl kn) (fun M vs h2 tk2 hM hMW pl rs ex2 F2 F2o => ?_) (by rw [he]; rfl)
  cases rs
  have hMs : s.heap.get? M = none := by
    cases q : s.heap.get? M with
    | none => rfl
    | some o => have := keep _ _ q; rw [hM] at this; cases this
  have hMb : M ∉ blocks e := fun q => hMW (F.blocksW M q)
  have hMz : M ∉ zone (A.deeper e) := fun q => hMW (F.zoneW M q)
  have hMN : M ≠ N := fun q => hMW (q ▸ sub N hN)
  have hMO : M ≠ O := fun q => hMW (q ▸ sub O hO)
  have acc2 : ∀ {x : Addr} {l : List L3}, x ∉ blocks e → x ∉ zone (A.deeper e) → AccL (M :: W') h₁ x (l.map (nmD odd)) → AccL (M :: W') h2 x (l.map (nmD odd)) := fun qb qz q => let ⟨vs, p, r⟩ := q; ⟨vs, p.at fun o e1 => ex2.keep qb qz e1, r.names⟩
  have accN2 := acc2 hNb hNz' (up accN (M :: W'))
  have accO2 := acc2 hOb hOz' (up accO (M :: W'))
  let T : List Addr := M :: N :: O :: blocks e
  have hTW : ∀ x ∈ T, x ∈ M :: W' := fun x hx => by
    rcases List.mem_cons.mp hx with q | hx
    · exact q ▸ .head _
    rcases List.mem_cons.mp hx with q | hx
    · exact q ▸ .tail _ (sub N hN)
    rcases List.mem_cons.mp hx with q | hx
    · exact q ▸ .tail _ (sub O hO)
    · exact .tail _ (F.blocksW x hx)
  -- the state of the loop
  let St : Nat → Heap → Vars → Prop := fun k h m => m "expected" = some (.ref N) ∧ m "actual" = some (.ref O) ∧ m "missing" = some (.ref M) ∧
    ((k = l'.length + 1 ∧ AccL (M :: W') h N ((l' ++ [a]).map (nmD odd)) ∧ AccL (M :: W') h O (l'.map (nmD odd)) ∧ AccL (M :: W') h M ([].map (nmD odd)))
      ∨ (k ≤ l'.length ∧ AccL (M :: W') h N ((l'.take k).map (nmD odd)) ∧ AccL (M :: W') h O ((l'.take k).map (nmD odd)) ∧ AccL (M :: W') h M ([a].map (nmD odd))))
  have keepAcc : ∀ {x : Addr} {l : List L3} {hh hh' : Heap} {T1 : List Addr}, ExtB (zone (A.deeper e)) T1 hh hh' → x ∉ T1 → x ∉ zone (A.deeper e) → AccL (M :: W') hh x (l.map (nmD odd)) → AccL (M :: W') hh' x (l.map (nmD odd)) := fun ex q1 q2 q => let ⟨vs, p, r⟩ := q; ⟨vs, p.at fun o e1 => ex.keep q1 q2 e1, r.names⟩
  refine ex_while2 (W := M :: W') (T := T) St (fun _ _ => False) F2o (l'.length + 1) ⟨rfl, rfl, rfl, .inl ⟨rfl, accN2, accO2, [], pl, .nil⟩⟩ ?_ (fun _ _ _ q => q.elim)
  rintro k h3 m3 ⟨mN, mO, mM, hst⟩ ex3 F3
  obtain ⟨lN, hlN, accN3⟩ : ∃ lN : List L3, lN.length = k ∧ AccL (M :: W') h3 N (lN.map (nmD odd)) := by
    rcases hst with ⟨hk, q, _⟩ | ⟨hk, q, _⟩
    · exact ⟨_, by simp [hk], q⟩
    · exact ⟨_, by simp [hk], q⟩
  obtain ⟨vN, plN, rN⟩ := id accN3
  have hvN : vN.length = k := by rw [rN.length]; simpa using hlN
  have hz3 : vN.length ≤ sizeLine := by
    have : sizeLine = 16777216 := by decide
    rcases hst with ⟨hk, _⟩ | ⟨hk, _⟩ <;> omega
  refine ⟨!vN.isEmpty, pt_list (L := N) (vs := vN) (PE.name F3 mN (fun _ _ => rfl) (.inl kx) (by decide)) (fun h' x' => plN.at fun o e1 => x'.keep hNz' e1) hz3 (by intro _; rfl), ?_, ?_⟩
  · intro hc h4 tk4 x4 F4 E2
    have hk0 : k ≠ 0 := by
      intro q; rw [q] at hvN; cases vN with
      | nil => simp at hc
      | cons _ _ => simp at hvN
    have mv : ∀ {x : Addr} {l : List L3}, x ∉ zone (A.deeper e) → AccL (M :: W') h3 x (l.map (nmD odd)) → AccL (M :: W') h4 x (l.map (nmD odd)) := fun q2 q => keepAcc (T1 := []) x4.toB (by simp) q2 q
    have hNW : N ∈ M :: W' := .tail _ (sub N hN)
    have hOW : O ∈ M :: W' := .tail _ (sub O hO)
    have hzz : sizeLine = 16777216 := by decide
    rcases hst with ⟨hk, aN, aO, aM⟩ | ⟨hk, aN, aO, aM⟩
    · -- the last name: not there
      have aN4 := mv hNz' aN
      rw [List.map_append] at aN4
      refine ex_pop (ds := l'.map (nmD odd)) (d := nmD odd a) F4 (PE.name F4 mN (fun _ _ => rfl) (.inl kx) (by decide)) hNW hNb hNz' aN4 (by rw [List.length_map]; omega) (.inl ki) (fun v h5 h6 tk6 ex5 mu6 aN6 rv6 F6 => ?_) (by rfl) (by rfl) (by rw [he]; rfl)
      have ex6 : ExtB (zone (A.deeper e)) (N :: blocks e) h4 h6 := (ex5.mono fun x q => by rw [List.mem_singleton.mp q]; exact .head _).trans (ExtB.of_mut (mu6.mono fun x q => .tail _ q))
      have aO6 : AccL (M :: W') h6 O (l'.map (nmD odd)) := keepAcc ex6 (fun q => (List.mem_cons.mp q).elim (fun q => hNO q.symm) hOb) hOz' (mv hOz' aO)
      have aM6 : AccL (M :: W') h6 M (([] : List L3).map (nmD odd)) := keepAcc ex6 (fun q => (List.mem_cons.mp q).elim hMN hMb) hMz (mv hMz aM)
      have mO6 : (upd m3 "item" v) "actual" = some (.ref O) := by simp only [upd]; rw [if_neg (by decide)]; exact mO
      have mN6 : (upd m3 "item" v) "expected" = some (.ref N) := by simp only [upd]; rw [if_neg (by decide)]; exact mN
      have mM6 : (upd m3 "item" v) "missing" = some (.ref M) := by simp only [upd]; rw [if_neg (by decide)]; exact mM
      have mI6 : (upd m3 "item" v) "item" = some v := by simp [upd]
      refine wpAny_execs_cons (wpAny_Try_except ?_)
      obtain ⟨vO, plO, rO⟩ := id aO6
      refine wpAny_execs_cons (wpAny_Expr (on_list (PE.name F6 mO6 (fun _ _ => rfl) (.inl ky) (by decide)) plO hOz' PySem.F.slot_list_remove PySem.F.type_list_remove (PEs.cons (PE.var F6 mI6 rv6 (.inl ki)) (F6.stable _) PEs.nil (by rfl)) (fun vs' h7 t7 x7 p7 => ?_) (by rfl) (by rfl) (by rfl) (by rfl) (by rfl)) (by rw [he]; rfl) (by rw [he]; rfl))
      match vs', p7 with
      | [vi], p7 =>
      have F7 := F6.ext x7
      have aO7 := keepAcc (T1 := []) x7.toB (by simp) hOz' aO6
      refine call_remove_none (W := M :: W') (x := a) (l := l') F.handled aO7 p7.1 ha fun h8 tk8 ex hx => ?_
      refine caught (h0 := h7) F7 Z.G hframes hef hx kv fun h9 tk9 x9 E3 => ?_
      have F9 := F7.ext x9
      have aM9 : AccL (M :: W') h9 M (([] : List L3).map (nmD odd)) := keepAcc (T1 := []) (x7.trans x9).toB (by simp) hMz aM6
      have rv9 : Rep (M :: W') h9 v (nmD odd a) := rv6.atom (nmD_atom odd a)
      refine ex_append_m (A0 := A.deeper e) (ds := ([] : List L3).map (nmD odd)) (d := nmD odd a) F9 rfl (pe_name_m F9 rfl mM6 (fun _ _ => rfl) (.inl kn) (by decide)) (.head _) hMb hMz aM9 (pe_name_m F9 rfl mI6 (fun h' x' => rv9.ext F9 x') (.inl ki) (by decide)) (by simp) (fun h10 tk10 ex10 aM10 F10 => ?_) (by rfl) (by rfl) (by rfl) (by rfl) (by rw [he]; rfl) (by rw [he]; rfl)
      have ex10' : ExtB (zone (A.deeper e)) T h4 h10 := ((ex6.mono fun x q => (List.mem_cons.mp q).elim (fun q => q ▸ .tail _ (.head _)) fun q => .tail _ (.tail _ (.tail _ q))).trans (x7.trans x9).toB).trans (ex10.mono fun x q => by rw [List.mem_singleton.mp q]; exact .head _)
      have tail : ExtB (zone (A.deeper e)) [M] h6 h10 := ((x7.trans x9).toB).trans ex10
      refine ex_done (ex_done ⟨h10, tk10, rfl, ex10', _, l'.length, by omega, F10, mN6, mO6, mM6, .inr ⟨Nat.le_refl _, ?_, ?_, aM10⟩⟩)
      · rw [List.take_length]; exact keepAcc tail (by simpa using Ne.symm hMN) hNz' aN6
      · rw [List.take_length]; exact keepAcc tail (by simpa using Ne.symm hMO) hOz' aO6
    · obtain ⟨j, rfl⟩ : ∃ j, k = j + 1 := ⟨k - 1, by omega⟩
      have hj : j < l'.length := by omega
      have hx : l'[j]? = some l'[j] := List.getElem?_eq_getElem hj
      have etk : l'.take (j + 1) = l'.take j ++ [l'[j]] := by rw [List.take_add_one, hx]; rfl
      have aN4 := mv hNz' aN
      rw [etk, List.map_append] at aN4
      refine ex_pop (ds := (l'.take j).map (nmD odd)) (d := nmD odd l'[j]) F4 (PE.name F4 mN (fun _ _ => rfl) (.inl kx) (by decide)) hNW hNb hNz' aN4 (by rw [List.length_map, List.length_take]; omega) (.inl ki) (fun v h5 h6 tk6 ex5 mu6 aN6 rv6 F6 => ?_) (by rfl) (by rfl) (by rw [he]; rfl)
      have ex6 : ExtB (zone (A.deeper e)) (N :: blocks e) h4 h6 := (ex5.mono fun x q => by rw [List.mem_singleton.mp q]; exact .head _).trans (ExtB.of_mut (mu6.mono fun x q => .tail _ q))
      have aO6 : AccL (M :: W') h6 O ((l'.take (j + 1)).map (nmD odd)) := keepAcc ex6 (fun q => (List.mem_cons.mp q).elim (fun q => hNO q.symm) hOb) hOz' (mv hOz' aO)
      have aM6 : AccL (M :: W') h6 M ([a].map (nmD odd)) := keepAcc ex6 (fun q => (List.mem_cons.mp q).elim hMN hMb) hMz (mv hMz aM)
      have mO6 : (upd m3 "item" v) "actual" = some (.ref O) := by simp only [upd]; rw [if_neg (by decide)]; exact mO
      have mN6 : (upd m3 "item" v) "expected" = some (.ref N) := by simp only [upd]; rw [if_neg (by decide)]; exact mN
      have mM6 : (upd m3 "item" v) "missing" = some (.ref M) := by simp only [upd]; rw [if_neg (by decide)]; exact mM
      have mI6 : (upd m3 "item" v) "item" = some v := by simp [upd]
      refine wpAny_execs_cons (wpAny_Try_except ?_)
      obtain ⟨vO, plO, rO⟩ := id aO6
      refine wpAny_execs_cons (wpAny_Expr (on_list (PE.name F6 mO6 (fun _ _ => rfl) (.inl ky) (by decide)) plO hOz' PySem.F.slot_list_remove PySem.F.type_list_remove (PEs.cons (PE.var F6 mI6 rv6 (.inl ki)) (F6.stable _) PEs.nil (by rfl)) (fun vs' h7 t7 x7 p7 => ?_) (by rfl) (by rfl) (by rfl) (by rfl) (by rfl)) (by rw [he]; rfl) (by rw [he]; rfl))
      match vs', p7 with
      | [vi], p7 =>
      have F7 := F6.ext x7
      have aO7 := keepAcc (T1 := []) x7.toB (by simp) hOz' aO6
      refine call_remove (W := M :: W') (x := l'[j]) (l := l'.take (j + 1)) (s := { s with heap := h7, toks := t7 }) hOW aO7 p7.1 (by rw [etk]; exact List.mem_append_right _ (.head _)) (by rw [List.length_take]; omega) fun h8 hs8 aO8 => ?_
      rw [erase_last l' j _ hx hn] at aO8
      have F8 := F7.wrote hs8 hOW hOb hOz' (by obtain ⟨_, p8, _⟩ := aO8; obtain ⟨_, e8⟩ := p8; exact ⟨_, e8⟩)
      have tail : ExtB (zone (A.deeper e)) [O] h6 h8 := x7.toB.trans (ExtB.of_keep fun b o hb e1 => (hs8.2 b fun q => hb (by simp [q])).trans e1)
      have ex8 : ExtB (zone (A.deeper e)) T h4 h8 := (ex6.mono fun x q => (List.mem_cons.mp q).elim (fun q => q ▸ .tail _ (.head _)) fun q => .tail _ (.tail _ (.tail _ q))).trans (tail.mono fun x q => by rw [List.mem_singleton.mp q]; exact .tail _ (.tail _ (.head _)))
      refine ex_done (ex_done (ex_done ⟨h8, t7, rfl, ex8, _, j, by omega, F8, mN6, mO6, mM6, .inr ⟨by omega, ?_, aO8, ?_⟩⟩))
      · exact keepAcc tail (by simpa using hNO) hNz' aN6
      · exact keepAcc tail (by simpa using hMO) hMz aM6
  · intro hc h4 tk4 x4 ex4 F4
    have hk0 : k = 0 := by
      cases vN with
      | nil => simpa using hvN.symm
      | cons _ _ => simp at hc
    rcases hst with ⟨hk, _⟩ | ⟨hk, _, accO3, accM3⟩
    · omega
    subst hk0
    have accO4 : AccL (M :: W') h4 O (([] : List L3).map (nmD odd)) := keepAcc (T1 := []) x4.toB (by simp) hOz' (by simpa using accO3)
    have accM4 : AccL (M :: W') h4 M ([a].map (nmD odd)) := keepAcc (T1 := []) x4.toB (by simp) hMz accM3
    refine ex_return (P := fun hh v => ∃ t, v = .ref t ∧ hh.IsTuple t #[.ref M, .ref O] ∧ h4.get? t = none) (fun s' hs' Q2 E2 k2 => ?_) fun v h5 t5 x5 p5 => ?_
    · refine wpAny_Tuple ((PEs.cons (PE.name F4 mM (P := V (.ref M)) (fun _ _ => rfl) (.inl kn) (by decide)) (Stable.val _) (PEs.cons (PE.name F4 mO (P := V (.ref O)) (fun _ _ => rfl) (.inl ky) (by decide)) (Stable.val _) PEs.nil (by rfl)) (by rfl)) s' hs' _ _ fun vs h5 t5 x5 p5 => ?_)
      match vs, p5 with
      | [v1, v2], p5 =>
      obtain ⟨q1, q2, _⟩ := p5
      cases q1; cases q2
      exact ⟨by show 2 ≤ sizeLine; decide, k2 _ _ _ (x5.trans (Ext.push _ _)) ⟨_, rfl, ⟨_, Heap.get?_push_size _ rfl, rfl, 0, rfl⟩, (hs'.trans x5).none (new_none _)⟩⟩
    · obtain ⟨t, rfl, htup, htn⟩ := p5
      have htot : ExtB (zone (A.deeper e)) T h₁ h4 := (ex2.mono fun x q => .tail _ (.tail _ (.tail _ q))).trans ex4
      have hts : s.heap.get? t = none := by
        cases q : s.heap.get? t with
        | none => rfl
        | some o =>
          have h1t := keep _ _ q
          by_cases hm : t ∈ T
          · have hlive : ∃ o, h4.get? t = some o := F4.live t (hTW t hm)
            obtain ⟨o', e'⟩ := hlive; rw [htn] at e'; cases e'
          · obtain ⟨sl, e', _⟩ := htot t o hm h1t; rw [htn] at e'; cases e'
      have fin : ∀ {x : Addr} {l : List L3}, x ∉ zone (A.deeper e) → AccL (M :: W') h4 x (l.map (nmD odd)) → AccL W h5 x (l.map (nmD odd)) := fun q2 q => let ⟨vs, p, r⟩ := q; ⟨vs, p.at fun o e1 => x5.keep q2 e1, r.names⟩
      refine ⟨h5, t5, T, .ref t, rfl, fun x hx => ?_, htot.trans x5.toB, rfl, t, M, rfl, htup, hts, hMs, fin hMz accM4, by simpa using fin hOz' accO4⟩
      rcases List.mem_cons.mp hx with q | hx
      · exact .inr (q ▸ hMs)
      rcases List.mem_cons.mp hx with q | hx
      · exact .inl (q ▸ .head _)
      rcases List.mem_cons.mp hx with q | hx
      · exact .inl (q ▸ .tail _ (.head _))
      · exact .inr (hfresh x hx)
end
end Mine
end

-- C5
noncomputable section
open PySem PySem.W PyProof.Rows PySem.SeqAt
namespace Mine
set_option maxRecDepth 100000
section
variable {prog : Program} {w : World} {base h h₁ : Heap} {W W' T0 : List Addr} {n : Nat} {A : Around} {env : Env} {m : Vars} {s : Shared} {E : Value → Shared → Prop} {odd : Bool} {mg mb : Vars}

theorem pe_call {x : Str} {np pos : Pos} {e : Expr} {es : List Expr} {f : Addr} {fd : FuncData} {Ps : List P3} {P : P3} (F : Fx base W n A env h m) (G : Glo base mg mb) (hx : mg x = some (.ref f)) (hf : FnAt base f fd)
    (hk : env.kindOf x = some .globalImplicit) (hd : plainName x = true) (ha : PEs (model prog w) A env h pos (e :: es) Ps)
    (ho : ∀ (s : Shared) vs, Ext (zone A) h s.heap → AllP Ps s.heap vs → TE (model prog w) A s (call (.ref f) vs) P)
    (he : starEach (e :: es) env = (false, eval e env) :: starEach es env := by rfl) (hp : (backTo pos (starEach es env)).any (·.1) = false := by rfl) : PE (model prog w) A env h (.Call (.Name x np) (e :: es) [] pos) P := by
  obtain ⟨o, h1, h2⟩ := hf.obj
  exact PE.callF F (PE.global F G hx (fun _ => rfl) hk hd) h1 h2 ha ho he hp
theorem pe_call1 {x : Str} {np pos : Pos} {e : Expr} {f : Addr} {fd : FuncData} {d : D} {P : P3} (F : Fx base W n A env h m) (G : Glo base mg mb) (hx : mg x = some (.ref f)) (hf : FnAt base f fd)
    (hk : env.kindOf x = some .globalImplicit) (hd : plainName x = true) (ha : PE (model prog w) A env h e (R W d))
    (ho : ∀ (s : Shared) v, Cx base W n A s.heap → R W d s.heap v → TE (model prog w) A s (call (.ref f) [v]) P)
    (he : starEach [e] env = (false, eval e env) :: starEach [] env := by rfl) : PE (model prog w) A env h (.Call (.Name x np) [e] [] pos) P :=
  pe_call F G hx hf hk hd (PEs.cons ha (F.stable _) PEs.nil he) (fun s vs x p => by
    match vs, p with
    | [v], p => exact ho s v (F.cx.ext x) p.1) he (by rfl)

theorem fn_less (Z : Env0 w base mg mb) : FnAt base 36 (fdAt w.params 36) := Z.fn rfl rfl rfl rfl rfl rfl
theorem gl_less (Z : Env0 w base mg mb) : mg "_compare_args_orderless" = some (.ref 36) := Z.glob (by rfl)

theorem erase_filter (t l : List L3) (x : L3) (ht : t.Nodup) : (t.filter fun y => decide (y ∉ l)).erase x = t.filter fun y => decide (y ∉ l ++ [x]) := by
  rw [List.Nodup.erase_eq_filter (ht.filter _), List.filter_filter]
  refine List.filter_congr fun y _ => ?_
  by_cases h1 : y = x
  · subst h1; simp
  · have : (y != x) = true := by simpa using h1
    rw [this]; simp [h1]

theorem c_less {l1 l2 : List L3} {v v' : Value} (Z : Env0 w base mg mb) (C : Cx base W (n + 2) A s.heap) (hsub : ∀ x ∈ l1, x ∈ l2) (ra : R W (dW odd l1) s.heap v) (rb : R W (dW odd l2) s.heap v') :
    TE (model prog w) A s (call (.ref 36) [v, v']) (R W (.bool (decide (∀ x ∈ l2, x ∈ l1)))) := by
  refine te_call (n := n + 1) (binds := [("first_args", v), ("second_args", v')]) C Z.G (fn_less Z) rfl rfl rfl rfl (BindsTo.of_eq (by rfl)) rfl rfl rfl rfl (show ([("first_args" : Str), "second_args"]).Nodup by decide) (by rfl) (show ([] : List Str).Nodup from List.nodup_nil) ?_
  intro h₁ tk e W' keep he hW' F hz hfresh hin E'
  have rv : Rep W' h₁ v (dW odd l1) := Rep.enter ra hin keep
  have rv' : Rep W' h₁ v' (dW odd l2) := Rep.enter rb hin keep
  have sub : ∀ a ∈ W, a ∈ W' := hW' ▸ sub_of
  have k1 : e.kindOf "first_args" = some .local := by rw [he]; rfl
  have k2 : e.kindOf "second_args" = some .local := by rw [he]; rfl
  have k3 : e.kindOf "first_unhashable" = some .local := by rw [he]; rfl
  have k4 : e.kindOf "second_unhashable" = some .local := by rw [he]; rfl
  have k5 : e.kindOf "t" = some .local := by rw [he]; rfl
  have k6 : e.kindOf "elem" = some .local := by rw [he]; rfl
  have k7 : e.kindOf "_deduplicate_unhashable" = some .globalImplicit := by rw [he]; rfl
  have k8 : e.kindOf "list" = some .globalImplicit := by rw [he]; rfl
  have hs16 : sizeLine = 16777216 := by decide
  refine ex_let2 (d := dW odd (dedup l1)) F (pe_call1 F Z.G (gl_uniq Z) (fn_uniq Z) k7 (by decide) (PE.var F (v := v) rfl rv (.inl k1)) (fun s' v0 C' p => c_uniq Z C' p) (by rfl)) (.inl k3) (fun va h2 t2 ra2 ex2 F2 => ?_) (by rw [he]; rfl)
  have mv2 : Mut W' h₁ h2 := ex2.mut F.blocksW F.zoneW
  refine ex_let2 (d := dW odd (dedup l2)) F2 (pe_call1 F2 Z.G (gl_uniq Z) (fn_uniq Z) k7 (by decide) (PE.var F2 (v := v') rfl (rv'.mut mv2) (.inl k2)) (fun s' v0 C' p => c_uniq Z C' p) (by rfl)) (.inl k4) (fun vb h3 t3 rb3 ex3 F3 => ?_) (by rw [he]; rfl)
  have mv3 : Mut W' h2 h3 := ex3.mut F.blocksW F.zoneW
  have ra3 := ra2.mut mv3
  refine ex_own (ds := (dedup l2).map (nmD odd)) F3 (PE.callT (id := "list") (Ps := [R W' (dW odd (dedup l2))]) (PE.builtin F3 Z.G (by decide) (by decide +kernel) (fun _ => rfl) k8 (by decide)) (PEs.cons (PE.var F3 (v := vb) rfl rb3 (.inl k4)) (F3.stable _) PEs.nil (by rfl)) (fun s' vs x p => ?_) (by rfl) (by rfl)) (.inl k5) (fun L vs h4 t4 hL hLW pl rs ex4 F4 F4o => ?_) (by rw [he]; rfl)
  · match vs, p with
    | [v0], p => exact (te_copy_new (F3.cx.ext x).new p.1 (by rw [List.length_map]; have := dedup_len l2; omega)).mono fun _ _ _ q => ⟨let ⟨L, e1, e2⟩ := q.1; ⟨L, e1, x.none e2⟩, q.2⟩
  have hLb : L ∉ blocks e := fun q => hLW (F.blocksW L q)
  have hLz : L ∉ zone (A.deeper e) := fun q => hLW (F.zoneW L q)
  have hLs : s.heap.get? L = none := by
    cases q : s.heap.get? L with
    | none => rfl
    | some o =>
      have hbL := keep _ _ q
      obtain ⟨sl, e1, _⟩ := (ex2.trans ex3) L o (fun q => hLb q) hbL
      have hL' : h3.get? L = none := hL
      rw [hL'] at e1; cases e1
  have ra4 : Rep (L :: W') h4 va (dW odd (dedup l1)) := Rep.into ra3 hL (ex4.mut (fun a ha => .tail _ (F.blocksW a ha)) (fun a ha => .tail _ (F.zoneW a ha)))
  have ef : (dedup l2).filter (fun y => decide (y ∉ (dedup l1).take 0)) = dedup l2 := List.filter_eq_self.mpr (by simp)
  refine wpAny_execs_cons (wpAny_Try_except ?_)
  refine ex_for2 (W := L :: W') (T := L :: blocks e) ((dedup l1).map (nmD odd)) (fun i h m => m "t" = some (.ref L) ∧ AccL (L :: W') h L (((dedup l2).filter fun y => decide (y ∉ (dedup l1).take i)).map (nmD odd))) (fun _ _ => False) F4o (fun a ha => .tail _ ha)
    (fun a ha => (List.mem_cons.mp ha).elim (fun q => q ▸ .head _) fun q => .tail _ (F.blocksW a q)) (pe_mono (PE.var F4o (v := va) rfl ra4 (.inl k3)) fun _ _ p => .inl p) (.inl k6) (fun h' x => ⟨rfl, vs, pl.at fun o e1 => x.keep hLz e1, by rw [ef]; exact rs.names⟩) ?_ ?_ (fun _ _ _ q => q.elim) (by rw [he]; intro _; rfl)
  · rintro i d vt h5 m5 h6 t6 hd ⟨hm5, acc5⟩ md ex6 F6 rt E2
    obtain ⟨x, hx, rfl⟩ : ∃ x, (dedup l1)[i]? = some x ∧ d = nmD odd x := by
      rw [List.getElem?_map] at hd
      cases q : (dedup l1)[i]? with
      | none => rw [q] at hd; cases hd
      | some x => rw [q] at hd; cases hd; exact ⟨x, rfl, rfl⟩
    have acc6 := acc5.mutD md (fun a ha => .tail _ (F.blocksW a ha)) hLb
    have hmn : (upd m5 "elem" vt) "t" = some (.ref L) := by simp only [upd]; rw [if_neg (by decide)]; exact hm5
    have hmt : (upd m5 "elem" vt) "elem" = some vt := by simp [upd]
    have hxi : x ∉ (dedup l1).take i := fun q => by
      obtain ⟨j, hj, e1⟩ := List.getElem_of_mem q
      have hji : j < i := by simp at hj; omega
      have hil : i < (dedup l1).length := (List.getElem?_eq_some_iff.mp hx).1
      rw [List.getElem_take] at e1
      rw [List.getElem?_eq_getElem hil] at hx
      exact absurd ((List.getElem_inj (nodup_dedup l1)).mp (e1.trans (Option.some.inj hx).symm)) (by omega)
    have hxm : x ∈ (dedup l2).filter fun y => decide (y ∉ (dedup l1).take i) := by
      rw [List.mem_filter]
      exact ⟨(mem_dedup l2 x).mpr (hsub x ((mem_dedup l1 x).mp (List.mem_of_getElem? hx))), by simpa using hxi⟩
    obtain ⟨vL, plL, rL⟩ := id acc6
    refine wpAny_execs_cons (wpAny_Expr (on_list (PE.name F6 hmn (fun _ _ => rfl) (.inl k5) (by decide)) plL hLz PySem.F.slot_list_remove PySem.F.type_list_remove (PEs.cons (PE.var F6 hmt rt (.inl k6)) (F6.stable _) PEs.nil (by rfl)) (fun vs' h7 t7 x7 p7 => ?_) (by rfl) (by rfl) (by rfl) (by rfl) (by rfl)) (by rw [he]; rfl) (by rw [he]; rfl))
    match vs', p7 with
    | [vi], p7 =>
    have F7 := F6.ext x7
    have acc7 := acc6.mutD (T := zone (A.deeper e)) (x7.mut fun a q => q).toD F6.zoneW hLz
    refine call_remove (W := L :: W') (s := { s with heap := h7, toks := t7 }) (x := x) (.head _) acc7 p7.1 hxm (by have := List.length_filter_le (fun y => decide (y ∉ (dedup l1).take i)) (dedup l2); have := dedup_len l2; omega) fun h8 hs8 acc8 => ?_
    have F8 := F7.wrote hs8 (.head _) hLb hLz (by obtain ⟨_, p8, _⟩ := acc8; obtain ⟨_, e8⟩ := p8; exact ⟨_, e8⟩)
    refine ex_done ⟨h8, t7, rfl, (x7.toB (T := L :: blocks e)).trans (ExtB.of_keep fun b o hb e1 => (hs8.2 b fun q => hb (q ▸ .head _)).trans e1), _, F8, hmn, ?_⟩
    rw [erase_filter _ _ _ (nodup_dedup l2)] at acc8
    rw [List.take_add_one, hx]; exact acc8
  · rintro h5 m5 h6 t6 ⟨hm5, acc5⟩ md ex6 F6
    have acc6 : AccL (L :: W') h6 L (((dedup l2).filter fun y => decide (y ∉ dedup l1)).map (nmD odd)) := by
      rw [List.length_map, List.take_length] at acc5
      exact acc5.mutD md (by simp) (by simp)
    obtain ⟨vL, plL, rL⟩ := id acc6
    have hemp : vL.isEmpty = decide (∀ x ∈ l2, x ∈ l1) := by
      have hl := rL.length
      rw [List.length_map] at hl
      rw [Bool.eq_iff_iff, decide_eq_true_eq, List.isEmpty_iff]
      constructor
      · intro q x hx
        subst q
        have hf : (dedup l2).filter (fun y => decide (y ∉ dedup l1)) = [] := List.eq_nil_of_length_eq_zero (by simpa using hl.symm)
        rw [List.filter_eq_nil_iff] at hf
        have := hf x ((mem_dedup l2 x).mpr hx)
        simp only [decide_eq_true_eq, Classical.not_not] at this
        exact (mem_dedup l1 x).mp this
      · intro q
        have hf : (dedup l2).filter (fun y => decide (y ∉ dedup l1)) = [] := by
          rw [List.filter_eq_nil_iff]
          intro x hx
          simp only [decide_eq_true_eq, Classical.not_not]
          exact (mem_dedup l1 x).mpr (q x ((mem_dedup l2 x).mp hx))
        rw [hf] at hl
        exact List.eq_nil_of_length_eq_zero (by simpa using hl)
    have hvl : vL.length ≤ 3 := by
      have hl := rL.length
      rw [List.length_map] at hl
      have := List.length_filter_le (fun y => decide (y ∉ dedup l1)) (dedup l2); have := dedup_len l2; omega
    refine ex_done (ex_done ?_)
    refine ex_return (P := R W' (.bool (!(!vL.isEmpty)))) (pe_not (P := V (.ref L)) (b := !vL.isEmpty) (PE.name F6 hm5 (fun _ _ => rfl) (.inl k5) (by decide)) fun s' v0 x0 p0 => ?_) fun v2 h7 t7 x7 p7 => ?_
    · cases p0
      intro Q2 E2 k2
      refine wpAny_truthy_list (plL.at fun o e1 => x0.keep hLz e1).isList (by simp; omega) ?_
      have e1 : (!vL.toArray.isEmpty) = !vL.isEmpty := by cases vL <;> rfl
      rw [e1]
      exact k2 _ s'.heap _ (Ext.refl _ _) rfl
    · rw [Bool.not_not, hemp] at p7
      refine ⟨h7, t7, L :: blocks e, v2, rfl, fun a ha => ?_, (((((ex2.trans ex3).trans ex4).mono fun a ha => .tail _ ha).trans ex6)).trans x7.toB, rfl, Rep.leave p7 sub⟩
      rcases List.mem_cons.mp ha with q | q
      · rw [q]; exact hLs
      · exact hfresh a q
end
end Mine
end

-- C6
noncomputable section
open PySem PySem.W PyProof.Rows PySem.SeqAt
namespace Mine
set_option maxRecDepth 100000
theorem fn_least {w : World} {base : Heap} {mg mb : Vars} (Z : Env0 w base mg mb) : FnAt base 74 (fdAt w.params 74) := Z.fn rfl rfl rfl rfl rfl rfl
theorem gl_least {w : World} {base : Heap} {mg mb : Vars} (Z : Env0 w base mg mb) : mg "_law_least" = some (.ref 74) := Z.glob (by rfl)
theorem gl_code {w : World} {base : Heap} {mg mb : Vars} (Z : Env0 w base mg mb) : mg "_law_code" = some (.ref 69) := Z.glob (by rfl)
theorem fn_code {w : World} {base : Heap} {mg mb : Vars} (Z : Env0 w base mg mb) : FnAt base 69 (fdAt w.params 69) := Z.fn rfl rfl rfl rfl rfl rfl
theorem gl_cut {w : World} {base : Heap} {mg mb : Vars} (Z : Env0 w base mg mb) : mg "_law_cut" = some (.ref 62) := Z.glob (by rfl)
theorem fn_cut {w : World} {base : Heap} {mg mb : Vars} (Z : Env0 w base mg mb) : FnAt base 62 (fdAt w.params 62) := Z.fn rfl rfl rfl rfl rfl rfl
theorem gl_struck {w : World} {base : Heap} {mg mb : Vars} (Z : Env0 w base mg mb) : mg "_law_struck" = some (.ref 79) := Z.glob (by rfl)
theorem fn_struck {w : World} {base : Heap} {mg mb : Vars} (Z : Env0 w base mg mb) : FnAt base 79 (fdAt w.params 79) := Z.fn rfl rfl rfl rfl rfl rfl

section
variable {prog : Program} {w : World} {base h h₁ : Heap} {W W' T0 : List Addr} {n : Nat} {A : Around} {env : Env} {m : Vars} {s : Shared} {E : Value → Shared → Prop} {odd : Bool} {mg mb : Vars}

theorem least_le : ∀ c : Cd L3, (least c).length ≤ dp c
  | .e => by simp [least, dp]
  | .n f a g b => by
    have h1 := least_le f
    have h2 := least_le g
    simp only [least, dp, List.length_append, List.length_drop, List.length_cons, List.length_reverse, List.length_nil]
    omega

/-- xs[i], xs a row of data -/
theorem pe_item {e sl : Expr} {i : Int} {p2 : Pos} {ds : List D} {d : D} (F : Fx base W n A env h m) (he : PE (model prog w) A env h e (R W (.list ds))) (hi : PE (model prog w) A env h sl (R W (.int i))) (h0 : 0 ≤ i) (h1 : i < 2 ^ 63) (hd : ds[i.toNat]? = some d)
    (hops : ∀ v j, ∃ ops, subscripted sl false v j = operate ops (getItem v j)) : PE (model prog w) A env h (.Subscript e sl p2) (R W d) :=
  PE.sub he (F.stable _) hi PySem.F.slot_list_getitem.lookup (fun s v p => R.typeList p) hops fun s v j x p q => TE.getItem p q h0 h1 hd
/-- xs[lo:hi:st] -/
theorem pe_cut {e : Expr} {l u st : Option Expr} {lo hi step : Option Int} {p1 p2 : Pos} {ds ds' : List D} (F : Fx base W n A env h m) (he : PE (model prog w) A env h e (R W (.list ds)))
    (hl : Part (model prog w) A env h l lo) (hu : Part (model prog w) A env h u hi) (hs' : Part (model prog w) A env h st step)
    (ho : ∀ (s : Shared) v i, s.heap.objs.size ∉ W → R W (.list ds) s.heap v → Sl lo hi step s.heap i → TE (model prog w) A s (getItem v i) (R W (.list ds')))
    (hops : ∀ v j, ∃ ops, subscripted (.Slice l u st p1) false v j = operate ops (getItem v j)) : PE (model prog w) A env h (.Subscript e (.Slice l u st p1) p2) (R W (.list ds')) :=
  PE.sub he (F.stable _) (PE.slice hl hu hs') PySem.F.slot_list_getitem.lookup (fun s v p => R.typeList p) hops fun s v i x p q => ho s v i (F.cx.ext x).new p q
/-- len(xs) -/
theorem pe_len {x : Str} {p pos : Pos} {e : Expr} {ds : List D} (F : Fx base W n A env h m) (G : Glo base mg mb) (hk : env.kindOf "len" = some .globalImplicit) (he : PE (model prog w) A env h e (R W (.list ds))) (hz : ds.length ≤ sizeLine)
    (hst : starEach [e] env = (false, eval e env) :: starEach [] env) : PE (model prog w) A env h (.Call (.Name "len" p) [e] [] pos) (R W (.int ds.length)) :=
  PE.callB (id := "len") (Ps := [R W (.list ds)]) (PE.builtin F G (by decide) (by decide +kernel) (fun _ => rfl) hk (by decide)) (PEs.cons he (F.stable _) PEs.nil hst) (fun s vs x p => by
    match vs, p with
    | [v], p => exact TE.len p.1 hz) hst (by rfl)

theorem maxOf_ints {l : List Nat} {x : Int} (h1 : x ∈ l.map fun k => ((k : Nat) : Int)) (h2 : ∀ y ∈ l.map (fun k => ((k : Nat) : Int)), y ≤ x) : x = ((maxOf l : Nat) : Int) := by
  obtain ⟨k, hk, rfl⟩ := List.mem_map.mp h1
  have : maxOf l = k := maxOf_is hk fun y hy => by
    have := h2 _ (List.mem_map.mpr ⟨y, hy, rfl⟩)
    omega
  rw [this]

theorem c_least : ∀ (c : Cd L3) (A : Around) (W : List Addr) (n : Nat) (s : Shared) (v : Value), Env0 w base mg mb → dp c ≤ 1000 → Cx base W (n + dp c) A s.heap → R W (codeD odd c) s.heap v → TE (model prog w) A s (call (.ref 74) [v]) (R W (dW odd (least c)))
  | .e, A, W, n, s, v, Z, _, C, ra => by
    refine te_call (n := n) (binds := [("code", v)]) C Z.G (fn_least Z) rfl rfl rfl rfl (BindsTo.of_eq (by rfl)) rfl rfl rfl rfl (show ([("code" : Str)]).Nodup by decide) (by rfl) (show ([("tail" : Str), "head"]).Nodup by decide) ?_
    intro h₁ tk e W' keep he hW' F hz hfresh hin E'
    have rv : Rep W' h₁ v (codeD odd .e) := Rep.enter ra hin keep
    have sub : ∀ a ∈ W, a ∈ W' := hW' ▸ sub_of
    have k1 : e.kindOf "code" = some .local := by rw [he]; rfl
    have hu : (A.deeper e).units < cLine := by have := F.units; rw [cu_lt]; omega
    refine ex_if_ret (P := R W' (.list [])) (PT.cmp (P1 := R W' (.list [])) (PE.var F (v := v) rfl rv (.inl k1)) (F.stable _) (PE.list (ds := []) F PEs.nil (by simp)) (fun s' a b x p1 p2 => TE.eq_nil p1 p2 hu) (by rfl)) (PE.list (ds := []) F PEs.nil (by simp)) fun v2 h2 t2 x2 p2 => ?_
    exact ⟨h2, t2, [], v2, rfl, by simp, x2.toB, rfl, Rep.leave p2 sub⟩
  | .n f a g b, A, W, n, s, v, Z, hdp, C, ra => by
    have hdp' : dp (.n f a g b) = dp f + dp g + 2 := rfl
    refine te_call (n := n + dp f + dp g + 1) (binds := [("code", v)]) (C.less (by omega)) Z.G (fn_least Z) rfl rfl rfl rfl (BindsTo.of_eq (by rfl)) rfl rfl rfl rfl (show ([("code" : Str)]).Nodup by decide) (by rfl) (show ([("tail" : Str), "head"]).Nodup by decide) ?_
    intro h₁ tk e W' keep he hW' F hz hfresh hin E'
    have rv : Rep W' h₁ v (codeD odd (.n f a g b)) := Rep.enter ra hin keep
    have sub : ∀ a ∈ W, a ∈ W' := hW' ▸ sub_of
    have k1 : e.kindOf "code" = some .local := by rw [he]; rfl
    have k2 : e.kindOf "head" = some .cell := by rw [he]; rfl
    have k3 : e.kindOf "tail" = some .cell := by rw [he]; rfl
    have k4 : e.kindOf "agreed" = some .local := by rw [he]; rfl
    have k5 : e.kindOf "_law_least" = some .globalImplicit := by rw [he]; rfl
    have k6 : e.kindOf "range" = some .globalImplicit := by rw [he]; rfl
    have k7 : e.kindOf "min" = some .globalImplicit := by rw [he]; rfl
    have k8 : e.kindOf "len" = some .globalImplicit := by rw [he]; rfl
    have k9 : e.kindOf "max" = some .globalImplicit := by rw [he]; rfl
    have hs16 : sizeLine = 16777216 := by decide
    have hu : (A.deeper e).units < cLine := by have := F.units; rw [cu_lt]; omega
    have lf := least_le f
    have lg := least_le g
    have codeV : ∀ {hh : Heap} {mm : Vars} {p : Pos}, Fx base W' (n + dp f + dp g + 1) (A.deeper e) e hh mm → mm "code" = some v → Rep W' hh v (codeD odd (.n f a g b)) → PE (model prog w) (A.deeper e) e hh (.Name "code" p) (R W' (.list [codeD odd f, dW odd [a], codeD odd g, dW odd [b]])) := fun F' hm r => PE.var F' hm r (.inl k1)
    refine ex_if_not (PT.cmp (P1 := R W' (codeD odd (.n f a g b))) (PE.var F (v := v) rfl rv (.inl k1)) (F.stable _) (PE.list (ds := []) F PEs.nil (by simp)) (fun s' x y _ p1 p2 => ?_) (by rfl)) fun h2 t2 x2 => ?_
    · intro Q E k
      have := code_rc (odd := odd) (s := s') (W := W') (.n f a g b) .e (A.deeper e) x y (by have := F.units; rw [cu_lt]; omega) p1 p2 prog w E Q
      exact this (k _ s'.heap s'.toks (Ext.refl _ _) rfl)
    have F2 := F.ext x2
    have rv2 : Rep W' h2 v (codeD odd (.n f a g b)) := rv.ext F x2
    refine ex_let2 (d := dW odd (least f ++ [a])) F2 (PE.bin (pe_call1 F2 Z.G (gl_least Z) (fn_least Z) k5 (by decide) (pe_item (d := codeD odd f) F2 (codeV F2 rfl rv2) PE.int (by decide) (by decide) rfl (by intro _ _; exact ⟨_, by with_unfolding_all rfl⟩)) (fun s' v0 C' p => c_least f _ _ n s' v0 Z (by omega) (C'.less (by omega)) p) (by rfl)) (F2.stable _)
      (pe_item (d := dW odd [a]) F2 (codeV F2 rfl rv2) PE.int (by decide) (by decide) rfl (by intro _ _; exact ⟨_, by with_unfolding_all rfl⟩)) (fun s' x y xx p1 p2 => ?_)) (.inr k2) (fun vh h3 t3 rh3 ex3 F3 => ?_) (by rw [he]; rfl)
    · have := TE.add_list (prog := prog) (w := w) (A := A.deeper e) (F2.cx.ext xx).new p1 p2 (by simp; omega)
      rw [← List.map_append] at this; exact this
    have mv3 : Mut W' h2 h3 := ex3.mut F.blocksW F.zoneW
    have rv3 := rv2.mut mv3
    refine ex_let2 (d := dW odd (b :: (least g).reverse)) F3 (PE.bin (P2 := R W' (.list ((least g).map (nmD odd)).reverse)) (pe_item (d := dW odd [b]) F3 (codeV F3 rfl rv3) PE.int (by decide) (by decide) rfl (by intro _ _; exact ⟨_, by with_unfolding_all rfl⟩)) (F3.stable _)
      (pe_cut F3 (pe_call1 F3 Z.G (gl_least Z) (fn_least Z) k5 (by decide) (pe_item (d := codeD odd g) F3 (codeV F3 rfl rv3) PE.int (by decide) (by decide) rfl (by intro _ _; exact ⟨_, by with_unfolding_all rfl⟩)) (fun s' v0 C' p => c_least g _ _ n s' v0 Z (by omega) (C'.less (by omega)) p) (by rfl)) Part.none Part.none (Part.some (W := W') (pe_neg PE.int)) (fun s' x y hn p q => TE.cut_back hn p q (by simp; omega)) (by intro _ _; exact ⟨_, by with_unfolding_all rfl⟩)) (fun s' x y xx p1 p2 => ?_)) (.inr k3) (fun vt h4 t4 rt4 ex4 F4 => ?_) (by rw [he]; rfl)
    · have := TE.add_list (prog := prog) (w := w) (A := A.deeper e) (F3.cx.ext xx).new p1 p2 (by simp; omega)
      rw [← List.map_reverse, ← List.map_append] at this; exact this
    have mv4 : Mut W' h3 h4 := ex4.mut F.blocksW F.zoneW
    have rh4 := rh3.mut mv4
    have mh4 : (upd (upd (fun y => List.lookup y [(("code" : Str), v)]) "head" vh) "tail" vt) "head" = some vh := by simp only [upd]; rw [if_neg (by decide)]; simp
    have mt4 : (upd (upd (fun y => List.lookup y [(("code" : Str), v)]) "head" vh) "tail" vt) "tail" = some vt := by simp [upd]
    generalize hm4 : (upd (upd (fun y => List.lookup y [(("code" : Str), v)]) "head" vh) "tail" vt) = m4 at mh4 mt4 F4
    generalize hH : least f ++ [a] = H at rh4 rh3
    generalize hTl : b :: (least g).reverse = Tl at rt4
    have lenH : H.length ≤ 1001 := by rw [← hH]; simp; omega
    have lenT : Tl.length ≤ 1001 := by rw [← hTl]; simp; omega
    have pH : ∀ {p : Pos}, PE (model prog w) (A.deeper e) e h4 (.Name "head" p) (R W' (dW odd H)) := PE.var F4 mh4 rh4 (.inr (.inl k2))
    have pT : ∀ {p : Pos}, PE (model prog w) (A.deeper e) e h4 (.Name "tail" p) (R W' (dW odd Tl)) := PE.var F4 mt4 rt4 (.inr (.inl k3))
    let K : Nat := min H.length Tl.length + 1
    let test : Nat → Bool := fun i => decide (H.drop (H.length - i) = Tl.take i)
    let val : Nat → D := fun i => .int (i : Int)
    refine ex_comp (cl := [(("tail" : Str), s.heap.objs.size + 1 + 1), ("head", s.heap.objs.size + 1)]) (ds := rangeD 0 K) (out := ((List.range (rangeD 0 K).length).filter test).map val) F4 ?ok ?hi ?hb k4 ?k (by rw [he]; rfl) (by intro _; rfl)
    case ok =>
      refine CompOK.of rfl (by rw [he]; rfl) (fun p hp => ?_) (by rw [he]; rfl)
      rw [he]
      rcases List.mem_cons.mp hp with q | q
      · subst q; rfl
      · rw [List.mem_singleton.mp q]; rfl
    case hi =>
      have hK : (K : Int) = min (H.length : Int) (Tl.length : Int) + 1 := by
        show ((min H.length Tl.length + 1 : Nat) : Int) = _
        omega
      have pl1 : ∀ {p q : Pos}, PE (model prog w) (A.deeper e) e h4 (.Call (.Name "len" p) [.Name "head" q] [] ⟨60, 35, 60, 44⟩) (R W' (.int H.length)) := fun {p q} => by
        have := pe_len (x := "") (p := p) (pos := ⟨60, 35, 60, 44⟩) F4 Z.G k8 (pH (p := q)) (by rw [List.length_map]; omega) (by rfl)
        rw [List.length_map] at this; exact this
      have pl2 : ∀ {p q : Pos}, PE (model prog w) (A.deeper e) e h4 (.Call (.Name "len" p) [.Name "tail" q] [] ⟨60, 46, 60, 55⟩) (R W' (.int Tl.length)) := fun {p q} => by
        have := pe_len (x := "") (p := p) (pos := ⟨60, 46, 60, 55⟩) F4 Z.G k8 (pT (p := q)) (by rw [List.length_map]; omega) (by rfl)
        rw [List.length_map] at this; exact this
      refine PE.callT (id := "range") (Ps := [R W' (.int K)]) (PE.builtin F4 Z.G (by decide) (by decide +kernel) (fun _ => rfl) k6 (by decide)) (PEs.cons (PE.bin (P2 := R W' (.int 1)) (PE.callB (id := "min") (Ps := [R W' (.int H.length), R W' (.int Tl.length)]) (P := R W' (.int (min (H.length : Int) (Tl.length : Int)))) (PE.builtin F4 Z.G (by decide) (by decide +kernel) (fun _ => rfl) k7 (by decide)) (PEs.cons pl1 (F4.stable _) (PEs.cons pl2 (F4.stable _) PEs.nil (by rfl)) (by rfl)) (fun s' vs x p => ?_) (by rfl) (by rfl)) (F4.stable _) PE.int fun s' x y xx p1 p2 => ?_) (F4.stable _) PEs.nil (by rfl)) (fun s' vs x p => ?_) (by rfl) (by rfl)
      · match vs, p with
        | [x1, y1], p => exact TE.min2 F.handled p.1 p.2.1
      · rw [hK]; exact TE.add_int p1 p2
      · match vs, p with
        | [x1], p =>
          have := TE.range1 (prog := prog) (w := w) (A := A.deeper e) p.1 (by omega) (by show ((min H.length Tl.length + 1 : Nat) : Int) < 2 ^ 62; omega)
          rw [Int.toNat_natCast] at this; exact this
    case hb =>
      refine comp1_body test val (Ext.refl _ _) F4 (by rw [he]; rfl) ?_ (by rw [rangeD_length]; show min H.length Tl.length + 1 ≤ sizeLine; omega)
      intro W2 C2 h5 m5 i d v5 F5 J5 hd5 rd5 mv5
      obtain ⟨hi5, rfl⟩ := rangeD_get hd5
      generalize hce : compEnvC _ _ C2 e = ce at F5 ⊢
      have hi6 : i ≤ H.length ∧ i ≤ Tl.length := by have : i < min H.length Tl.length + 1 := hi5; omega
      have mh5 : (upd m5 "k" v5) "head" = some vh := by
        simp only [upd]; rw [if_neg (by decide)]
        refine (J5 "head" (by decide)).trans ?_
        show (if _ then _ else _) = _
        rw [if_neg (by decide)]; exact mh4
      have mt5 : (upd m5 "k" v5) "tail" = some vt := by
        simp only [upd]; rw [if_neg (by decide)]
        refine (J5 "tail" (by decide)).trans ?_
        show (if _ then _ else _) = _
        rw [if_neg (by decide)]; exact mt4
      have mk5 : (upd m5 "k" v5) "k" = some v5 := by simp [upd]
      have rh5 := mv5 _ _ rh4
      have rt5 := mv5 _ _ rt4
      have pk : ∀ {p : Pos}, PE (model prog w) (A.deeper e) ce h5 (.Name "k" p) (R W2 (.int (i : Int))) := fun {p} => by
        have := PE.var (prog := prog) (w := w) (pos := p) F5 mk5 rd5 (.inl (by rw [← hce, he]; rfl))
        rw [Int.zero_add] at this; exact this
      have kh : ce.kindOf "head" = some .cell := by rw [← hce, he]; rfl
      have kt : ce.kindOf "tail" = some .cell := by rw [← hce, he]; rfl
      have kl : ce.kindOf "len" = some .globalImplicit := by rw [← hce, he]; rfl
      have pH5 : ∀ {p : Pos}, PE (model prog w) (A.deeper e) ce h5 (.Name "head" p) (R W2 (dW odd H)) := PE.var F5 mh5 rh5 (.inr (.inl kh))
      have pT5 : ∀ {p : Pos}, PE (model prog w) (A.deeper e) ce h5 (.Name "tail" p) (R W2 (dW odd Tl)) := PE.var F5 mt5 rt5 (.inr (.inl kt))
      refine ⟨PT.cmp (P1 := R W2 (dW odd (H.drop (H.length - i)))) (P2 := R W2 (dW odd (Tl.take i))) (pe_cut (lo := some ((H.length - i : Nat) : Int)) (ds' := (H.drop (H.length - i)).map (nmD odd)) F5 pH5 (Part.some (W := W2) ?_) Part.none Part.none (fun s' x y hn p q => ?_) (by intro _ _; exact ⟨_, by with_unfolding_all rfl⟩)) (F5.stable _)
        (pe_cut (hi := some (i : Int)) (ds' := (Tl.take i).map (nmD odd)) F5 pT5 Part.none (Part.some (W := W2) pk) Part.none (fun s' x y hn p q => ?_) (by intro _ _; exact ⟨_, by with_unfolding_all rfl⟩)) (fun s' x y xx p1 p2 => TE.eq_words p1 p2 hu) (by rfl), fun _ => pk⟩
      · refine PE.bin (P1 := R W2 (.int H.length)) ?_ (F5.stable _) pk fun s' x y xx p1 p2 => ?_
        · have := pe_len (x := "") (p := ⟨60, 70, 60, 73⟩) (pos := ⟨60, 70, 60, 79⟩) F5 Z.G kl (pH5 (p := ⟨60, 74, 60, 78⟩)) (by rw [List.length_map]; omega) (by rfl)
          rw [List.length_map] at this; exact this
        · have := TE.sub_int (prog := prog) (w := w) (A := A.deeper e) p1 p2
          rw [show (H.length : Int) - (i : Int) = ((H.length - i : Nat) : Int) by omega] at this; exact this
      · have := TE.cut_from (prog := prog) (w := w) (A := A.deeper e) hn p q (by rw [List.length_map]; omega)
        rw [← List.map_drop] at this; exact this
      · have := TE.cut_upto (prog := prog) (w := w) (A := A.deeper e) hn p q (by rw [List.length_map]; omega)
        rw [← List.map_take] at this; exact this
    case k =>
      intro vg h5 t5 hnew5 rg5 ex5 F5
      have mv5 : Mut W' h4 h5 := ex5.mut F.blocksW F.zoneW
      have rh5 := rh4.mut mv5
      have rt5 := rt4.mut mv5
      have mh5 : (upd m4 "agreed" vg) "head" = some vh := by simp only [upd]; rw [if_neg (by decide)]; exact mh4
      have mt5 : (upd m4 "agreed" vg) "tail" = some vt := by simp only [upd]; rw [if_neg (by decide)]; exact mt4
      have mg5 : (upd m4 "agreed" vg) "agreed" = some vg := by simp [upd]
      rw [rangeD_length] at rg5
      have eag : ((List.range K).filter test).map val = (((List.range K).filter test).map fun k => ((k : Nat) : Int)).map D.int := by rw [List.map_map]; rfl
      have rg6 : Rep W' h5 vg (intsD (((List.range K).filter test).map fun k => ((k : Nat) : Int))) := by rw [eag] at rg5; exact rg5
      have hag : (List.range K).filter test = agreed H Tl := by
        show (List.range (min H.length Tl.length + 1)).filter _ = (List.range (min H.length Tl.length + 1)).filter _
        refine List.filter_congr fun k _ => ?_
        show decide (H.drop (H.length - k) = Tl.take k) = (H.drop (H.length - k) == Tl.take k)
        rw [Bool.eq_iff_iff, decide_eq_true_eq, beq_iff_eq]
      have hne : (((List.range K).filter test).map fun k => ((k : Nat) : Int)) ≠ [] := by
        have h0 : 0 ∈ (List.range K).filter test := List.mem_filter.mpr ⟨List.mem_range.mpr (Nat.succ_pos _), by show decide (H.drop (H.length - 0) = Tl.take 0) = true; simp⟩
        intro q
        have := List.mem_map_of_mem (f := fun k => ((k : Nat) : Int)) h0
        rw [q] at this; cases this
      have pmax : ∀ {p q r : Pos}, PE (model prog w) (A.deeper e) e h5 (.Call (.Name "max" p) [.Name "agreed" q] [] r) (R W' (.int ((maxOf (agreed H Tl) : Nat) : Int))) := fun {p q r} =>
        PE.callB (id := "max") (Ps := [R W' (intsD (((List.range K).filter test).map fun k => ((k : Nat) : Int)))]) (PE.builtin F5 Z.G (by decide) (by decide +kernel) (fun _ => rfl) k9 (by decide)) (PEs.cons (PE.var F5 mg5 rg6 (.inl k4)) (F5.stable _) PEs.nil (by rfl)) (fun s' vs x p => by
          match vs, p with
          | [x1], p =>
            refine (te_max F.handled p.1 hne).mono fun _ _ _ q => ?_
            obtain ⟨x, hx1, hx2, r⟩ := q
            rw [maxOf_ints hx1 hx2, hag] at r; exact r) (by rfl) (by rfl)
      refine ex_return (P := R W' (dW odd (H ++ Tl.drop (maxOf (agreed H Tl))))) (PE.bin (P2 := R W' (dW odd (Tl.drop (maxOf (agreed H Tl))))) (PE.var F5 mh5 rh5 (.inr (.inl k2))) (F5.stable _) (pe_cut (lo := some ((maxOf (agreed H Tl) : Nat) : Int)) (ds' := (Tl.drop (maxOf (agreed H Tl))).map (nmD odd)) F5 (PE.var F5 mt5 rt5 (.inr (.inl k3))) (Part.some (W := W') pmax) Part.none Part.none (fun s' x y hn p q => ?_) (by intro _ _; exact ⟨_, by with_unfolding_all rfl⟩)) fun s' x y xx p1 p2 => ?_) fun v2 h6 t6 x6 p6 => ?_
      · have := TE.cut_from (prog := prog) (w := w) (A := A.deeper e) hn p q (by rw [List.length_map]; omega)
        rw [← List.map_drop] at this; exact this
      · have := TE.add_list (prog := prog) (w := w) (A := A.deeper e) (F5.cx.ext xx).new p1 p2 (by rw [List.length_map, List.length_map, List.length_drop]; omega)
        rw [← List.map_append] at this; exact this
      · refine ⟨h6, t6, blocks e, v2, rfl, hfresh, (((x2.toB.trans ex3).trans ex4).trans ex5).trans x6.toB, rfl, ?_⟩
        have : least (.n f a g b) = H ++ Tl.drop (maxOf (agreed H Tl)) := by rw [← hH, ← hTl]; rfl
        rw [this]; exact Rep.leave p6 sub
end
end Mine
end

-- C7
noncomputable section
open PySem PySem.W PyProof.Rows PySem.SeqAt
namespace Mine
set_option maxRecDepth 100000
section
variable {prog : Program} {w : World} {base h h₁ : Heap} {W W' T0 : List Addr} {n : Nat} {A : Around} {env : Env} {m : Vars} {s : Shared} {E : Value → Shared → Prop} {odd : Bool} {mg mb : Vars}

theorem get_range (ds : List D) : (List.range ds.length).map (fun i => (ds[i]?).getD .none) = ds := by
  apply List.ext_getElem?
  intro i
  rw [List.getElem?_map]
  by_cases hi : i < ds.length
  · rw [List.getElem?_range hi, List.getElem?_eq_getElem hi]; simp [List.getElem?_eq_getElem hi]
  · rw [List.getElem?_eq_none (by simpa using hi), List.getElem?_eq_none (by simpa using hi)]; rfl
theorem cut_out (odd : Bool) (l : List L3) : ((List.range (splitD odd l).length).filter (fun _ => decide (l ≠ []))).map (fun i => ((splitD odd l)[i]?).getD .none) = l.map (nmD odd) := by
  cases l with
  | nil => rfl
  | cons x r =>
    have : ((List.range (splitD odd (x :: r)).length).filter (fun _ => decide ((x :: r) ≠ []))) = List.range (splitD odd (x :: r)).length := List.filter_eq_self.mpr (by simp)
    rw [this, get_range]; rfl
theorem split_len (odd : Bool) (l : List L3) : (splitD odd l).length ≤ l.length + 1 := by
  cases l with
  | nil => show 1 ≤ _; simp
  | cons x r => show ((x :: r).map (nmD odd)).length ≤ _; simp
theorem path_type {l : List L3} {v : Value} (ra : R W (pathD odd l) s.heap v) : s.TypeIs v (textT odd) ∧ ∀ a, v = .ref a → ∃ ob, s.heap.get? a = some ob ∧ ob.dict = none := by
  cases odd
  · cases ra with
    | str x t => exact ⟨typeIs_str _ _ _, fun a e => by cases e⟩
  · cases ra with
    | bytes x t => exact ⟨typeIs_bytes _ _ _, fun a e => by cases e⟩
theorem sep_type {v : Value} (ra : R W (sepD odd) s.heap v) : s.TypeIs v (textT odd) ∧ ∀ a, v = .ref a → ∃ ob, s.heap.get? a = some ob ∧ ob.dict = none := by
  cases odd
  · cases ra with
    | str x t => exact ⟨typeIs_str _ _ _, fun a e => by cases e⟩
  · cases ra with
    | bytes x t => exact ⟨typeIs_bytes _ _ _, fun a e => by cases e⟩
theorem text_attrs (odd : Bool) : PlainAttrs (textT odd) := by cases odd; exact F.plainAttrs_str; exact FB.plainAttrs_bytes
theorem text_split (odd : Bool) : Slot (textT odd) "split" (splitI odd) := by cases odd; exact F.slot_str_split; exact slot_bytes_split
theorem text_join (odd : Bool) : Slot (textT odd) "join" (joinId odd) := by cases odd; exact F.slot_str_join; exact slot_bytes_join
theorem text_split_ty (odd : Bool) : typeOf (.builtin (splitI odd)) = pure (.type "method_descriptor") := by cases odd; exact F.type_str_split; exact type_bytes_split
theorem text_join_ty (odd : Bool) : typeOf (.builtin (joinId odd)) = pure (.type "method_descriptor") := by cases odd; exact F.type_str_join; exact type_bytes_join
theorem text_item (odd : Bool) : ∃ id, typeLookup (.type (textT odd)) "__getitem__" = pure (some (.builtin id)) := by cases odd; exact ⟨_, F.slot_str_getitem.lookup⟩; exact ⟨_, FB.slot_bytes_getitem.lookup⟩

theorem c_cut {l : List L3} {v : Value} (Z : Env0 w base mg mb) (C : Cx base W (n + 2) A s.heap) (hl : l.length ≤ 100) (ra : R W (pathD odd l) s.heap v) : TE (model prog w) A s (call (.ref 62) [v]) (R W (dW odd l)) := by
  refine te_call (n := n + 1) (binds := [("path", v)]) C Z.G (fn_cut Z) rfl rfl rfl rfl (BindsTo.of_eq (by rfl)) rfl rfl rfl rfl (show ([("path" : Str)]).Nodup by decide) (by rfl) (show ([("path" : Str)]).Nodup by decide) ?_
  intro h₁ tk e W' keep he hW' F hz hfresh hin E'
  have rv : Rep W' h₁ v (pathD odd l) := Rep.enter ra hin keep
  have sub : ∀ a ∈ W, a ∈ W' := hW' ▸ sub_of
  have k1 : e.kindOf "path" = some .cell := by rw [he]; rfl
  have k2 : e.kindOf "_get_sep" = some .globalImplicit := by rw [he]; rfl
  have hs16 : sizeLine = 16777216 := by decide
  have hsl := split_len odd l
  obtain ⟨gid, hgi⟩ := text_item odd
  refine ex_return (P := R W' (dW odd l)) ?_ fun v2 h2 t2 x2 p2 => ⟨h2, t2, [], v2, rfl, by simp, x2.toB, rfl, Rep.leave p2 sub⟩
  show PE _ _ _ _ _ (R W' (.list (l.map (nmD odd))))
  rw [← cut_out odd l]
  refine PE.comp (cl := [(("path" : Str), s.heap.objs.size + 1)]) (ds := splitD odd l) F ?ok ?hi ?hb (by intro _; rfl)
  case ok =>
    refine CompOK.of rfl (by rw [he]; rfl) (fun p hp => ?_) (by rw [he]; rfl)
    rw [he]
    rw [List.mem_singleton.mp hp]; rfl
  case hi =>
    refine pe_mono (P := R W' (.list (splitD odd l))) ?_ fun _ _ p => .inl p
    refine PE.meth (T := textT odd) (id := splitI odd) (P0 := R W' (pathD odd l)) (Ps := [R W' (sepD odd)]) (by rfl) (by rfl) (by rfl) (text_attrs odd) (text_split odd) (text_split_ty odd) (PE.var F (v := v) rfl rv (.inr (.inl k1))) (F.stable _) (fun s' v' p => path_type p)
      (PEs.cons (pe_call1 F Z.G (gl_sep Z) (fn_sep Z) k2 (by decide) (PE.var F (v := v) rfl rv (.inr (.inl k1))) (fun s' v0 C' p => c_sep Z C' p) (by rfl)) (F.stable _) PEs.nil (by rfl)) (fun s' v' vs x p q => ?_) (by rfl) (by rfl)
    match vs, q with
    | [v1], q => exact te_split (F.cx.ext x).new p q.1 hl
  case hb =>
    intro s' hs'
    refine comp1_body (fun _ => decide (l ≠ [])) (fun i => ((splitD odd l)[i]?).getD .none) hs' F (by rw [he]; rfl) ?_ (by omega)
    intro W2 C2 h5 m5 i d v5 F5 J5 hd5 rd5 mv5
    generalize hce : compEnvC _ _ C2 e = ce at F5 ⊢
    have kn : ce.kindOf "name" = some .local := by rw [← hce, he]; rfl
    have kp : ce.kindOf "path" = some .cell := by rw [← hce, he]; rfl
    have mp5 : (upd m5 "name" v5) "path" = some v := by
      simp only [upd]; rw [if_neg (by decide)]
      exact J5 "path" (by decide)
    have mn5 : (upd m5 "name" v5) "name" = some v5 := by simp [upd]
    have rp5 := mv5 _ _ rv
    have pn : ∀ {p : Pos}, PE (model prog w) (A.deeper e) ce h5 (.Name "name" p) (R W2 d) := PE.var F5 mn5 rd5 (.inl kn)
    have pcut : ∀ {p q r t : Pos} {k : Nat}, PE (model prog w) (A.deeper e) ce h5 (.Subscript (.Name "path" p) (.Slice none (some (.Constant (.int 0) k q)) none r) t) (R W2 (emptyD odd)) := fun {p q r t k} =>
      PE.sub (PE.var F5 mp5 rp5 (.inr (.inl kp))) (F5.stable _) (PE.slice Part.none (Part.some (W := W2) PE.int) Part.none) hgi (fun s v p => (path_type p).1) (by intro _ _; exact ⟨_, by with_unfolding_all rfl⟩) fun s v i x p q => te_cut0 p q
    refine ⟨PT.cmp (P1 := R W2 d) pn (F5.stable _) pcut (fun s2 a b x p1 p2 => ?_) (by rfl), fun _ => ?_⟩
    · cases l with
      | nil =>
        have hi0 : i = 0 := by
          have : i < 1 := (List.getElem?_eq_some_iff.mp hd5).1
          omega
        subst hi0
        have : d = emptyD odd := (Option.some.inj hd5).symm
        subst this
        exact te_ne_empty p1 p2
      | cons x r =>
        have : ∃ k, d = nmD odd k := by
          have hd6 : ((x :: r).map (nmD odd))[i]? = some d := hd5
          rw [List.getElem?_map] at hd6
          cases q : (x :: r)[i]? with
          | none => rw [q] at hd6; cases hd6
          | some y => rw [q] at hd6; exact ⟨y, (Option.some.inj hd6).symm⟩
        obtain ⟨k, rfl⟩ := this
        exact te_ne_name p1 p2
    · show PE _ _ _ _ _ (R W2 (((splitD odd l)[i]?).getD .none))
      rw [hd5]; exact pn
end
end Mine
end

-- C8
noncomputable section
open PySem PySem.W PyProof.Rows PySem.SeqAt
namespace Mine
set_option maxRecDepth 100000
section
variable {prog : Program} {w : World} {base h h₁ : Heap} {W W' T0 : List Addr} {n : Nat} {A : Around} {env : Env} {m : Vars} {s : Shared} {E : Value → Shared → Prop} {odd : Bool} {mg mb : Vars}

/-- what lies outside a frame's own objects is written -/
theorem Fx.extB {T : List Addr} {h h' : Heap} (F : Fx base W n A env h m) (x : ExtB (zone A) T h h') (hT : ∀ a ∈ T, a ∉ W ∧ base.get? a = none) : Fx base W n A env h' m := by
  have kp : ∀ b ∈ W, ∀ o, h.get? b = some o → ∃ sl, h'.get? b = some { o with slots := sl } := fun b hb o e => let ⟨sl, e1, _⟩ := x b o (fun q => (hT b q).1 hb) e; ⟨sl, e1⟩
  obtain ⟨l, hfl, hfr⟩ := F.frames
  refine { F with frames := ⟨l, hfl, ?_⟩, stays := fun b o e => ?_, live := fun b hb => ?_, ns := ?_, cells := fun y hy => ?_ }
  · have hz : ∀ env' ∈ l, ∀ a, env'.frame = some a → a ∈ W := fun env' he a ha => F.zoneW a (by simp only [zone, hfl]; exact List.mem_filterMap.mpr ⟨env', he, ha⟩)
    clear hfl
    induction l with
    | nil => trivial
    | cons e' r ih =>
      obtain ⟨k1, ⟨L, o, hf, hn, hL, hd⟩, hr⟩ := hfr
      obtain ⟨sl, e2⟩ := kp L (hz e' (.head _) L hf) o hL
      exact ⟨k1, ⟨L, _, hf, hn, e2, hd⟩, ih hr fun env' he => hz env' (.tail _ he)⟩
  · exact x.keep (fun q => by rw [(hT b q).2] at e; cases e) (fun q => by rw [F.fresh b (F.zoneW b q)] at e; cases e) (F.stays b o e)
  · obtain ⟨o, q⟩ := F.live b hb
    obtain ⟨sl, e2⟩ := kp b hb o q
    exact ⟨_, e2⟩
  · obtain ⟨ml, hn, hm⟩ := F.ns
    obtain ⟨o, es, ep, ho, hd, r⟩ := hn
    obtain ⟨sl, e2⟩ := kp _ F.inW o ho
    exact ⟨ml, ⟨_, es, ep, e2, hd, r⟩, hm⟩
  · obtain ⟨c, hc, hw, o, ho, hd⟩ := F.cells y hy
    obtain ⟨sl, e2⟩ := kp c hw o ho
    exact ⟨c, hc, hw, _, e2, hd⟩

theorem assign2 {x y : Str} {px py tp : Pos} {kk : Nat} {t : Addr} {a b : Value} {Q : Unit → Shared → Prop} (F : Fx base W n A env s.heap m) (ht : s.heap.IsTuple t #[a, b]) (hx : env.kindOf x = some .local ∨ env.kindOf x = some .cell) (hy : env.kindOf y = some .local ∨ env.kindOf y = some .cell)
    (k : ∀ h2 tk, ExtB (zone A) (blocks env) s.heap h2 → Fx base W n A env h2 (upd (upd m x a) y b) → Q () { s with heap := h2, toks := tk }) :
    wpAny (model prog w) A (assign (.Tuple [.Name x px, .Name y py] kk tp) env (.ref t)) Q E s := by
  refine wpAny_assign_Tuple F.handled ht rfl rfl fun h1 he1 => ?_
  have x1 : Ext (zone A) s.heap h1 := Ext.of_stays fun c o e => he1 c o (Nat.ne_of_lt (Heap.lt_size e)) e
  show wpAny _ _ (assignInOrder [assign (.Name x px) env, assign (.Name y py) env] [a, b]) _ _ _
  refine assignInOrder_cons ?_
  refine assign_Name (Fx.store (s := { s with heap := h1 }) (F.ext x1) hx fun h2 t2 c2 hs2 hc2 F2 => ?_)
  refine assignInOrder_cons ?_
  refine assign_Name (Fx.store (s := { s with heap := h2, toks := t2 }) F2 hy fun h3 t3 c3 hs3 hc3 F3 => ?_)
  refine assignInOrder_nil ?_
  exact k h3 t3 ((x1.toB.trans (ExtB.of_mut (Mut.of_same hs2 hc2))).trans (ExtB.of_mut (Mut.of_same hs3 hc3))) F3

theorem acc_into {L N : Addr} {T : List Addr} {ds : List D} {h h2 : Heap} (a : AccL W h L ds) (hN : h.get? N = none) (x : ExtB (zone A) T h h2) (hT : ∀ a ∈ T, a ∈ W) (hz : ∀ a ∈ zone A, a ∈ W) (hLT : L ∉ T) (hLz : L ∉ zone A) : AccL (N :: W) h2 L ds := by
  obtain ⟨vs, pl, rs⟩ := a
  refine ⟨vs, pl.at fun o e => x.keep hLT hLz e, ?_⟩
  exact Reps.mut (x.mut (fun a q => .tail _ (hT a q)) (fun a q => .tail _ (hz a q))) (Reps.anti (fun a q => (List.mem_cons.mp q).elim (fun q => .inr (q ▸ hN)) .inl) rs)
theorem acc_out {L N : Addr} {ds : List D} (a : AccL (N :: W) h L ds) : AccL W h L ds := let ⟨vs, pl, rs⟩ := a; ⟨vs, pl, rs.out⟩
theorem acc_extB {L : Addr} {T : List Addr} {ds : List D} {h h2 : Heap} (a : AccL W h L ds) (x : ExtB (zone A) T h h2) (hT : ∀ a ∈ T, a ∈ W) (hz : ∀ a ∈ zone A, a ∈ W) (hLT : L ∉ T) (hLz : L ∉ zone A) : AccL W h2 L ds := by
  obtain ⟨vs, pl, rs⟩ := a
  exact ⟨vs, pl.at fun o e => x.keep hLT hLz e, Reps.mut (x.mut hT hz) rs⟩
theorem N0.stable {h0 : Heap} {P : P3} (st : Stable A P) : Stable A (N0 h0 P) := fun h h' v x p => ⟨p.1, st h h' v x p.2⟩
theorem acc_of_row {N : Addr} {l : List L3} {W2 : List Addr} (r : Rep W h (.ref N) (dW odd l)) : AccL W2 h N (l.map (nmD odd)) := by
  cases r with
  | list ha pl rs => exact ⟨_, pl, rs.names⟩
theorem row_of_acc {N : Addr} {l : List L3} {W2 : List Addr} (a : AccL W2 h N (l.map (nmD odd))) (hN : N ∉ W) : Rep W h (.ref N) (dW odd l) := by
  obtain ⟨vs, pl, rs⟩ := a
  exact .list hN pl rs.names
theorem row_own {N : Addr} {l : List L3} {v : Value} (r : Rep W h v (dW odd l)) (hv : v ≠ .ref N) : Rep (N :: W) h v (dW odd l) := by
  cases r with
  | list ha pl rs => exact .list (fun q => (List.mem_cons.mp q).elim (fun q => hv (q ▸ rfl)) ha) pl rs.names

theorem on_call {x : Str} {np pos : Pos} {e : Expr} {es : List Expr} {f : Addr} {fd : FuncData} {Ps : List P3} {Q : Value → Shared → Prop} (F : Fx base W n A env s.heap m) (G : Glo base mg mb) (hx : mg x = some (.ref f)) (hf : FnAt base f fd)
    (hk : env.kindOf x = some .globalImplicit) (hd : plainName x = true) (ha : PEs (model prog w) A env s.heap pos (e :: es) Ps)
    (k : ∀ vs h1 t1, Ext (zone A) s.heap h1 → AllP Ps h1 vs → wpAny (model prog w) A (call (.ref f) vs) Q E { s with heap := h1, toks := t1 })
    (he : starEach (e :: es) env = (false, eval e env) :: starEach es env := by rfl) : wpAny (model prog w) A (eval (.Call (.Name x np) (e :: es) [] pos) env) Q E s := by
  obtain ⟨o, hfo, hfd⟩ := hf.obj
  have hg : PE (model prog w) A env s.heap (.Name x np) (V (.ref f)) := PE.global F G hx (fun _ => rfl) hk hd
  refine wpAny_Call_ofName (hg s (Ext.refl _ _) _ _ fun f' h1 t1 x1 p1 => ?_)
  cases p1
  show wpAny _ _ (callWith pos (.ref f) [] (backTo pos (starEach (e :: es) env)) []) _ _ _
  have ha' := ha { s with heap := h1, toks := t1 } x1 (fun vs s₁ => (s₁.heap.get? f = some o ∧ o.data = .func fd) ∧ wpAny (model prog w) A (call (.ref f) ([] ++ vs)) Q E s₁) E fun vs h2 t2 x2 p2 =>
    ⟨⟨(F.ext (x1.trans x2)).stays _ _ hfo, hfd⟩, k vs h2 t2 (x1.trans x2) p2⟩
  rw [he] at ha' ⊢
  exact Calls.callWith_function (Calls.evalArgs_plain ha')

theorem all1 {P : P3} {h : Heap} {vs : List Value} (p : AllP [P] h vs) : ∃ v, vs = [v] ∧ P h v := by
  match vs, p with
  | [v], p => exact ⟨v, rfl, p.1⟩
theorem te_keys1 {f : List L3} {vs : List Value} {h : Heap} (F : Fx base W n A env h m) (x : Ext (zone A) h s.heap) (p : AllP [RK prog w W odd f] s.heap vs) : TE (model prog w) A s (call (.type "list") vs) (N0 h (R W (dW odd (dedup f)))) := by
  obtain ⟨v0, rfl, q⟩ := all1 p
  exact (te_list_keys_new F.handled (F.cx.ext x).new q).mono fun _ _ _ q => ⟨let ⟨L, e1, e2⟩ := q.1; ⟨L, e1, x.none e2⟩, q.2⟩

/-- lacking, others = unorderable_list_difference(names, list(_deduplicate(front))) -/
theorem ex_uld {rest : List Stmt} {N : Addr} {f : List L3} {a : L3} {vf : Value} {p1 p2 p3 p4 p5 p6 p7 p8 p9 p10 p11 p12 : Pos} {Q : Flow → Shared → Prop} (Z : Env0 w base mg mb) (F : Fx base W (n + 1) A env s.heap m)
    (hN : N ∉ W) (hNb : base.get? N = none) (rN : Rep W s.heap (.ref N) (dW odd (dedup f ++ [a]))) (ha : a ∉ f) (mN : m "names" = some (.ref N)) (mf : m "front" = some vf) (rf : Rep W s.heap vf (dW odd f))
    (k1 : env.kindOf "names" = some .local) (k2 : env.kindOf "front" = some .local) (k3 : env.kindOf "lacking" = some .local) (k4 : env.kindOf "others" = some .local) (k5 : env.kindOf "unorderable_list_difference" = some .globalImplicit) (k6 : env.kindOf "list" = some .globalImplicit) (k7 : env.kindOf "_deduplicate" = some .globalImplicit)
    (k : ∀ M O h2 tk, Rep W h2 (.ref M) (dW odd [a]) → Rep W h2 (.ref O) (dW odd []) → Rep W h2 vf (dW odd f) → ExtB (zone A) (N :: blocks env) s.heap h2 → Fx base W (n + 1) A env h2 (upd (upd m "lacking" (.ref M)) "others" (.ref O)) → wpAny (model prog w) A (execs rest env) Q E { s with heap := h2, toks := tk })
    (hs : swapsWithSole [.Tuple [.Name "lacking" p1, .Name "others" p2] 0 p3] (.Call (.Name "unorderable_list_difference" p4) [.Name "names" p5, .Call (.Name "list" p6) [.Call (.Name "_deduplicate" p7) [.Name "front" p8] [] p9] [] p10] [] p11) p12.line env = pure false) :
    wpAny (model prog w) A (execs (.Assign [.Tuple [.Name "lacking" p1, .Name "others" p2] 0 p3] (.Call (.Name "unorderable_list_difference" p4) [.Name "names" p5, .Call (.Name "list" p6) [.Call (.Name "_deduplicate" p7) [.Name "front" p8] [] p9] [] p10] [] p11) p12 :: rest) env) Q E s := by
  have hNz : N ∉ zone A := fun q => hN (F.zoneW N q)
  obtain ⟨oN, eN⟩ : ∃ o, s.heap.get? N = some o := by
    cases rN with
    | list _ pl _ => obtain ⟨_, e1⟩ := pl; exact ⟨_, e1⟩
  have hvf : vf ≠ .ref N := fun q => by
    rw [q] at rf
    have := Rep.fn rf rN
    have h2 : f.map (nmD odd) = (dedup f ++ [a]).map (nmD odd) := by injection this
    have h3 : f = dedup f ++ [a] := (List.map_inj_right (fun _ _ e => nmD_inj e)).mp h2
    exact ha (h3 ▸ List.mem_append_right _ (.head _))
  refine wpAny_execs_cons (Assign_Tuple ?_ hs (by rfl))
  refine on_call (Ps := [V (.ref N), N0 s.heap (R W (dW odd (dedup f)))]) F Z.G (gl_uld Z) (fn_uld Z) k5 (by decide)
    (PEs.cons (PE.name F mN (fun _ _ => rfl) (.inl k1) (by decide)) (Stable.val _) (PEs.cons (PE.callT (id := "list") (Ps := [RK prog w W odd f]) (PE.builtin F Z.G (by decide) (by decide +kernel) (fun _ => rfl) k6 (by decide))
      (PEs.cons (pe_call1 F Z.G (gl_dedup Z) (fn_dedup Z) k7 (by decide) (PE.var F mf rf (.inl k2)) (fun s' v0 C' p => c_dedup Z C' p) (by rfl)) (RK.stable F.zoneW) PEs.nil (by rfl)) (fun s' vs x p => ?_) (by rfl) (by rfl)) (N0.stable (F.stable _)) PEs.nil (by rfl)) (by rfl)) (fun vs h1 t1 x1 q => ?_) (by rfl)
  · exact te_keys1 F x p
  match vs, q with
  | [v1, v2], q =>
  obtain ⟨q1, ⟨⟨O, rfl, hOn⟩, rO⟩, _⟩ := q
  cases q1
  have hNO : N ≠ O := fun q => by rw [q, hOn] at eN; cases eN
  have hOW : O ∉ W := F.notW hOn
  have hOz : O ∉ zone A := fun q => hOW (F.zoneW O q)
  have hOb : base.get? O = none := F.none_of hOn
  have F1 := F.ext x1
  have lN : ∃ o, h1.get? N = some o := x1.live ⟨oN, eN⟩
  have lO : ∃ o, h1.get? O = some o := by
    cases rO with
    | list _ pl _ => obtain ⟨_, e1⟩ := pl; exact ⟨_, e1⟩
  have F1N := F1.own hNb lN
  have F1O := F1N.own hOb lO
  refine c_uld (l' := dedup f) (a := a) (odd := odd) (s := { s with heap := h1, toks := t1 }) Z F1O.cx (nodup_dedup f) (fun q => ha ((mem_dedup f a).mp q)) (by have := dedup_len f; omega) (.tail _ (.head _)) (.head _) hNO hNz hOz
    (acc_of_row (rN.ext F x1)) (acc_of_row rO) fun v h2 t2 ex2 post => ?_
  obtain ⟨t, M, rfl, ht, htn, hMn, aM, aO⟩ := post
  have ex2' : ExtB (zone A) [N] s.heap h2 := (x1.toB.trans ex2).drop fun a q => by
    rcases List.mem_cons.mp q with q | q
    · exact .inl (q ▸ .head _)
    · rw [List.mem_singleton.mp q]; exact .inr hOn
  have F2 : Fx base W (n + 1) A env h2 m := F1.extB ex2 fun a q => by
    rcases List.mem_cons.mp q with q | q
    · rw [q]; exact ⟨hN, hNb⟩
    · rw [List.mem_singleton.mp q]; exact ⟨hOW, hOb⟩
  have hMW : M ∉ W := F1.notW hMn
  have rM2 : Rep W h2 (.ref M) (dW odd [a]) := row_of_acc aM hMW
  have rO2 : Rep W h2 (.ref O) (dW odd []) := row_of_acc (l := []) aO hOW
  have rf2 : Rep W h2 vf (dW odd f) := Rep.out (L := N) (Rep.mut (ex2'.mut (fun a q => by rw [List.mem_singleton.mp q]; exact .head _) (fun a q => .tail _ (F.zoneW a q))) (row_own rf hvf))
  refine assign2 (s := { s with heap := h2, toks := t2 }) F2 ht (.inl k3) (.inl k4) fun h3 t3 ex3 F3 => ?_
  have mv : Mut W h2 h3 := ex3.mut F2.blocksW F2.zoneW
  exact k M O h3 t3 (rM2.mut mv) (rO2.mut mv) (rf2.mut mv) ((ex2'.mono fun a q => by rw [List.mem_singleton.mp q]; exact .head _).trans (ex3.mono fun a q => .tail _ q)) F3
end
end Mine
end

-- C9
noncomputable section
open PySem PySem.W PyProof.Rows PySem.SeqAt
namespace Mine
set_option maxRecDepth 100000

/-- the ways through a word, and what is noted of them -/
def waysD (odd : Bool) (l : List L3) : List D := if l = [] then [] else [dW odd l, dW odd l.reverse]
def outD (odd : Bool) (l : List L3) : List D := match code l with
  | .e => []
  | .n f a g b => [codeD odd f, dW odd [a], codeD odd g, dW odd [b]]
theorem codeD_out (odd : Bool) (l : List L3) : codeD odd (code l) = .list (outD odd l) := by
  unfold outD
  cases code l <;> rfl
theorem out_ways (odd : Bool) (l : List L3) : (outD odd l).take (2 * (waysD odd l).length) = outD odd l := by
  rcases code_cases l with rfl | ⟨f, a, g, b, d, d', e⟩
  · simp [outD, code_nil]
  · have hl : l ≠ [] := by obtain ⟨r, q, _⟩ := d; rw [q]; simp
    simp [outD, e, waysD, hl]
theorem code_turn {odd : Bool} {l : List L3} {i : Nat} {d : D} (h : (waysD odd l)[i]? = some d) :
    ∃ wy f a, d = dW odd wy ∧ Dec wy f a ∧ f.length < l.length ∧ wy.length = l.length ∧ (outD odd l).take (2 * (i + 1)) = ((outD odd l).take (2 * i) ++ [codeD odd (code f)]) ++ [dW odd [a]] := by
  rcases code_cases l with rfl | ⟨f, a, g, b, dd, dd', e⟩
  · simp [waysD] at h
  · have hl : l ≠ [] := by obtain ⟨r, q, _⟩ := dd; rw [q]; simp
    simp only [waysD, if_neg hl] at h
    match i, h with
    | 0, h =>
      simp at h
      exact ⟨l, f, a, h.symm, dd, dec_lt dd, rfl, by simp [outD, e]⟩
    | 1, h =>
      simp at h
      refine ⟨l.reverse, g, b, h.symm, dd', ?_, by simp, by simp [outD, e]⟩
      have := dec_lt dd'; simpa using this
    | i + 2, h => simp at h

section
variable {prog : Program} {w : World} {base h h₁ : Heap} {W W' T0 : List Addr} {n : Nat} {A : Around} {env : Env} {m : Vars} {s : Shared} {E : Value → Shared → Prop} {odd : Bool} {mg mb : Vars}

set_option maxHeartbeats 1000000 in
theorem c_code : ∀ (k : Nat) (l : List L3) (A : Around) (W : List Addr) (n : Nat) (s : Shared) (v : Value), l.length < k → l.length ≤ 100 → Env0 w base mg mb → Cx base W (n + l.length + 3) A s.heap → R W (dW odd l) s.heap v → TE (model prog w) A s (call (.ref 69) [v]) (R W (codeD odd (code l))) := by
  intro k
  induction k with
  | zero => intro l A W n s v hk; omega
  | succ k ih =>
    intro l A W n s v hk hl Z C ra
    refine te_call (n := n + l.length + 2) (binds := [("word", v)]) C Z.G (fn_code Z) rfl rfl rfl rfl (BindsTo.of_eq (by rfl)) rfl rfl rfl rfl (show ([("word" : Str)]).Nodup by decide) (by rfl) (show ([] : List Str).Nodup from List.nodup_nil) ?_
    intro h₁ tk e W' keep he hW' F hz hfresh hin E'
    have rv : Rep W' h₁ v (dW odd l) := Rep.enter ra hin keep
    have sub : ∀ a ∈ W, a ∈ W' := hW' ▸ sub_of
    have k1 : e.kindOf "word" = some .local := by rw [he]; rfl
    have k2 : e.kindOf "code" = some .local := by rw [he]; rfl
    have k3 : e.kindOf "way" = some .local := by rw [he]; rfl
    have k4 : e.kindOf "names" = some .local := by rw [he]; rfl
    have k5 : e.kindOf "front" = some .local := by rw [he]; rfl
    have k6 : e.kindOf "lacking" = some .local := by rw [he]; rfl
    have k7 : e.kindOf "others" = some .local := by rw [he]; rfl
    have k8 : e.kindOf "list" = some .globalImplicit := by rw [he]; rfl
    have k9 : e.kindOf "_deduplicate" = some .globalImplicit := by rw [he]; rfl
    have k10 : e.kindOf "unorderable_list_difference" = some .globalImplicit := by rw [he]; rfl
    have k11 : e.kindOf "_law_code" = some .globalImplicit := by rw [he]; rfl
    have hs16 : sizeLine = 16777216 := by decide
    have hu : (A.deeper e).units < cLine := by have := F.units; rw [cu_lt]; omega
    have hlenO : (outD odd l).length ≤ 4 := by unfold outD; cases code l <;> simp
    refine ex_own F (ds := []) (pe_list_new F PEs.nil (by simp)) (.inl k2) (fun L vs h2 tk2 hL hLW pl rs ex2 F2 F2o => ?_) (by rw [he]; rfl)
    cases rs
    have hLs : s.heap.get? L = none := by
      cases q : s.heap.get? L with
      | none => rfl
      | some o => have := keep _ _ q; rw [hL] at this; cases this
    have hLb : L ∉ blocks e := fun q => hLW (F.blocksW L q)
    have hLz : L ∉ zone (A.deeper e) := fun q => hLW (F.zoneW L q)
    have rv2 : Rep (L :: W') h2 v (dW odd l) := Rep.into rv hL (ex2.mut (fun a ha => .tail _ (F.blocksW a ha)) (fun a ha => .tail _ (F.zoneW a ha)))
    have pw : ∀ {p : Pos}, PE (model prog w) (A.deeper e) e h2 (.Name "word" p) (R (L :: W') (dW odd l)) := PE.var F2o (v := v) rfl rv2 (.inl k1)
    refine ex_for2 (W := L :: W') (T := L :: blocks e) (waysD odd l) (fun i h m => m "code" = some (.ref L) ∧ AccL (L :: W') h L ((outD odd l).take (2 * i))) (fun _ _ => False) F2o (fun a ha => .tail _ ha)
      (fun a ha => (List.mem_cons.mp ha).elim (fun q => q ▸ .head _) fun q => .tail _ (F.blocksW a q)) (pe_mono (P := R (L :: W') (.list (waysD odd l))) ?_ fun _ _ p => .inl p) (.inl k3) (fun h' x => ⟨rfl, [], ?_, .nil⟩) ?_ ?_ (fun _ _ _ q => q.elim) (by rw [he]; intro _; rfl)
    · refine PE.ifexp (c := !decide ((l.map (nmD odd)).length = 0)) (PT.cmp (P1 := R (L :: W') (dW odd l)) pw (F2o.stable _) (PE.list (ds := []) F2o PEs.nil (by simp)) (fun s' a b x p1 p2 => TE.ne_nil p1 p2 hu) (by rfl)) (fun hc => ?_) (fun hc => ?_)
      · have hne : l ≠ [] := by rintro rfl; simp at hc
        have e1 : waysD odd l = [dW odd l, dW odd l.reverse] := by rw [waysD, if_neg hne]
        rw [e1]
        refine PE.list (ds := [dW odd l, dW odd l.reverse]) F2o (PEs.cons pw (F2o.stable _) (PEs.cons ?_ (F2o.stable _) PEs.nil (by rfl)) (by rfl)) (by simp; omega)
        show PE _ _ _ _ _ (R (L :: W') (.list (l.reverse.map (nmD odd))))
        rw [List.map_reverse]
        exact pe_cut F2o pw Part.none Part.none (Part.some (W := L :: W') (pe_neg PE.int)) (fun s' x y hn p q => TE.cut_back hn p q (by simp; omega)) (by intro _ _; exact ⟨_, by with_unfolding_all rfl⟩)
      · have hne : l = [] := by
          cases l with
          | nil => rfl
          | cons _ _ => simp at hc
        have e1 : waysD odd l = [] := by rw [waysD, if_pos hne]
        rw [e1]
        exact PE.list (ds := []) F2o PEs.nil (by simp)
    · exact pl.at fun o e1 => x.keep hLz e1
    · rintro i d vt h3 m3 h4 tk4 hd ⟨hm3, acc3⟩ md ex4 F4 rt E2
      obtain ⟨wy, f, a, rfl, dec, hfl, hwl, hout⟩ := code_turn hd
      have acc4 := acc3.mutD md (fun a ha => .tail _ (F.blocksW a ha)) hLb
      have hdw : dedup wy = dedup f ++ [a] := dedup_dec dec
      obtain ⟨r, hwy, hax, hr⟩ := id dec
      have hmc : (upd m3 "way" vt) "code" = some (.ref L) := by simp only [upd]; rw [if_neg (by decide)]; exact hm3
      have hmw : (upd m3 "way" vt) "way" = some vt := by simp [upd]
      generalize (upd m3 "way" vt) = m4 at F4 hmc hmw
      -- names
      refine ex_own F4 (ds := (dedup wy).map (nmD odd)) (PE.callT (id := "list") (Ps := [RK prog w (L :: W') odd wy]) (PE.builtin F4 Z.G (by decide) (by decide +kernel) (fun _ => rfl) k8 (by decide))
        (PEs.cons (pe_call1 F4 Z.G (gl_dedup Z) (fn_dedup Z) k9 (by decide) (PE.var F4 hmw rt (.inl k3)) (fun s' v0 C' p => c_dedup (n := n + l.length + 1) Z C' p) (by rw [he]; rfl)) (RK.stable F4.zoneW) PEs.nil (by rw [he]; rfl)) (fun s' vs x p => ?_) (by rw [he]; rfl) (by rw [he]; rfl)) (.inl k4) (fun N vs h5 tk5 hN hNW plN rN ex5 F5 F5o => ?_) (by rw [he]; rfl)
      · exact te_keys1 F4 x p
      have hNL : L ≠ N := fun q => hNW (q ▸ .head _)
      have hNb : N ∉ blocks e := fun q => hNW (F4.blocksW N q)
      have hNz : N ∉ zone (A.deeper e) := fun q => hNW (F4.zoneW N q)
      have hNbase : base.get? N = none := F4.none_of hN
      have acc5 : AccL (N :: L :: W') h5 L ((outD odd l).take (2 * i)) := acc_into acc4 hN ex5 F4.blocksW F4.zoneW hLb hLz
      have rt5 : Rep (L :: W') h5 vt (dW odd wy) := rt.mut (ex5.mut F4.blocksW F4.zoneW)
      have rN5 : Rep (L :: W') h5 (.ref N) (dW odd (dedup f ++ [a])) := by rw [← hdw]; exact .list hNW plN rN
      have hmc5 : (upd m4 "names" (.ref N)) "code" = some (.ref L) := by simp only [upd]; rw [if_neg (by decide)]; exact hmc
      have hmw5 : (upd m4 "names" (.ref N)) "way" = some vt := by simp only [upd]; rw [if_neg (by decide)]; exact hmw
      have hmn5 : (upd m4 "names" (.ref N)) "names" = some (.ref N) := by simp [upd]
      generalize (upd m4 "names" (.ref N)) = m5 at F5 hmc5 hmw5 hmn5
      -- front
      refine ex_let2 (d := dW odd f) F5 ?_ (.inl k5) (fun vf h6 tk6 rf6 ex6 F6 => ?_) (by rw [he]; rfl)
      · have e1 : f.map (nmD odd) = (wy.map (nmD odd)).take f.length := by rw [hwy]; simp
        show PE _ _ _ _ _ (R (L :: W') (.list (f.map (nmD odd))))
        rw [e1]
        refine pe_cut (hi := some ((f.length : Nat) : Int)) F5 (PE.var F5 hmw5 rt5 (.inl k3)) Part.none (Part.some (W := L :: W') ?_) Part.none (fun s' x y hn p q => TE.cut_upto hn p q (by simp; omega)) (by intro _ _; exact ⟨_, by with_unfolding_all rfl⟩)
        refine PE.meth (T := "list") (id := "list.index") (P0 := R (L :: W') (dW odd wy)) (Ps := [R (L :: W') (nmD odd a)]) (by rfl) (by rw [he]; rfl) (by rfl) PySem.F.plainAttrs_list PySem.F.slot_list_index PySem.F.type_list_index (PE.var F5 hmw5 rt5 (.inl k3)) (F5.stable _) (fun s' v' p => ⟨R.typeList p, R.noDict p⟩)
          (PEs.cons ?_ (F5.stable _) PEs.nil (by rw [he]; rfl)) (fun s' v' vs x p q => ?_) (by rw [he]; rfl) (by rw [he]; rfl)
        · refine PE.sub (P0 := R (L :: W') (dW odd (dedup f ++ [a]))) (P1 := R (L :: W') (.int (-1))) (PE.var F5 hmn5 rN5 (.inl k4)) (F5.stable _) (pe_neg PE.int) PySem.F.slot_list_getitem.lookup (fun s v p => R.typeList p) (by intro _ _; exact ⟨_, by with_unfolding_all rfl⟩) fun s v j x p q => TE.getLast p q ?_
          simp
        · obtain ⟨v1, rfl, q1⟩ := all1 q
          have := TE.index (prog := prog) (w := w) (A := A.deeper e) p q1 (by rw [hwy]; simp) (by omega)
          rw [idxOf_dec dec] at this; exact this
      have rN6 : Rep (L :: W') h6 (.ref N) (dW odd (dedup f ++ [a])) := rN5.mut (ex6.mut F4.blocksW F4.zoneW)
      have acc6 : AccL (N :: L :: W') h6 L ((outD odd l).take (2 * i)) := acc_extB acc5 ex6 (fun a ha => .tail _ (F4.blocksW a ha)) (fun a ha => .tail _ (F4.zoneW a ha)) hLb hLz
      have hmc6 : (upd m5 "front" vf) "code" = some (.ref L) := by simp only [upd]; rw [if_neg (by decide)]; exact hmc5
      have hmn6 : (upd m5 "front" vf) "names" = some (.ref N) := by simp only [upd]; rw [if_neg (by decide)]; exact hmn5
      have hmf6 : (upd m5 "front" vf) "front" = some vf := by simp [upd]
      generalize (upd m5 "front" vf) = m6 at F6 hmc6 hmn6 hmf6
      -- lacking, others
      refine ex_uld (n := n + l.length + 1) (f := f) (a := a) (odd := odd) Z F6 hNW hNbase rN6 hax hmn6 hmf6 rf6 k4 k5 k6 k7 k10 k8 k9 (fun M O h7 tk7 rM7 rO7 rf7 ex7 F7 => ?_) (by rw [he]; rfl)
      have acc7 : AccL (L :: W') h7 L ((outD odd l).take (2 * i)) := acc_out (acc_extB acc6 ex7 (fun a ha => (List.mem_cons.mp ha).elim (fun q => q ▸ .head _) fun q => .tail _ (F4.blocksW a q)) (fun a ha => .tail _ (F4.zoneW a ha)) (fun q => (List.mem_cons.mp q).elim hNL hLb) hLz)
      have hmc7 : (upd (upd m6 "lacking" (.ref M)) "others" (.ref O)) "code" = some (.ref L) := by simp only [upd]; rw [if_neg (by decide), if_neg (by decide)]; exact hmc6
      have hmf7 : (upd (upd m6 "lacking" (.ref M)) "others" (.ref O)) "front" = some vf := by simp only [upd]; rw [if_neg (by decide), if_neg (by decide)]; exact hmf6
      have hml7 : (upd (upd m6 "lacking" (.ref M)) "others" (.ref O)) "lacking" = some (.ref M) := by simp only [upd]; rw [if_neg (by decide)]; simp
      have hmo7 : (upd (upd m6 "lacking" (.ref M)) "others" (.ref O)) "others" = some (.ref O) := by simp [upd]
      generalize (upd (upd m6 "lacking" (.ref M)) "others" (.ref O)) = m7 at F7 hmc7 hmf7 hml7 hmo7
      have pc : ∀ {hh : Heap} {p : Pos}, Fx base (L :: W') (n + l.length + 2) (A.deeper e) e hh m7 → PE (model prog w) (A.deeper e) e hh (.Name "code" p) (V (.ref L)) := fun F' => PE.name F' hmc7 (fun _ _ => rfl) (.inl k2) (by decide)
      have htake : ((outD odd l).take (2 * i)).length ≤ 4 := by rw [List.length_take]; omega
      -- code.append(_law_code(front))
      refine ex_append (L := L) (d := codeD odd (code f)) F7 (pc F7) (.head _) hLb hLz acc7 (pe_call1 F7 Z.G (gl_code Z) (fn_code Z) k11 (by decide) (PE.var F7 hmf7 rf7 (.inl k5)) (fun s' v0 C' p => ih f _ _ (n + (l.length - f.length - 1)) s' v0 (by omega) (by omega) Z (C'.less (by omega)) p) (by rw [he]; rfl)) (by omega) (fun h8 tk8 ex8 acc8 F8 => ?_) (by rfl) (by rw [he]; rfl) (by rfl) (by rw [he]; rfl) (by rw [he]; rfl) (by rw [he]; rfl)
      have rM8 : Rep (L :: W') h8 (.ref M) (dW odd [a]) := rM7.mut (ex8.mut (fun a ha => by rw [List.mem_singleton.mp ha]; exact .head _) F7.zoneW)
      have rO8 : Rep (L :: W') h8 (.ref O) (dW odd []) := rO7.mut (ex8.mut (fun a ha => by rw [List.mem_singleton.mp ha]; exact .head _) F7.zoneW)
      -- code.append(lacking if others == [] else [])
      refine ex_append (L := L) (d := dW odd [a]) F8 (pc F8) (.head _) hLb hLz acc8 (PE.ifexp (c := true) (PT.cmp (P1 := R (L :: W') (.list [])) (PE.var F8 hmo7 rO8 (.inl k7)) (F8.stable _) (PE.list (ds := []) F8 PEs.nil (by simp)) (fun s' a b x p1 p2 => TE.eq_nil p1 p2 hu) (by rfl)) (fun _ => PE.var F8 hml7 rM8 (.inl k6)) (fun q => by cases q)) (by simp; omega) (fun h9 tk9 ex9 acc9 F9 => ?_) (by rfl) (by rw [he]; rfl) (by rfl) (by rw [he]; rfl) (by rw [he]; rfl) (by rw [he]; rfl)
      refine ex_done ⟨h9, tk9, rfl, ?_, _, F9, hmc7, by rw [hout]; exact acc9⟩
      have exx : ExtB (zone (A.deeper e)) (N :: L :: blocks e) h4 h9 := ((((ex5.mono fun a ha => .tail _ (.tail _ ha)).trans (ex6.mono fun a ha => .tail _ (.tail _ ha))).trans (ex7.mono fun a ha => (List.mem_cons.mp ha).elim (fun q => q ▸ .head _) fun q => .tail _ (.tail _ q))).trans (ex8.mono fun a ha => by rw [List.mem_singleton.mp ha]; exact .tail _ (.head _))).trans (ex9.mono fun a ha => by rw [List.mem_singleton.mp ha]; exact .tail _ (.head _))
      exact exx.drop fun a ha => (List.mem_cons.mp ha).elim (fun q => .inr (q ▸ hN)) .inl
    · rintro h3 m3 h4 tk4 ⟨hm3, acc3⟩ md ex4 F4
      have acc4 : AccL (L :: W') h4 L (outD odd l) := by
        rw [out_ways] at acc3
        exact acc3.mutD md (by simp) (by simp)
      refine ex_return (P := R W' (codeD odd (code l))) (PE.name F4 hm3 (fun h5 x5 => ?_) (.inl k2) (by decide)) fun v2 h5 t5 x5 p5 => ?_
      · rw [codeD_out]
        exact (acc4.mutD (T := zone (A.deeper e)) (x5.mut fun a q => q).toD F4.zoneW hLz).out hLW
      · refine ⟨h5, t5, L :: blocks e, v2, rfl, fun a ha => ?_, ((ex2.mono fun a ha => .tail _ ha).trans ex4).trans x5.toB, rfl, Rep.leave p5 sub⟩
        rcases List.mem_cons.mp ha with q | q
        · rw [q]; exact hLs
        · exact hfresh a q
end
end Mine
end

-- C10
noncomputable section
open PySem PySem.W PyProof.Rows PySem.SeqAt
namespace Mine
set_option maxRecDepth 100000
section
variable {prog : Program} {w : World} {base h h₁ : Heap} {W W' T0 : List Addr} {n : Nat} {A : Around} {env : Env} {m : Vars} {s : Shared} {E : Value → Shared → Prop} {odd : Bool} {mg mb : Vars}

theorem all2 {P P' : P3} {h : Heap} {vs : List Value} (p : AllP [P, P'] h vs) : ∃ v v', vs = [v, v'] ∧ P h v ∧ P' h v' := by
  match vs, p with
  | [v, v'], p => exact ⟨v, v', rfl, p.1, p.2.1⟩
/-- word[a:b] -/
theorem pe_sl {e lo hi : Expr} {l : List L3} {a b : Nat} {p1 p2 : Pos} (F : Fx base W n A env h m) (hl : l.length ≤ 100) (he : PE (model prog w) A env h e (R W (dW odd l))) (ha : PE (model prog w) A env h lo (R W (.int (a : Int)))) (hb : PE (model prog w) A env h hi (R W (.int (b : Int))))
    (hops : ∀ v j, ∃ ops, subscripted (.Slice (some lo) (some hi) none p1) false v j = operate ops (getItem v j)) : PE (model prog w) A env h (.Subscript e (.Slice (some lo) (some hi) none p1) p2) (R W (dW odd (sl l a b))) :=
  pe_cut (ds' := (sl l a b).map (nmD odd)) F he (Part.some (W := W) ha) (Part.some (W := W) hb) Part.none (fun s' x y hn p q => by
    have := TE.cut_run (prog := prog) (w := w) (A := A) hn p q (by simp; have : sizeLine = 16777216 := by decide
                                                                   omega)
    rw [← List.map_drop, ← List.map_take] at this; exact this) hops
/-- set(row) -/
theorem pe_set {p pos : Pos} {e : Expr} {l : List L3} (F : Fx base W n A env h m) (G : Glo base mg mb) (hk : env.kindOf "set" = some .globalImplicit) (he : PE (model prog w) A env h e (R W (dW odd l)))
    (hst : starEach [e] env = (false, eval e env) :: starEach [] env) : PE (model prog w) A env h (.Call (.Name "set" p) [e] [] pos) (RS prog w W odd l) :=
  PE.callT (id := "set") (Ps := [R W (dW odd l)]) (PE.builtin F G (by decide) (by decide +kernel) (fun _ => rfl) hk (by decide)) (PEs.cons he (F.stable _) PEs.nil hst) (fun s vs x p => by
    obtain ⟨v, rfl, q⟩ := all1 p
    exact te_set_of F.handled (F.cx.ext x).new q) hst (by rfl)
theorem pe_add {x y : Expr} {a b c : Int} {pos : Pos} (F : Fx base W n A env h m) (ha : PE (model prog w) A env h x (R W (.int a))) (hb : PE (model prog w) A env h y (R W (.int b))) (e : a + b = c) : PE (model prog w) A env h (.BinOp x .Add y pos) (R W (.int c)) :=
  e ▸ PE.bin ha (F.stable _) hb fun s a b x p q => TE.add_int p q
theorem pe_sub {x y : Expr} {a b c : Int} {pos : Pos} (F : Fx base W n A env h m) (ha : PE (model prog w) A env h x (R W (.int a))) (hb : PE (model prog w) A env h y (R W (.int b))) (e : a - b = c) : PE (model prog w) A env h (.BinOp x .Sub y pos) (R W (.int c)) :=
  e ▸ PE.bin ha (F.stable _) hb fun s a b x p q => TE.sub_int p q
theorem pe_twice {y : Expr} {b c : Int} {k : Nat} {p pos : Pos} (F : Fx base W n A env h m) (hb : PE (model prog w) A env h y (R W (.int b))) (e : 2 * b = c) : PE (model prog w) A env h (.BinOp (.Constant (.int 2) k p) .Mult y pos) (R W (.int c)) :=
  e ▸ PE.bin (P1 := R W (.int 2)) PE.int (F.stable _) hb fun s a b x p q => TE.mul_int p q (IntMulOk.of_left (by decide))
theorem pe_range1 {p pos : Pos} {e : Expr} {b : Int} {k : Nat} (F : Fx base W n A env h m) (G : Glo base mg mb) (hk : env.kindOf "range" = some .globalImplicit) (he : PE (model prog w) A env h e (R W (.int b))) (h1 : -(2 ^ 62) ≤ b) (h2 : b < 2 ^ 62) (e' : b.toNat = k)
    (hst : starEach [e] env = (false, eval e env) :: starEach [] env) : PE (model prog w) A env h (.Call (.Name "range" p) [e] [] pos) (Itb W (rangeD 0 k)) :=
  PE.callT (id := "range") (Ps := [R W (.int b)]) (PE.builtin F G (by decide) (by decide +kernel) (fun _ => rfl) hk (by decide)) (PEs.cons he (F.stable _) PEs.nil hst) (fun s vs x p => by
    obtain ⟨v, rfl, q⟩ := all1 p
    exact e' ▸ TE.range1 q h1 h2) hst (by rfl)
theorem pe_range2 {p pos : Pos} {e1 e2 : Expr} {a b : Int} {k : Nat} (F : Fx base W n A env h m) (G : Glo base mg mb) (hk : env.kindOf "range" = some .globalImplicit) (he1 : PE (model prog w) A env h e1 (R W (.int a))) (he2 : PE (model prog w) A env h e2 (R W (.int b)))
    (h1 : -(2 ^ 62) ≤ a) (h2 : a < 2 ^ 62) (h3 : -(2 ^ 62) ≤ b) (h4 : b < 2 ^ 62) (e' : (b - a).toNat = k)
    (hst : starEach [e1, e2] env = (false, eval e1 env) :: starEach [e2] env) (hst2 : starEach [e2] env = (false, eval e2 env) :: starEach [] env) (hp : (backTo pos (starEach [e2] env)).any (·.1) = false) : PE (model prog w) A env h (.Call (.Name "range" p) [e1, e2] [] pos) (Itb W (rangeD a k)) :=
  PE.callT (id := "range") (Ps := [R W (.int a), R W (.int b)]) (PE.builtin F G (by decide) (by decide +kernel) (fun _ => rfl) hk (by decide)) (PEs.cons he1 (F.stable _) (PEs.cons he2 (F.stable _) PEs.nil hst2) hst) (fun s vs x p => by
    obtain ⟨v, v', rfl, q, q'⟩ := all2 p
    exact e' ▸ TE.range2 q q' h1 h2 h3 h4) hst hp
theorem pe_pair {x y : Expr} {a b : Nat} {k : Nat} {pos : Pos} (F : Fx base W n A env h m) (ha : PE (model prog w) A env h x (R W (.int (a : Int)))) (hb : PE (model prog w) A env h y (R W (.int (b : Int))))
    (hst : starEach [x, y] env = (false, eval x env) :: starEach [y] env) (hst2 : starEach [y] env = (false, eval y env) :: starEach [] env) : PE (model prog w) A env h (.Tuple [x, y] k pos) (R W (pairD (a, b))) :=
  PE.tuple (ds := [.int (a : Int), .int (b : Int)]) F (PEs.cons ha (F.stable _) (PEs.cons hb (F.stable _) PEs.nil hst2) hst) (by show 2 ≤ sizeLine; decide)
theorem pair_rep {v : Value} {p : Nat × Nat} (r : Rep W h v (pairD p)) : ∃ t x y, v = .ref t ∧ h.IsTuple t #[x, y] ∧ Rep W h x (.int (p.1 : Int)) ∧ Rep W h y (.int (p.2 : Int)) := by
  cases r with
  | tuple ha ht rs =>
    cases rs with
    | cons a b =>
      cases b with
      | cons b c =>
        cases c
        exact ⟨_, _, _, rfl, ht, a, b⟩
end
end Mine
end

-- C11
noncomputable section
open PySem PySem.W PyProof.Rows PySem.SeqAt
namespace Mine
set_option maxRecDepth 100000
section
variable {prog : Program} {w : World} {base h h₁ : Heap} {W W' T0 : List Addr} {n : Nat} {A : Around} {env : Env} {m : Vars} {s : Shared} {E : Value → Shared → Prop} {odd : Bool} {mg mb : Vars}

theorem pe_lenW {p pos : Pos} {e : Expr} {l : List L3} (F : Fx base W n A env h m) (G : Glo base mg mb) (hk : env.kindOf "len" = some .globalImplicit) (he : PE (model prog w) A env h e (R W (dW odd l))) (hl : l.length ≤ 100)
    (hst : starEach [e] env = (false, eval e env) :: starEach [] env) : PE (model prog w) A env h (.Call (.Name "len" p) [e] [] pos) (R W (.int l.length)) := by
  have hs16 : sizeLine = 16777216 := by decide
  have := pe_len (prog := prog) (w := w) (x := "") (p := p) (pos := pos) F G hk he (by rw [List.length_map]; omega) hst
  rw [List.length_map] at this; exact this

set_option maxHeartbeats 4000000 in
theorem c_struck {l : List L3} {t : Int} {v v' : Value} (Z : Env0 w base mg mb) (C : Cx base W (n + 1) A s.heap) (hl : l.length ≤ 9) (ra : R W (dW odd l) s.heap v) (rb : R W (.int t) s.heap v') :
    TE (model prog w) A s (call (.ref 79) [v, v']) (fun h v2 => ∃ l', Steps l l' ∧ Irr l' ∧ R W (dW odd l') h v2) := by
  refine te_call (binds := [("word", v), ("turn", v')]) C Z.G (fn_struck Z) rfl rfl rfl rfl (BindsTo.of_eq (by rfl)) rfl rfl rfl rfl (show ([("word" : Str), "turn"]).Nodup by decide) (by rfl) (show ([("names" : Str), "j", "n", "word"]).Nodup by decide) ?_
  intro h₁ tk e W' keep he hW' F hz hfresh hin E'
  have rv : Rep W' h₁ v (dW odd l) := Rep.enter ra hin keep
  have sub : ∀ a ∈ W, a ∈ W' := hW' ▸ sub_of
  have at' : ∀ {hh : Heap} {WW : List Addr}, Rep WW hh v' (.int t) := fun {hh WW} => Rep.atom rb rfl
  have k1 : e.kindOf "word" = some .cell := by rw [he]; rfl
  have k2 : e.kindOf "turn" = some .local := by rw [he]; rfl
  have k3 : e.kindOf "n" = some .cell := by rw [he]; rfl
  have k4 : e.kindOf "i" = some .local := by rw [he]; rfl
  have k5 : e.kindOf "cuts" = some .local := by rw [he]; rfl
  have k6 : e.kindOf "j" = some .cell := by rw [he]; rfl
  have k7 : e.kindOf "names" = some .cell := by rw [he]; rfl
  have k8 : e.kindOf "k" = some .local := by rw [he]; rfl
  have k9 : e.kindOf "len" = some .globalImplicit := by rw [he]; rfl
  have k10 : e.kindOf "range" = some .globalImplicit := by rw [he]; rfl
  have k11 : e.kindOf "set" = some .globalImplicit := by rw [he]; rfl
  have hs16 : sizeLine = 16777216 := by decide
  have hu : (A.deeper e).units < cLine := by have := F.units; rw [cu_lt]; omega
  refine ex_while2 (W := W') (T := blocks e) (fun k h m => ∃ l' vw, l'.length = k ∧ l'.length ≤ 9 ∧ Steps l l' ∧ m "word" = some vw ∧ Rep W' h vw (dW odd l') ∧ m "turn" = some v') (fun v2 h2 => ∃ l', Steps l l' ∧ Irr l' ∧ R W' (dW odd l') h2 v2) F l.length ⟨l, v, rfl, hl, .refl _, rfl, rv, rfl⟩ ?_ (fun v2 h3 tk3 p x => ?_)
  rotate_left
  · obtain ⟨l', p1, p2, p3⟩ := p
    exact ⟨h3, tk3, blocks e, v2, rfl, hfresh, x, rfl, l', p1, p2, Rep.leave p3 sub⟩
  rintro k h3 m3 ⟨l', vw, hk, hl', st, mw3, rw3, mt3⟩ ex3 F3
  refine ⟨true, pt_true, fun _ h4 tk4 x4 F4 E2 => ?_, fun q => by cases q⟩
  have rw4 : Rep W' h4 vw (dW odd l') := rw3.ext F3 x4
  -- n = len(word)
  refine ex_let2 (d := .int l'.length) F4 (pe_lenW F4 Z.G k9 (PE.var F4 mw3 rw4 (.inr (.inl k1))) (by omega) (by rfl)) (.inr k3) (fun vn h5 tk5 rn5 ex5 F5 => ?_) (by rw [he]; rfl)
  have rw5 : Rep W' h5 vw (dW odd l') := rw4.mut (ex5.mut F.blocksW F.zoneW)
  have mw5 : (upd m3 "n" vn) "word" = some vw := by simp only [upd]; rw [if_neg (by decide)]; exact mw3
  have mt5 : (upd m3 "n" vn) "turn" = some v' := by simp only [upd]; rw [if_neg (by decide)]; exact mt3
  have mn5 : (upd m3 "n" vn) "n" = some vn := by simp [upd]
  have an : ∀ {hh : Heap} {WW : List Addr}, Rep WW hh vn (.int l'.length) := fun {hh WW} => Rep.atom rn5 rfl
  generalize (upd m3 "n" vn) = m5 at F5 mw5 mt5 mn5
  -- cuts = [ .. ]
  refine ex_comp (cl := [(("word" : Str), s.heap.objs.size + 1), ("n", s.heap.objs.size + 1 + 1)]) (ds := rangeD 1 (l'.length / 2)) (out := (cutsSq l').map pairD) F5 ?ok ?hi ?hb k5 ?k (by rw [he]; rfl) (by intro _; rfl)
  case ok =>
    refine CompOK.of rfl (by rw [he]; rfl) (fun p hp => ?_) (by rw [he]; rfl)
    rw [he]
    rcases List.mem_cons.mp hp with q | q
    · subst q; rfl
    · rw [List.mem_singleton.mp q]; rfl
  case hi =>
    refine pe_range2 (a := 1) (b := ((l'.length / 2 + 1 : Nat) : Int)) F5 Z.G k10 PE.int (pe_add (a := ((l'.length / 2 : Nat) : Int)) (b := 1) F5 (PE.bin (P1 := R W' (.int l'.length)) (P2 := R W' (.int 2)) (PE.var F5 mn5 an (.inr (.inl k3))) (F5.stable _) PE.int fun s' a b x p q => ?_) PE.int (by omega)) (by omega) (by omega) (by omega) (by omega) (by omega) (by rw [he]; rfl) (by rw [he]; rfl) (by rw [he]; rfl)
    have := TE.floordiv_int (prog := prog) (w := w) (A := A.deeper e) p q (by decide) (PyProof.noPylong_small (by decide))
    rw [show (l'.length : Int).fdiv 2 = ((l'.length / 2 : Nat) : Int) by rw [Int.fdiv_eq_ediv_of_nonneg _ (by decide)]; omega] at this
    exact this
  case hb =>
    rw [← sq_out]
    refine comp2_bodyM (sqDs2 l') (sqTest l') sqVal 10 (Ext.refl _ _) F5 (by rw [he]; rfl) (by rw [he]; rfl) (by decide) ?_ ?_ (fun i hi => by rw [sqDs2, rangeD_length]; omega) (by rw [rangeD_length]; omega) (by intro _ _; rfl)
    · intro W2 C2 h6 m6 i d v6 F6 J6 hd6 rd6 mv6
      obtain ⟨hi6, rfl⟩ := rangeD_get hd6
      generalize hce : compEnvC _ _ C2 e = ce at F6 ⊢
      have kn : ce.kindOf "n" = some .cell := by rw [← hce, he]; rfl
      have kh : ce.kindOf "h" = some .local := by rw [← hce, he]; rfl
      have kr : ce.kindOf "range" = some .globalImplicit := by rw [← hce, he]; rfl
      have mn6 : (upd m6 "h" v6) "n" = some vn := by
        simp only [upd]; rw [if_neg (by decide)]
        refine (J6 "n" (by decide)).trans ?_
        show (if _ then _ else _) = _
        rw [if_neg (by decide)]; exact mn5
      have mh6 : (upd m6 "h" v6) "h" = some v6 := by simp [upd]
      refine pe_range1 (b := ((l'.length - 2 * (i + 1) + 1 : Nat) : Int)) F6 Z.G kr (pe_add (a := ((l'.length - 2 * (i + 1) : Nat) : Int)) (b := 1) F6 (pe_sub (a := l'.length) (b := 2 * (1 + (i : Int))) F6 (PE.var F6 mn6 an (.inr (.inl kn))) (pe_twice (b := 1 + (i : Int)) F6 (PE.var F6 mh6 rd6 (.inl kh)) rfl) (by omega)) PE.int (by omega)) (by omega) (by omega) (by omega) (by rw [← hce, he]; rfl)
    · intro W2 C2 h6 m6 i d v6 j d2 v2 F6 J6 hx6 hd6 rd6 hd2 rd2 mv6
      obtain ⟨hi6, rfl⟩ := rangeD_get hd6
      obtain ⟨hj6, rfl⟩ := rangeD_get hd2
      generalize hce : compEnvC _ _ C2 e = ce at F6 ⊢
      have kw : ce.kindOf "word" = some .cell := by rw [← hce, he]; rfl
      have kh : ce.kindOf "h" = some .local := by rw [← hce, he]; rfl
      have ki : ce.kindOf "i" = some .local := by rw [← hce, he]; rfl
      have mw6 : (upd m6 "i" v2) "word" = some vw := by
        simp only [upd]; rw [if_neg (by decide)]
        refine (J6 "word" (by decide)).trans ?_
        show (if _ then _ else _) = _
        rw [if_neg (by decide)]; exact mw5
      have mh6 : (upd m6 "i" v2) "h" = some v6 := by simp only [upd]; rw [if_neg (by decide)]; exact hx6
      have mi6 : (upd m6 "i" v2) "i" = some v2 := by simp [upd]
      have rw6 : Rep W2 h6 vw (dW odd l') := mv6.rep rw5
      have pw : ∀ {p : Pos}, PE (model prog w) (A.deeper e) ce h6 (.Name "word" p) (R W2 (dW odd l')) := PE.var F6 mw6 rw6 (.inr (.inl kw))
      have pi : ∀ {p : Pos}, PE (model prog w) (A.deeper e) ce h6 (.Name "i" p) (R W2 (.int (j : Int))) := fun {p} => by
        have := PE.var (prog := prog) (w := w) (pos := p) F6 mi6 rd2 (.inl ki)
        rw [Int.zero_add] at this; exact this
      have ph : ∀ {p : Pos}, PE (model prog w) (A.deeper e) ce h6 (.Name "h" p) (R W2 (.int (1 + (i : Int)))) := PE.var F6 mh6 rd6 (.inl kh)
      have pih : ∀ {p q r : Pos}, PE (model prog w) (A.deeper e) ce h6 (.BinOp (.Name "i" p) .Add (.Name "h" q) r) (R W2 (.int ((j + (i + 1) : Nat) : Int))) := pe_add F6 pi ph (by omega)
      refine ⟨PT.cmp (pe_sl (a := j) (b := j + (i + 1)) F6 (by omega) pw pi pih (by intro _ _; exact ⟨_, by with_unfolding_all rfl⟩)) (F6.stable _)
        (pe_sl (a := j + (i + 1)) (b := j + 2 * (i + 1)) F6 (by omega) pw pih (pe_add F6 pi (pe_twice F6 ph rfl) (by omega)) (by intro _ _; exact ⟨_, by with_unfolding_all rfl⟩)) (fun s' x y xx p1 p2 => TE.eq_words p1 p2 hu) (by rfl), fun _ => ?_⟩
      exact pe_pair F6 pi pih (by rw [← hce, he]; rfl) (by rw [← hce, he]; rfl)
  case k =>
    intro vc h6 t6 hnew6 rc6 ex6 F6
    obtain ⟨L, rfl, hL⟩ := hnew6
    have hL : h5.get? L = none := hL
    have hLW : L ∉ W' := F5.notW hL
    have hLb : L ∉ blocks e := fun q => hLW (F.blocksW L q)
    have hLz : L ∉ zone (A.deeper e) := fun q => hLW (F.zoneW L q)
    have rw6 : Rep (L :: W') h6 vw (dW odd l') := Rep.into rw5 hL (ex6.mut (fun a ha => .tail _ (F.blocksW a ha)) (fun a ha => .tail _ (F.zoneW a ha)))
    have acc6 : AccL (L :: W') h6 L ((cutsSq l').map pairD) := by
      cases rc6 with
      | list ha pl rs => exact ⟨_, pl, Reps.pairs_own pl rs (pairs_atoms _)⟩
    have lL6 : ∃ o, h6.get? L = some o := by obtain ⟨_, ⟨_, q⟩, _⟩ := acc6; exact ⟨_, q⟩
    have F6o : Fx base (L :: W') n (A.deeper e) e h6 (upd m5 "cuts" (.ref L)) := F6.own (F5.none_of hL) lL6
    have mw6 : (upd m5 "cuts" (.ref L)) "word" = some vw := by simp only [upd]; rw [if_neg (by decide)]; exact mw5
    have mt6 : (upd m5 "cuts" (.ref L)) "turn" = some v' := by simp only [upd]; rw [if_neg (by decide)]; exact mt5
    have mn6 : (upd m5 "cuts" (.ref L)) "n" = some vn := by simp only [upd]; rw [if_neg (by decide)]; exact mn5
    have mc6 : (upd m5 "cuts" (.ref L)) "cuts" = some (.ref L) := by simp [upd]
    generalize (upd m5 "cuts" (.ref L)) = m6 at F6o mw6 mt6 mn6 mc6
    have bW : ∀ a ∈ blocks e, a ∈ L :: W' := fun a ha => .tail _ (F.blocksW a ha)
    have zW : ∀ a ∈ zone (A.deeper e), a ∈ L :: W' := fun a ha => .tail _ (F.zoneW a ha)
    have bT : ∀ a ∈ blocks e, a ∈ L :: blocks e := fun a ha => .tail _ ha
    have TW : ∀ a ∈ L :: blocks e, a ∈ L :: W' := fun a ha => (List.mem_cons.mp ha).elim (fun q => q ▸ .head _) fun q => .tail _ (F.blocksW a q)
    have hlsq := sq_len l' hl'
    have pn : ∀ {WW : List Addr} {hh : Heap} {mm : Vars} {p : Pos}, Fx base WW n (A.deeper e) e hh mm → mm "n" = some vn → PE (model prog w) (A.deeper e) e hh (.Name "n" p) (R WW (.int l'.length)) := fun F' hm => PE.var F' hm an (.inr (.inl k3))
    -- for i in range(n - 2)
    refine ex_for2 (W := L :: W') (T := L :: blocks e) (rangeD 0 (l'.length - 2)) (fun i h m => m "cuts" = some (.ref L) ∧ m "word" = some vw ∧ m "n" = some vn ∧ m "turn" = some v' ∧ AccL (L :: W') h L ((cutsSq l' ++ midI l' i).map pairD) ∧ Rep (L :: W') h vw (dW odd l')) (fun _ _ => False) F6o bT TW
      (pe_range1 (b := (l'.length : Int) - 2) F6o Z.G k10 (pe_sub F6o (pn F6o mn6) PE.int rfl) (by omega) (by omega) (by omega) (by rw [he]; rfl)) (.inl k4) (fun h' x => ⟨mc6, mw6, mn6, mt6, ?_, rw6.ext F6o x⟩) ?_ ?_ (fun _ _ _ q => q.elim) (by rw [he]; intro _; rfl)
    · have : (cutsSq l' ++ midI l' 0).map pairD = (cutsSq l').map pairD := by simp [midI]
      rw [this]
      exact acc6.mutD (T := zone (A.deeper e)) (x.mut fun a q => q).toD zW hLz
    · rintro i d vi h7 m7 h8 tk8 hd ⟨mc7, mw7, mn7, mt7, acc7, rw7⟩ md ex8 F8 ri E3
      obtain ⟨hi, rfl⟩ := rangeD_get hd
      have acc8 := acc7.mutD md bW hLb
      have rw8 := Rep.mutD (md.mono bW) rw7
      have ai : ∀ {hh : Heap} {WW : List Addr}, Rep WW hh vi (.int (i : Int)) := fun {hh WW} => by
        have := Rep.atom (W' := WW) (h' := hh) ri rfl
        rw [Int.zero_add] at this; exact this
      have mc8 : (upd m7 "i" vi) "cuts" = some (.ref L) := by simp only [upd]; rw [if_neg (by decide)]; exact mc7
      have mw8 : (upd m7 "i" vi) "word" = some vw := by simp only [upd]; rw [if_neg (by decide)]; exact mw7
      have mn8 : (upd m7 "i" vi) "n" = some vn := by simp only [upd]; rw [if_neg (by decide)]; exact mn7
      have mt8 : (upd m7 "i" vi) "turn" = some v' := by simp only [upd]; rw [if_neg (by decide)]; exact mt7
      have mi8 : (upd m7 "i" vi) "i" = some vi := by simp [upd]
      generalize (upd m7 "i" vi) = m8 at F8 mc8 mw8 mn8 mt8 mi8
      -- for j in range(i + 1, n - 1)
      refine ex_for2 (W := L :: W') (T := L :: blocks e) (rangeD ((i + 1 : Nat) : Int) (l'.length - 1 - (i + 1))) (fun j h m => m "cuts" = some (.ref L) ∧ m "word" = some vw ∧ m "n" = some vn ∧ m "turn" = some v' ∧ m "i" = some vi ∧ AccL (L :: W') h L ((cutsSq l' ++ midI l' i ++ midJ l' i j).map pairD) ∧ Rep (L :: W') h vw (dW odd l')) (fun _ _ => False) F8 bT TW
        (pe_range2 (b := (l'.length : Int) - 1) F8 Z.G k10 (pe_add F8 (PE.var F8 mi8 ai (.inl k4)) PE.int (by omega)) (pe_sub F8 (pn F8 mn8) PE.int rfl) (by omega) (by omega) (by omega) (by omega) (by omega) (by rw [he]; rfl) (by rw [he]; rfl) (by rw [he]; rfl)) (.inr k6) (fun h' x => ⟨mc8, mw8, mn8, mt8, mi8, ?_, rw8.ext F8 x⟩) ?_ ?_ (fun _ _ _ q => q.elim) (by rw [he]; intro _; rfl)
      · have : (cutsSq l' ++ midI l' i ++ midJ l' i 0).map pairD = (cutsSq l' ++ midI l' i).map pairD := by simp [midJ]
        rw [this]
        exact acc8.mutD (T := zone (A.deeper e)) (x.mut fun a q => q).toD zW hLz
      · rintro jj d vj h9 m9 h10 tk10 hd9 ⟨mc9, mw9, mn9, mt9, mi9, acc9, rw9⟩ md9 ex10 F10 rj E4
        obtain ⟨hj, rfl⟩ := rangeD_get hd9
        have acc10 := acc9.mutD md9 bW hLb
        have rw10 := Rep.mutD (md9.mono bW) rw9
        generalize hJ : i + 1 + jj = J
        have aj : ∀ {hh : Heap} {WW : List Addr}, Rep WW hh vj (.int (J : Int)) := fun {hh WW} => by
          have := Rep.atom (W' := WW) (h' := hh) rj rfl
          rw [show ((i + 1 : Nat) : Int) + (jj : Int) = (J : Int) by omega] at this; exact this
        have mc10 : (upd m9 "j" vj) "cuts" = some (.ref L) := by simp only [upd]; rw [if_neg (by decide)]; exact mc9
        have mw10 : (upd m9 "j" vj) "word" = some vw := by simp only [upd]; rw [if_neg (by decide)]; exact mw9
        have mn10 : (upd m9 "j" vj) "n" = some vn := by simp only [upd]; rw [if_neg (by decide)]; exact mn9
        have mt10 : (upd m9 "j" vj) "turn" = some v' := by simp only [upd]; rw [if_neg (by decide)]; exact mt9
        have mi10 : (upd m9 "j" vj) "i" = some vi := by simp only [upd]; rw [if_neg (by decide)]; exact mi9
        have mj10 : (upd m9 "j" vj) "j" = some vj := by simp [upd]
        generalize (upd m9 "j" vj) = m10 at F10 mc10 mw10 mn10 mt10 mi10 mj10
        -- names = set(word[i:j])
        refine ex_letP (P := RS prog w (L :: W') odd (sl l' i J)) F10 (pe_set F10 Z.G k11 (pe_sl (a := i) (b := J) F10 (by omega) (PE.var F10 mw10 rw10 (.inr (.inl k1))) (PE.var F10 mi10 ai (.inl k4)) (PE.var F10 mj10 aj (.inr (.inl k6))) (by intro _ _; exact ⟨_, by with_unfolding_all rfl⟩)) (by rfl)) (.inr k7) (fun h1 h2 v mm r => r.mutD (mm.mono bW).toD) (fun vs h11 tk11 rs11 ex11 F11 => ?_) (by rw [he]; rfl)
        have acc11 := acc_extB acc10 ex11 bW zW hLb hLz
        have rw11 : Rep (L :: W') h11 vw (dW odd l') := rw10.mut (ex11.mut bW zW)
        have mc11 : (upd m10 "names" vs) "cuts" = some (.ref L) := by simp only [upd]; rw [if_neg (by decide)]; exact mc10
        have mw11 : (upd m10 "names" vs) "word" = some vw := by simp only [upd]; rw [if_neg (by decide)]; exact mw10
        have mn11 : (upd m10 "names" vs) "n" = some vn := by simp only [upd]; rw [if_neg (by decide)]; exact mn10
        have mt11 : (upd m10 "names" vs) "turn" = some v' := by simp only [upd]; rw [if_neg (by decide)]; exact mt10
        have mi11 : (upd m10 "names" vs) "i" = some vi := by simp only [upd]; rw [if_neg (by decide)]; exact mi10
        have mj11 : (upd m10 "names" vs) "j" = some vj := by simp only [upd]; rw [if_neg (by decide)]; exact mj10
        have ms11 : (upd m10 "names" vs) "names" = some vs := by simp [upd]
        generalize (upd m10 "names" vs) = m11 at F11 mc11 mw11 mn11 mt11 mi11 mj11 ms11
        -- cuts.extend([ .. ])
        have hmi := midI_len l' i hl' (by omega)
        have hmj := midJ_len l' i jj hl' (by omega)
        have hmm := mid_len l' i J hl'
        refine ex_extend (L := L) (ds := (cutsSq l' ++ midI l' i ++ midJ l' i jj).map pairD) (ds' := (cutsMid l' i J).map pairD) F11 (PE.name F11 mc11 (fun _ _ => rfl) (.inl k5) (by decide)) (.head _) hLb hLz acc11 ?_ (by simp only [List.length_map, List.length_append]; omega) (fun h12 tk12 ex12 acc12 F12 => ?_) (by rfl) (by rw [he]; rfl) (by rfl) (by rw [he]; rfl) (by rw [he]; rfl) (by rw [he]; rfl)
        · refine PE.comp (cl := [(("word" : Str), s.heap.objs.size + 1), ("names", s.heap.objs.size + 1 + 1 + 1 + 1), ("n", s.heap.objs.size + 1 + 1), ("j", s.heap.objs.size + 1 + 1 + 1)]) (ds := rangeD ((J + 1 : Nat) : Int) (l'.length - (J + 1))) F11 ?ok2 ?hi2 ?hb2 (by intro _; rfl)
          case ok2 =>
            refine CompOK.of rfl (by rw [he]; rfl) (fun p hp => ?_) (by rw [he]; rfl)
            rw [he]
            rcases List.mem_cons.mp hp with q | hp
            · subst q; rfl
            rcases List.mem_cons.mp hp with q | hp
            · subst q; rfl
            rcases List.mem_cons.mp hp with q | hp
            · subst q; rfl
            · rw [List.mem_singleton.mp hp]; rfl
          case hi2 =>
            exact pe_range2 (a := ((J + 1 : Nat) : Int)) (b := (l'.length : Int)) F11 Z.G k10 (pe_add F11 (PE.var F11 mj11 aj (.inr (.inl k6))) PE.int (by omega)) (pn F11 mn11) (by omega) (by omega) (by omega) (by omega) (by omega) (by rw [he]; rfl) (by rw [he]; rfl) (by rw [he]; rfl)
          case hb2 =>
            intro s' hs'
            rw [← mid_out]
            refine comp2_bodyM (midDs2 l' J) (midTest l' i J) (midVal J) 10 hs' F11 (by rw [he]; rfl) (by rw [he]; rfl) (by decide) ?_ ?_ (fun a ha => by rw [midDs2, rangeD_length]; omega) (by rw [rangeD_length]; omega) (by intro _ _; rfl)
            · intro W2 C2 h6' m6' a d v6 F6' J6 hd6 rd6 mv6
              obtain ⟨ha6, rfl⟩ := rangeD_get hd6
              generalize hce : compEnvC _ _ C2 e = ce at F6' ⊢
              have kn : ce.kindOf "n" = some .cell := by rw [← hce, he]; rfl
              have kk : ce.kindOf "k" = some .local := by rw [← hce, he]; rfl
              have kr : ce.kindOf "range" = some .globalImplicit := by rw [← hce, he]; rfl
              have mn' : (upd m6' "k" v6) "n" = some vn := by
                simp only [upd]; rw [if_neg (by decide)]
                refine (J6 "n" (by decide)).trans ?_
                show (if _ then _ else _) = _
                rw [if_neg (by decide)]; exact mn11
              have mk' : (upd m6' "k" v6) "k" = some v6 := by simp [upd]
              exact pe_range2 (a := ((J + 1 + a + 1 : Nat) : Int)) (b := ((l'.length + 1 : Nat) : Int)) F6' Z.G kr (pe_add F6' (PE.var F6' mk' rd6 (.inl kk)) PE.int (by omega)) (pe_add F6' (PE.var F6' mn' an (.inr (.inl kn))) PE.int (by omega)) (by omega) (by omega) (by omega) (by omega) (by omega) (by rw [← hce, he]; rfl) (by rw [← hce, he]; rfl) (by rw [← hce, he]; rfl)
            · intro W2 C2 h6' m6' a d v6 b d2 v2 F6' J6 hx6 hd6 rd6 hd2 rd2 mv6
              obtain ⟨ha6, rfl⟩ := rangeD_get hd6
              obtain ⟨hb6, rfl⟩ := rangeD_get hd2
              generalize hce : compEnvC _ _ C2 e = ce at F6' ⊢
              have kw : ce.kindOf "word" = some .cell := by rw [← hce, he]; rfl
              have kj : ce.kindOf "j" = some .cell := by rw [← hce, he]; rfl
              have ks : ce.kindOf "names" = some .cell := by rw [← hce, he]; rfl
              have kk : ce.kindOf "k" = some .local := by rw [← hce, he]; rfl
              have km : ce.kindOf "m" = some .local := by rw [← hce, he]; rfl
              have kset : ce.kindOf "set" = some .globalImplicit := by rw [← hce, he]; rfl
              have mw' : (upd m6' "m" v2) "word" = some vw := by
                simp only [upd]; rw [if_neg (by decide)]
                refine (J6 "word" (by decide)).trans ?_
                show (if _ then _ else _) = _
                rw [if_neg (by decide)]; exact mw11
              have mj' : (upd m6' "m" v2) "j" = some vj := by
                simp only [upd]; rw [if_neg (by decide)]
                refine (J6 "j" (by decide)).trans ?_
                show (if _ then _ else _) = _
                rw [if_neg (by decide)]; exact mj11
              have ms' : (upd m6' "m" v2) "names" = some vs := by
                simp only [upd]; rw [if_neg (by decide)]
                refine (J6 "names" (by decide)).trans ?_
                show (if _ then _ else _) = _
                rw [if_neg (by decide)]; exact ms11
              have mk' : (upd m6' "m" v2) "k" = some v6 := by simp only [upd]; rw [if_neg (by decide)]; exact hx6
              have mm' : (upd m6' "m" v2) "m" = some v2 := by simp [upd]
              have rw' : Rep W2 h6' vw (dW odd l') := mv6.rep rw11
              have rs' : RS prog w W2 odd (sl l' i J) h6' vs := mv6.rs rs11
              have pw : ∀ {p : Pos}, PE (model prog w) (A.deeper e) ce h6' (.Name "word" p) (R W2 (dW odd l')) := PE.var F6' mw' rw' (.inr (.inl kw))
              have pj : ∀ {p : Pos}, PE (model prog w) (A.deeper e) ce h6' (.Name "j" p) (R W2 (.int (J : Int))) := PE.var F6' mj' aj (.inr (.inl kj))
              have pk : ∀ {p : Pos}, PE (model prog w) (A.deeper e) ce h6' (.Name "k" p) (R W2 (.int ((J + 1 + a : Nat) : Int))) := fun {p} => by
                have := PE.var (prog := prog) (w := w) (pos := p) F6' mk' rd6 (.inl kk)
                rw [show ((J + 1 : Nat) : Int) + (a : Int) = ((J + 1 + a : Nat) : Int) by omega] at this; exact this
              have pm : ∀ {p : Pos}, PE (model prog w) (A.deeper e) ce h6' (.Name "m" p) (R W2 (.int ((J + 1 + a + 1 + b : Nat) : Int))) := fun {p} => by
                have := PE.var (prog := prog) (w := w) (pos := p) F6' mm' rd2 (.inl km)
                rw [show ((J + 1 + a + 1 : Nat) : Int) + (b : Int) = ((J + 1 + a + 1 + b : Nat) : Int) by omega] at this; exact this
              have ps : ∀ {p : Pos}, PE (model prog w) (A.deeper e) ce h6' (.Name "names" p) (RS prog w W2 odd (sl l' i J)) := PE.name F6' ms' (fun h' x => RS.stable F6'.zoneW _ _ _ x rs') (.inr (.inl ks)) (by decide)
              refine ⟨pt_and (PT.cmp (pe_set F6' Z.G kset (pe_sl F6' (by omega) pw pk pm (by intro _ _; exact ⟨_, by with_unfolding_all rfl⟩)) (by rfl)) (RS.stable F6'.zoneW) ps (fun s' x y xx p1 p2 => te_eq_sets p1 p2 hu) (by rfl))
                (PT.cmp (pe_set F6' Z.G kset (pe_sl F6' (by omega) pw pj pk (by intro _ _; exact ⟨_, by with_unfolding_all rfl⟩)) (by rfl)) (RS.stable F6'.zoneW) ps (fun s' x y xx p1 p2 => te_le_sets p1 p2 hu) (by rfl)), fun _ => ?_⟩
              exact pe_pair F6' pj pk (by rw [← hce, he]; rfl) (by rw [← hce, he]; rfl)
        · refine ex_done ⟨h12, tk12, rfl, (ex11.mono bT).trans (ex12.mono fun a ha => by rw [List.mem_singleton.mp ha]; exact .head _), m11, F12, mc11, mw11, mn11, mt11, mi11, ?_, rw11.mut (ex12.mut (fun a ha => by rw [List.mem_singleton.mp ha]; exact .head _) zW)⟩
          rw [midJ_succ, hJ, ← List.append_assoc, List.map_append]
          exact acc12
      · rintro h9 m9 h10 tk10 ⟨mc9, mw9, mn9, mt9, mi9, acc9, rw9⟩ md9 ex10 F10
        refine ex_done ⟨h10, tk10, rfl, ex10, m9, F10, mc9, mw9, mn9, mt9, ?_, Rep.mutD (md9.mono (by simp)) rw9⟩
        rw [midI_succ, ← List.append_assoc]
        rw [rangeD_length] at acc9
        exact acc9.mutD md9 (by simp) (by simp)
    · rintro h7 m7 h8 tk8 ⟨mc7, mw7, mn7, mt7, acc7, rw7⟩ md ex8 F8o
      have F8 : Fx base W' n (A.deeper e) e h8 m7 := F8o.back F (fun a ha => .tail _ ha)
      have acc8 : AccL (L :: W') h8 L ((cuts l').map pairD) := by
        rw [rangeD_length, midI_all] at acc7
        exact acc7.mutD md (by simp) (by simp)
      have rc8 : Rep W' h8 (.ref L) (.list ((cuts l').map pairD)) := acc8.out hLW
      have rw8 : Rep W' h8 vw (dW odd l') := Rep.out (Rep.mutD (md.mono (by simp)) rw7)
      have exx : ExtB (zone (A.deeper e)) (blocks e) h4 h8 := ((ex5.trans ex6).mono bT |>.trans ex8).drop fun a ha => (List.mem_cons.mp ha).elim (fun q => .inr (by
        rw [q]
        cases q' : h4.get? L with
        | none => rfl
        | some o => obtain ⟨sl, e1, _⟩ := ex5 L o hLb q'; rw [hL] at e1; cases e1)) .inl
      have pc : ∀ {p : Pos}, PE (model prog w) (A.deeper e) e h8 (.Name "cuts" p) (R W' (.list ((cuts l').map pairD))) := PE.var F8 mc7 rc8 (.inl k5)
      have hlc : (cuts l').length ≤ 8000 := by
        have := midI_len l' (l'.length - 2) hl' (by omega)
        rw [midI_all] at this
        rw [cuts, List.length_append]; omega
      by_cases hc : cuts l' = []
      · refine ex_if_ret (P := R W' (dW odd l')) (PT.cmp (P1 := R W' (.list ((cuts l').map pairD))) pc (F8.stable _) (PE.list (ds := []) F8 PEs.nil (by simp)) (fun s' a b x p1 p2 => by
          have := TE.eq_nil (prog := prog) (w := w) (A := A.deeper e) p1 p2 hu
          rw [show decide (((cuts l').map pairD).length = 0) = true by rw [hc]; rfl] at this
          exact this) (by rfl)) (PE.var F8 mw7 rw8 (.inr (.inl k1))) fun v2 h9 t9 x9 p9 => ?_
        exact ⟨h9, t9, rfl, exx.trans x9.toB, l', st, cuts_nil hc, p9⟩
      · refine ex_if_not (PT.cmp (P1 := R W' (.list ((cuts l').map pairD))) pc (F8.stable _) (PE.list (ds := []) F8 PEs.nil (by simp)) (fun s' a b x p1 p2 => by
          have := TE.eq_nil (prog := prog) (w := w) (A := A.deeper e) p1 p2 hu
          rw [show decide (((cuts l').map pairD).length = 0) = false by simpa using hc] at this
          exact this) (by rfl)) fun h9 tk9 x9 => ?_
        have F9 := F8.ext x9
        have rc9 := rc8.ext F8 x9
        have rw9 := rw8.ext F8 x9
        have pc9 : ∀ {p : Pos}, PE (model prog w) (A.deeper e) e h9 (.Name "cuts" p) (R W' (.list ((cuts l').map pairD))) := PE.var F9 mc7 rc9 (.inl k5)
        have plen : ∀ {p q r : Pos}, PE (model prog w) (A.deeper e) e h9 (.Call (.Name "len" p) [.Name "cuts" q] [] r) (R W' (.int ((cuts l').length : Nat))) := fun {p q r} => by
          have := pe_len (prog := prog) (w := w) (x := "") (p := p) (pos := r) F9 Z.G k9 (pc9 (p := q)) (by rw [List.length_map]; omega) (by rfl)
          rw [List.length_map] at this; exact this
        have hpos : 0 < (cuts l').length := List.length_pos_iff.mpr hc
        obtain ⟨hm0, hm1⟩ := emod_lt t (cuts l').length hpos
        have pix : ∀ {p q r u x : Pos}, PE (model prog w) (A.deeper e) e h9 (.BinOp (.Name "turn" p) .Mod (.Call (.Name "len" q) [.Name "cuts" r] [] u) x) (R W' (.int (t.fmod (cuts l').length))) := fun {p q r u x} =>
          PE.bin (P1 := R W' (.int t)) (P2 := R W' (.int ((cuts l').length : Nat))) (PE.var F9 mt7 at' (.inl k2)) (F9.stable _) plen fun s' a b x p q => TE.mod_int p q (by omega)
        generalize t.fmod ((cuts l').length : Int) = x at hm0 hm1 pix
        obtain ⟨j, kk, hjk⟩ : ∃ j kk, (cuts l')[x.toNat]? = some (j, kk) := ⟨_, _, List.getElem?_eq_getElem hm1⟩
        obtain ⟨hstep, hlt, hle⟩ := cuts_step (List.mem_of_getElem? hjk)
        -- j, k = cuts[turn % len(cuts)]
        refine wpAny_execs_cons (Assign_Tuple (pe_item (i := x) (d := pairD (j, kk)) F9 pc9 pix hm0 (by omega) (by rw [List.getElem?_map, hjk]; rfl) (by intro _ _; exact ⟨_, by with_unfolding_all rfl⟩) { s with heap := h9, toks := tk9 } (Ext.refl _ _) _ _ fun v1 h10 t10 x10 p10 => ?_) (by rw [he]; rfl) (by rw [he]; rfl))
        obtain ⟨tt, y1, y2, rfl, htt, r1, r2⟩ := pair_rep p10
        refine assign2 (s := { s with heap := h10, toks := t10 }) (F9.ext x10) htt (.inr k6) (.inl k8) fun h11 t11 ex11 F11 => ?_
        have rw11 : Rep W' h11 vw (dW odd l') := (rw9.ext F9 x10).mut (ex11.mut F.blocksW F.zoneW)
        have aj : ∀ {hh : Heap} {WW : List Addr}, Rep WW hh y1 (.int (j : Int)) := fun {hh WW} => Rep.atom r1 rfl
        have ak : ∀ {hh : Heap} {WW : List Addr}, Rep WW hh y2 (.int (kk : Int)) := fun {hh WW} => Rep.atom r2 rfl
        have mw11 : (upd (upd m7 "j" y1) "k" y2) "word" = some vw := by simp only [upd]; rw [if_neg (by decide), if_neg (by decide)]; exact mw7
        have mt11 : (upd (upd m7 "j" y1) "k" y2) "turn" = some v' := by simp only [upd]; rw [if_neg (by decide), if_neg (by decide)]; exact mt7
        have mj11 : (upd (upd m7 "j" y1) "k" y2) "j" = some y1 := by simp only [upd]; rw [if_neg (by decide)]; simp
        have mk11 : (upd (upd m7 "j" y1) "k" y2) "k" = some y2 := by simp [upd]
        generalize (upd (upd m7 "j" y1) "k" y2) = m11 at F11 mw11 mt11 mj11 mk11
        -- word = word[:j] + word[k:]
        refine ex_let2 (d := dW odd (l'.take j ++ l'.drop kk)) F11 (PE.bin (P1 := R W' (dW odd (l'.take j))) (P2 := R W' (dW odd (l'.drop kk)))
          (pe_cut (hi := some (j : Int)) (ds' := (l'.take j).map (nmD odd)) F11 (PE.var F11 mw11 rw11 (.inr (.inl k1))) Part.none (Part.some (W := W') (PE.var F11 mj11 aj (.inr (.inl k6)))) Part.none (fun s' x y hn p q => ?_) (by intro _ _; exact ⟨_, by with_unfolding_all rfl⟩)) (F11.stable _)
          (pe_cut (lo := some (kk : Int)) (ds' := (l'.drop kk).map (nmD odd)) F11 (PE.var F11 mw11 rw11 (.inr (.inl k1))) (Part.some (W := W') (PE.var F11 mk11 ak (.inl k8))) Part.none Part.none (fun s' x y hn p q => ?_) (by intro _ _; exact ⟨_, by with_unfolding_all rfl⟩)) fun s' x y xx p1 p2 => ?_) (.inr k1) (fun vw2 h12 t12 rw12 ex12 F12 => ?_) (by rw [he]; rfl)
        · have := TE.cut_upto (prog := prog) (w := w) (A := A.deeper e) hn p q (by rw [List.length_map]; omega)
          rw [← List.map_take] at this; exact this
        · have := TE.cut_from (prog := prog) (w := w) (A := A.deeper e) hn p q (by rw [List.length_map]; omega)
          rw [← List.map_drop] at this; exact this
        · have := TE.add_list (prog := prog) (w := w) (A := A.deeper e) (F11.cx.ext xx).new p1 p2 (by rw [List.length_map, List.length_map, List.length_drop, List.length_take]; omega)
          rw [← List.map_append] at this; exact this
        · have hlen : (l'.take j ++ l'.drop kk).length < l'.length := by rw [List.length_append, List.length_take, List.length_drop]; omega
          exact ex_done ⟨h12, t12, rfl, (((exx.trans x9.toB).trans x10.toB).trans ex11).trans ex12, _, (l'.take j ++ l'.drop kk).length, by omega, F12, _, vw2, rfl, by omega, st.snoc hstep, by simp [upd], rw12, by simp only [upd]; rw [if_neg (by decide)]; exact mt11⟩
end
end Mine
end

-- C12
noncomputable section
open PySem PySem.W PyProof.Rows PySem.SeqAt
namespace Mine
set_option maxRecDepth 100000
section
variable {prog : Program} {w : World} {base h h₁ : Heap} {W W' T0 : List Addr} {n : Nat} {A : Around} {env : Env} {m : Vars} {s : Shared} {E : Value → Shared → Prop} {odd : Bool} {mg mb : Vars}

theorem fn_law (Z : Env0 w base mg mb) : FnAt base 84 (fdAt w.params 84) := Z.fn rfl rfl rfl rfl rfl rfl
theorem gl_law (Z : Env0 w base mg mb) : mg "law" = some (.ref 84) := Z.glob (by rfl)

/-- the script -/
def Sc (ns : List Int) : P3 := fun h v => ∃ a vs, v = .ref a ∧ h.IsList a (List.toArray vs) ∧ IntsAre vs ns
theorem Sc.stable {ns : List Int} : Stable A (Sc ns) := fun h h' v x p => by
  obtain ⟨a, vs, rfl, ⟨o, e1, e2, k, e3⟩, hI⟩ := p
  obtain ⟨sl, e4, _⟩ := x a o e1
  exact ⟨a, vs, rfl, ⟨_, e4, e2, k, e3⟩, hI⟩
theorem te_cut9 {ns : List Int} {v i : Value} (hn : s.heap.objs.size ∉ W) (ra : Sc ns s.heap v) (ri : Sl none (some 9) none s.heap i) (hz : ns.length ≤ 63) : TE (model prog w) A s (PySem.getItem v i) (R W (intsD (ns.take 9))) := by
  obtain ⟨a, vl, vu, vs₁, rfl, hsl, p1, p2, p3⟩ := ri
  obtain ⟨l, vs, rfl, hl, hI⟩ := ra
  have hs16 : sizeLine = 16777216 := by decide
  have r : Reps W s.heap vs (ns.map .int) := reps_intsAre hI
  intro Q E k
  refine wpAny_getItem_list_slice hl hsl p1 p2 p3 (by decide) ?_ (by simp [r.length]; omega)
  have e : slicePick vs.toArray none (some 9) none = (vs.take 9).toArray := slicePick_upto' vs.toArray 9
  rw [e]
  refine k _ _ s.toks (Ext.push _ _) ?_
  show Rep W _ _ (.list ((ns.take 9).map .int))
  rw [List.map_take]
  exact Rep.newList hn (r.take 9)

theorem te_sorted' {ns : List Int} {v : Value} (C : Cx base W n A s.heap) (ra : R W (intsD ns) s.heap v) (hz : ns.length < 64) : TE (model prog w) A s (call (.builtin "sorted") [v]) (fun h' v' => ∃ ns', ns'.Perm ns ∧ ns'.Pairwise (· ≤ ·) ∧ R W (intsD ns') h' v') :=
  te_sorted (fun q => Nat.lt_irrefl _ (Nat.lt_of_succ_lt (C.lt q))) ra hz
theorem pe_mod {x y : Expr} {a b : Int} {pos : Pos} (F : Fx base W n A env h m) (ha : PE (model prog w) A env h x (R W (.int a))) (hb : PE (model prog w) A env h y (R W (.int b))) (h0 : b ≠ 0) : PE (model prog w) A env h (.BinOp x .Mod y pos) (R W (.int (a.fmod b))) :=
  PE.bin ha (F.stable _) hb fun s a b x p q => TE.mod_int p q h0
theorem pe_div {x y : Expr} {a b : Int} {pos : Pos} (F : Fx base W n A env h m) (ha : PE (model prog w) A env h x (R W (.int a))) (hb : PE (model prog w) A env h y (R W (.int b))) (h0 : b ≠ 0) (h1 : b.natAbs < 1073741824) : PE (model prog w) A env h (.BinOp x .FloorDiv y pos) (R W (.int (a.fdiv b))) :=
  PE.bin ha (F.stable _) hb fun s a b x p q => TE.floordiv_int p q h0 (PyProof.noPylong_small h1)
theorem pe_bool {x : Expr} {b : Bool} (he : PE (model prog w) A env h x (V (.bool b))) : PE (model prog w) A env h x (R W (.bool b)) := pe_mono he fun _ _ p => by cases p; exact .bool _
/-- a join by a text -/
theorem pe_join {o e : Expr} {apos pos : Pos} {l : List L3} (F : Fx base W n A env h m) (hl : l.length ≤ 100) (ho : PE (model prog w) A env h o (R W (sepD odd))) (he : PE (model prog w) A env h e (R W (dW odd l)))
    (hbase : attributeBase o "join" env (eval o env) = eval o env)
    (hfew : ((backTo pos (starEach [e] env)).all (fun x => !x.1) && (backToKw pos (keywordEach [] env)).all (fun x => x.1.isSome)
      && decide ([e].length + ([] : List Keyword).length + (if ([] : List Keyword).isEmpty then 0 else 1) < 30)) = true)
    (hline : (apos.endLine == pos.line) = true)
    (hst : starEach [e] env = (false, eval e env) :: starEach [] env) : PE (model prog w) A env h (.Call (.Attribute o "join" apos) [e] [] pos) (R W (pathD odd l)) :=
  PE.meth (T := textT odd) (id := joinId odd) (P0 := R W (sepD odd)) (Ps := [R W (dW odd l)]) hbase hfew hline (text_attrs odd) (text_join odd) (text_join_ty odd) ho (F.stable _) (fun s' v' p => sep_type p)
    (PEs.cons he (F.stable _) PEs.nil hst) (fun s' v' vs x p q => by
      obtain ⟨v1, rfl, q1⟩ := all1 q
      exact te_join p q1 hl) hst (by rfl)

set_option maxHeartbeats 4000000 in
theorem c_law {ns : List Int} {v : Value} (Z : Env0 w base mg mb) (C : Cx base W 61 A s.heap) (hns : ns.length ≤ 63) (ra : Sc ns s.heap v) :
    TE (model prog w) A s (call (.ref 84) [v]) (R W (.bool true)) := by
  refine te_call (n := 60) (binds := [("script", v)]) C Z.G (fn_law Z) rfl rfl rfl rfl (BindsTo.of_eq (by rfl)) rfl rfl rfl rfl (show ([("script" : Str)]).Nodup by decide) (by rfl) (show ([("word" : Str), "signs"]).Nodup by decide) ?_
  intro h₁ tk e W' keep he hW' F hz hfresh hin E'
  have rv : Sc ns h₁ v := Sc.stable (A := A) _ _ _ (Ext.of_stays keep) ra
  have sub : ∀ a ∈ W, a ∈ W' := hW' ▸ sub_of
  have k1 : e.kindOf "script" = some .local := by rw [he]; rfl
  have k2 : e.kindOf "numbers" = some .local := by rw [he]; rfl
  have k3 : e.kindOf "total" = some .local := by rw [he]; rfl
  have k4 : e.kindOf "odd" = some .local := by rw [he]; rfl
  have k5 : e.kindOf "slash" = some .local := by rw [he]; rfl
  have k6 : e.kindOf "signs" = some .cell := by rw [he]; rfl
  have k7 : e.kindOf "word" = some .cell := by rw [he]; rfl
  have k8 : e.kindOf "path" = some .local := by rw [he]; rfl
  have k9 : e.kindOf "read" = some .local := by rw [he]; rfl
  have k10 : e.kindOf "code" = some .local := by rw [he]; rfl
  have k11 : e.kindOf "left" = some .local := by rw [he]; rfl
  have k12 : e.kindOf "places" = some .local := by rw [he]; rfl
  have k13 : e.kindOf "twice" = some .local := by rw [he]; rfl
  have k14 : e.kindOf "last" = some .local := by rw [he]; rfl
  have k15 : e.kindOf "k" = some .local := by rw [he]; rfl
  have g1 : e.kindOf "sum" = some .globalImplicit := by rw [he]; rfl
  have g2 : e.kindOf "_law_cut" = some .globalImplicit := by rw [he]; rfl
  have g3 : e.kindOf "_law_code" = some .globalImplicit := by rw [he]; rfl
  have g4 : e.kindOf "_law_struck" = some .globalImplicit := by rw [he]; rfl
  have g5 : e.kindOf "_law_least" = some .globalImplicit := by rw [he]; rfl
  have g6 : e.kindOf "sorted" = some .globalImplicit := by rw [he]; rfl
  have g7 : e.kindOf "len" = some .globalImplicit := by rw [he]; rfl
  have g8 : e.kindOf "_get_sep" = some .globalImplicit := by rw [he]; rfl
  have g9 : e.kindOf "three_way_cmp" = some .globalImplicit := by rw [he]; rfl
  have g10 : e.kindOf "max" = some .globalImplicit := by rw [he]; rfl
  have g11 : e.kindOf "range" = some .globalImplicit := by rw [he]; rfl
  have g12 : e.kindOf "_compare_args_orderless" = some .globalImplicit := by rw [he]; rfl
  have hs16 : sizeLine = 16777216 := by decide
  have hu : (A.deeper e).units < cLine := by have := F.units; rw [cu_lt]; omega
  -- numbers = script[:9]
  refine ex_let2 (d := intsD (ns.take 9)) F (PE.sub (P0 := Sc ns) (PE.name F (v := v) rfl (fun h' x => Sc.stable _ _ _ x rv) (.inl k1) (by decide)) Sc.stable (PE.slice Part.none (Part.some (W := W') PE.int) Part.none) PySem.F.slot_list_getitem.lookup (fun s v p => by obtain ⟨a, vs, rfl, hl, _⟩ := p; exact hl.typeIs) (by intro _ _; exact ⟨_, by with_unfolding_all rfl⟩) fun s' x y xx p q => te_cut9 (F.cx.ext xx).new p q hns) (.inl k2) (fun vnum h2 t2 rnum2 ex2 F2 => ?_) (by rw [he]; rfl)
  have hx9 : (ns.take 9).length ≤ 9 := by rw [List.length_take]; omega
  have mnum2 : (upd (fun y => List.lookup y [(("script" : Str), v)]) "numbers" vnum) "numbers" = some vnum := by simp [upd]
  show wpAny (model prog w) (A.deeper e) (execs _ e) _ _ { s with heap := h2, toks := t2 }
  generalize (upd (fun y => List.lookup y [(("script" : Str), v)]) "numbers" vnum) = m2 at F2 mnum2
  generalize ns.take 9 = xs at hx9 rnum2
  have ex2' : ExtB (zone (A.deeper e)) (blocks e) h₁ h2 := ex2
  clear ex2 rv
  -- total = sum(numbers)
  refine ex_let2 (d := .int xs.sum) F2 (PE.callB (id := "sum") (Ps := [R W' (intsD xs)]) (PE.builtin F2 Z.G (by decide) (by decide +kernel) (fun _ => rfl) g1 (by decide)) (PEs.cons (PE.var F2 mnum2 rnum2 (.inl k2)) (F2.stable _) PEs.nil (by rfl)) (fun s' vs x p => by obtain ⟨v1, rfl, p1⟩ := all1 p; exact te_sum F.handled p1) (by rfl) (by rfl)) (.inl k3) (fun vtot h3 t3 rtot3 ex3 F3 => ?_) (by rw [he]; rfl)
  have bz : ∀ {h h' : Heap}, ExtB (zone (A.deeper e)) (blocks e) h h' → Mut W' h h' := fun x => x.mut F.blocksW F.zoneW
  have atot : ∀ {hh : Heap} {WW : List Addr}, Rep WW hh vtot (.int xs.sum) := fun {hh WW} => Rep.atom rtot3 rfl
  generalize xs.sum = tot at atot rtot3
  have mnum3 : (upd m2 "total" vtot) "numbers" = some vnum := by simp only [upd]; rw [if_neg (by decide)]; exact mnum2
  have mtot3 : (upd m2 "total" vtot) "total" = some vtot := by simp [upd]
  show wpAny (model prog w) (A.deeper e) (execs _ e) _ _ { s with heap := h3, toks := t3 }
  generalize (upd m2 "total" vtot) = m3 at F3 mnum3 mtot3
  have rnum3 := rnum2.mut (bz ex3)
  -- odd = total % 2 == 1
  refine ex_let2 (d := .bool (decide (tot.fmod 2 = 1))) F3 (pe_bool (PE.cmp (P1 := R W' (.int (tot.fmod 2))) (P2 := R W' (.int 1)) (pe_mod F3 (PE.var F3 mtot3 atot (.inl k3)) PE.int (by decide)) (F3.stable _) PE.int (fun s' a b x p q => TE.eq_int p q) (by rfl))) (.inl k4) (fun vodd h4 t4 rodd4 ex4 F4 => ?_) (by rw [he]; rfl)
  generalize decide (tot.fmod 2 = 1) = odd at rodd4
  have aodd : ∀ {hh : Heap} {WW : List Addr}, Rep WW hh vodd (.bool odd) := fun {hh WW} => Rep.atom rodd4 rfl
  have mnum4 : (upd m3 "odd" vodd) "numbers" = some vnum := by simp only [upd]; rw [if_neg (by decide)]; exact mnum3
  have mtot4 : (upd m3 "odd" vodd) "total" = some vtot := by simp only [upd]; rw [if_neg (by decide)]; exact mtot3
  have modd4 : (upd m3 "odd" vodd) "odd" = some vodd := by simp [upd]
  show wpAny (model prog w) (A.deeper e) (execs _ e) _ _ { s with heap := h4, toks := t4 }
  generalize (upd m3 "odd" vodd) = m4 at F4 mnum4 mtot4 modd4
  have rnum4 := rnum3.mut (bz ex4)
  -- slash = b'/' if odd else '/'
  refine ex_let2 (d := sepD odd) F4 (PE.ifexp (c := odd) (pt_bool (W := W') (PE.var F4 modd4 aodd (.inl k4)) (by intro _; rfl)) (fun q => by subst q; exact PE.bytes) (fun q => by subst q; exact PE.str)) (.inl k5) (fun vsl h5 t5 rsl5 ex5 F5 => ?_) (by rw [he]; rfl)
  have mnum5 : (upd m4 "slash" vsl) "numbers" = some vnum := by simp only [upd]; rw [if_neg (by decide)]; exact mnum4
  have mtot5 : (upd m4 "slash" vsl) "total" = some vtot := by simp only [upd]; rw [if_neg (by decide)]; exact mtot4
  have modd5 : (upd m4 "slash" vsl) "odd" = some vodd := by simp only [upd]; rw [if_neg (by decide)]; exact modd4
  have msl5 : (upd m4 "slash" vsl) "slash" = some vsl := by simp [upd]
  show wpAny (model prog w) (A.deeper e) (execs _ e) _ _ { s with heap := h5, toks := t5 }
  generalize (upd m4 "slash" vsl) = m5 at F5 mnum5 mtot5 modd5 msl5
  have rnum5 := rnum4.mut (bz ex5)
  -- signs
  refine ex_let2 (d := .list (signsD odd)) F5 (PE.ifexp (c := odd) (pt_bool (W := W') (PE.var F5 modd5 aodd (.inl k4)) (by intro _; rfl))
    (fun q => by subst q; exact PE.list (ds := signsD true) F5 (PEs.cons (PE.bytes (W := W') (x := [97])) (F5.stable (.bytes #[97])) (PEs.cons (PE.bytes (W := W') (x := [98])) (F5.stable (.bytes #[98])) (PEs.cons (PE.bytes (W := W') (x := [99])) (F5.stable (.bytes #[99])) PEs.nil (by rfl)) (by rfl)) (by rfl)) (by show 3 ≤ sizeLine; decide))
    (fun q => by subst q; exact PE.list (ds := signsD false) F5 (PEs.cons (PE.str (W := W') (x := "a")) (F5.stable (.str "a")) (PEs.cons (PE.str (W := W') (x := "b")) (F5.stable (.str "b")) (PEs.cons (PE.str (W := W') (x := "c")) (F5.stable (.str "c")) PEs.nil (by rfl)) (by rfl)) (by rfl)) (by show 3 ≤ sizeLine; decide))) (.inr k6) (fun vsg h6 t6 rsg6 ex6 F6 => ?_) (by rw [he]; rfl)
  have mnum6 : (upd m5 "signs" vsg) "numbers" = some vnum := by simp only [upd]; rw [if_neg (by decide)]; exact mnum5
  have mtot6 : (upd m5 "signs" vsg) "total" = some vtot := by simp only [upd]; rw [if_neg (by decide)]; exact mtot5
  have msl6 : (upd m5 "signs" vsg) "slash" = some vsl := by simp only [upd]; rw [if_neg (by decide)]; exact msl5
  have msg6 : (upd m5 "signs" vsg) "signs" = some vsg := by simp [upd]
  show wpAny (model prog w) (A.deeper e) (execs _ e) _ _ { s with heap := h6, toks := t6 }
  generalize (upd m5 "signs" vsg) = m6 at F6 mnum6 mtot6 msl6 msg6
  have rnum6 := rnum5.mut (bz ex6)
  have rsl6 := rsl5.mut (bz ex6)
  -- word = [signs[x % 3] for x in numbers]
  refine ex_let2 (d := dW odd (xs.map Mine.m3)) F6 ?_ (.inr k7) (fun vw h7 t7 rw7 ex7 F7 => ?_) (by rw [he]; rfl)
  · have eo : (xs.map Mine.m3).map (nmD odd) = ((List.range (xs.map D.int).length).filter (fun _ => true)).map (fun i => nmD odd (Mine.m3 (xs[i]?.getD 0))) := by
      rw [List.filter_eq_self.mpr (by simp)]
      apply List.ext_getElem?
      intro i
      rw [List.getElem?_map, List.getElem?_map, List.getElem?_map]
      by_cases hi : i < xs.length
      · rw [List.getElem?_range (by simpa using hi), List.getElem?_eq_getElem hi]; simp [List.getElem?_eq_getElem hi]
      · rw [List.getElem?_eq_none (by simpa using hi), List.getElem?_eq_none (by simpa using hi)]; rfl
    show PE _ _ _ _ _ (R W' (.list ((xs.map Mine.m3).map (nmD odd))))
    rw [eo]
    refine PE.comp (cl := [(("signs" : Str), s.heap.objs.size + 1)]) (ds := xs.map D.int) F6 ?ok (pe_mono (PE.var F6 mnum6 rnum6 (.inl k2)) fun _ _ p => .inl p) ?hb (by intro _; rfl)
    case ok =>
      refine CompOK.of rfl (by rw [he]; rfl) (fun p hp => ?_) (by rw [he]; rfl)
      rw [he, List.mem_singleton.mp hp]; rfl
    case hb =>
      intro s' hs'
      refine comp1_body (fun _ => true) (fun i => nmD odd (Mine.m3 (xs[i]?.getD 0))) hs' F6 (by rw [he]; rfl) ?_ (by rw [List.length_map]; omega)
      intro W2 C2 h7 m7 i d v7 F7 J7 hd7 rd7 mv7
      generalize hce : compEnvC _ _ C2 e = ce at F7 ⊢
      have kx : ce.kindOf "x" = some .local := by rw [← hce, he]; rfl
      have ks : ce.kindOf "signs" = some .cell := by rw [← hce, he]; rfl
      have ms7 : (upd m7 "x" v7) "signs" = some vsg := by
        simp only [upd]; rw [if_neg (by decide)]
        refine (J7 "signs" (by decide)).trans ?_
        show (if _ then _ else _) = _
        rw [if_neg (by decide)]; exact msg6
      have mx7 : (upd m7 "x" v7) "x" = some v7 := by simp [upd]
      refine ⟨rfl, fun _ => ?_⟩
      obtain ⟨x, hx, rfl⟩ : ∃ x, xs[i]? = some x ∧ d = .int x := by
        rw [List.getElem?_map] at hd7
        cases q : xs[i]? with
        | none => rw [q] at hd7; cases hd7
        | some x => rw [q] at hd7; cases hd7; exact ⟨x, rfl, rfl⟩
      rw [hx]
      have h1 : 0 ≤ x.fmod 3 := Int.fmod_nonneg_of_pos x (by decide)
      have h2 : x.fmod 3 < 3 := Int.fmod_lt_of_pos x (by decide)
      exact pe_item (ds := signsD odd) (i := x.fmod 3) F7 (PE.var F7 ms7 (mv7 _ _ rsg6) (.inr (.inl ks))) (pe_mod F7 (PE.var F7 mx7 rd7 (.inl kx)) PE.int (by decide)) h1 (by omega) (signs_get odd x) (by intro _ _; exact ⟨_, by with_unfolding_all rfl⟩)
  have hl : (xs.map Mine.m3).length ≤ 9 := by rw [List.length_map]; exact hx9
  generalize xs.map Mine.m3 = l at hl rw7
  have mtot7 : (upd m6 "word" vw) "total" = some vtot := by simp only [upd]; rw [if_neg (by decide)]; exact mtot6
  have msl7 : (upd m6 "word" vw) "slash" = some vsl := by simp only [upd]; rw [if_neg (by decide)]; exact msl6
  have mw7 : (upd m6 "word" vw) "word" = some vw := by simp [upd]
  show wpAny (model prog w) (A.deeper e) (execs _ e) _ _ { s with heap := h7, toks := t7 }
  generalize (upd m6 "word" vw) = m7 at F7 mtot7 msl7 mw7
  have rsl7 := rsl6.mut (bz ex7)
  have exA : ExtB (zone (A.deeper e)) (blocks e) h₁ h7 := (((((ex2'.trans ex3).trans ex4).trans ex5).trans ex6).trans ex7)
  clear ex2' ex3 ex4 ex5 ex6 ex7 F2 F3 F4 F5 F6
  -- path = slash.join(word)
  refine ex_let2 (d := pathD odd l) F7 (pe_join F7 (by omega) (PE.var F7 msl7 rsl7 (.inl k5)) (PE.var F7 mw7 rw7 (.inr (.inl k7))) (by rfl) (by rw [he]; rfl) (by rfl) (by rw [he]; rfl)) (.inl k8) (fun vp h8 t8 rp8 ex8 F8 => ?_) (by rw [he]; rfl)
  have mtot8 : (upd m7 "path" vp) "total" = some vtot := by simp only [upd]; rw [if_neg (by decide)]; exact mtot7
  have mw8 : (upd m7 "path" vp) "word" = some vw := by simp only [upd]; rw [if_neg (by decide)]; exact mw7
  have mp8 : (upd m7 "path" vp) "path" = some vp := by simp [upd]
  show wpAny (model prog w) (A.deeper e) (execs _ e) _ _ { s with heap := h8, toks := t8 }
  generalize (upd m7 "path" vp) = m8 at F8 mtot8 mw8 mp8
  have rw8 := rw7.mut (bz ex8)
  -- read = _law_cut(path)
  refine ex_let2 (d := dW odd l) F8 (pe_call1 F8 Z.G (gl_cut Z) (fn_cut Z) g2 (by decide) (PE.var F8 mp8 rp8 (.inl k8)) (fun s' v0 C' p => c_cut (n := 58) Z C' (by omega) p) (by rw [he]; rfl)) (.inl k9) (fun vr h9 t9 rr9 ex9 F9 => ?_) (by rw [he]; rfl)
  have mtot9 : (upd m8 "read" vr) "total" = some vtot := by simp only [upd]; rw [if_neg (by decide)]; exact mtot8
  have mw9 : (upd m8 "read" vr) "word" = some vw := by simp only [upd]; rw [if_neg (by decide)]; exact mw8
  have mp9 : (upd m8 "read" vr) "path" = some vp := by simp only [upd]; rw [if_neg (by decide)]; exact mp8
  have mr9 : (upd m8 "read" vr) "read" = some vr := by simp [upd]
  show wpAny (model prog w) (A.deeper e) (execs _ e) _ _ { s with heap := h9, toks := t9 }
  generalize (upd m8 "read" vr) = m9 at F9 mtot9 mw9 mp9 mr9
  have rw9 := rw8.mut (bz ex9)
  have rp9 := rp8.mut (bz ex9)
  -- if read != word
  refine ex_if_not (PT.cmp (P1 := R W' (dW odd l)) (P2 := R W' (dW odd l)) (PE.var F9 mr9 rr9 (.inl k9)) (F9.stable _) (PE.var F9 mw9 rw9 (.inr (.inl k7))) (fun s' a b x p q => by
    have := TE.ne_words (prog := prog) (w := w) (A := A.deeper e) p q hu
    rw [show (!decide (l = l)) = false by simp] at this; exact this) (by rfl)) fun h10 t10 x10 => ?_
  show wpAny (model prog w) (A.deeper e) (execs _ e) _ _ { s with heap := h10, toks := t10 }
  have F10 := F9.ext x10
  have rw10 := rw9.ext F9 x10
  have rp10 := rp9.ext F9 x10
  have rr10 := rr9.ext F9 x10
  -- code = _law_code(read)
  refine ex_let2 (d := codeD odd (code l)) F10 (pe_call1 F10 Z.G (gl_code Z) (fn_code Z) g3 (by decide) (PE.var F10 mr9 rr10 (.inl k9)) (fun s' v0 C' p => c_code (l.length + 1) l _ _ (57 - l.length) s' v0 (by omega) (by omega) Z (C'.less (by omega)) p) (by rw [he]; rfl)) (.inl k10) (fun vc h11 t11 rc11 ex11 F11 => ?_) (by rw [he]; rfl)
  have mtot11 : (upd m9 "code" vc) "total" = some vtot := by simp only [upd]; rw [if_neg (by decide)]; exact mtot9
  have mw11 : (upd m9 "code" vc) "word" = some vw := by simp only [upd]; rw [if_neg (by decide)]; exact mw9
  have mp11 : (upd m9 "code" vc) "path" = some vp := by simp only [upd]; rw [if_neg (by decide)]; exact mp9
  have mr11 : (upd m9 "code" vc) "read" = some vr := by simp only [upd]; rw [if_neg (by decide)]; exact mr9
  have mc11 : (upd m9 "code" vc) "code" = some vc := by simp [upd]
  show wpAny (model prog w) (A.deeper e) (execs _ e) _ _ { s with heap := h11, toks := t11 }
  generalize (upd m9 "code" vc) = m11 at F11 mtot11 mw11 mp11 mr11 mc11
  have rw11 := rw10.mut (bz ex11)
  have rp11 := rp10.mut (bz ex11)
  have rr11 := rr10.mut (bz ex11)
  have exB : ExtB (zone (A.deeper e)) (blocks e) h₁ h11 := (((exA.trans ex8).trans ex9).trans x10.toB).trans ex11
  clear exA ex8 ex9 ex11 F7 F8 F9 F10
  -- left = _law_struck(word, total // 3)
  refine ex_letP (P := fun h v2 => ∃ l', Steps l l' ∧ Irr l' ∧ R W' (dW odd l') h v2) F11 (pe_call (Ps := [R W' (dW odd l), R W' (.int (tot.fdiv 3))]) F11 Z.G (gl_struck Z) (fn_struck Z) g4 (by decide)
    (PEs.cons (PE.var F11 mw11 rw11 (.inr (.inl k7))) (F11.stable _) (PEs.cons (pe_div F11 (PE.var F11 mtot11 atot (.inl k3)) PE.int (by decide) (by decide)) (F11.stable _) PEs.nil (by rw [he]; rfl)) (by rw [he]; rfl)) (fun s' vs x p => by
      obtain ⟨va, vb, rfl, pa, pb⟩ := all2 p
      exact c_struck (n := 59) Z (F11.cx.ext x) hl pa pb) (by rw [he]; rfl) (by rw [he]; rfl)) (.inl k11) (fun h1 h2 v mm p => by
      obtain ⟨l', p1, p2, p3⟩ := p
      exact ⟨l', p1, p2, Rep.mut (mm.mono F.blocksW) p3⟩) (fun vl h12 t12 rl12' ex12 F12 => ?_) (by rw [he]; rfl)
  obtain ⟨l', st, irr, rl12⟩ := rl12'
  have mtot12 : (upd m11 "left" vl) "total" = some vtot := by simp only [upd]; rw [if_neg (by decide)]; exact mtot11
  have mw12 : (upd m11 "left" vl) "word" = some vw := by simp only [upd]; rw [if_neg (by decide)]; exact mw11
  have mp12 : (upd m11 "left" vl) "path" = some vp := by simp only [upd]; rw [if_neg (by decide)]; exact mp11
  have mr12 : (upd m11 "left" vl) "read" = some vr := by simp only [upd]; rw [if_neg (by decide)]; exact mr11
  have mc12 : (upd m11 "left" vl) "code" = some vc := by simp only [upd]; rw [if_neg (by decide)]; exact mc11
  have ml12 : (upd m11 "left" vl) "left" = some vl := by simp [upd]
  show wpAny (model prog w) (A.deeper e) (execs _ e) _ _ { s with heap := h12, toks := t12 }
  generalize (upd m11 "left" vl) = m12 at F12 mtot12 mw12 mp12 mr12 mc12 ml12
  have rw12 := rw11.mut (bz ex12)
  have rp12 := rp11.mut (bz ex12)
  have rr12 := rr11.mut (bz ex12)
  have rc12 := rc11.mut (bz ex12)
  have hdp := dp_code22 l
  -- if _law_least(code) != left
  refine ex_if_not (PT.cmp (P1 := R W' (dW odd (least (code l)))) (P2 := R W' (dW odd l')) (pe_call1 F12 Z.G (gl_least Z) (fn_least Z) g5 (by decide) (PE.var F12 mc12 rc12 (.inl k10)) (fun s' v0 C' p => c_least (code l) _ _ (60 - dp (code l)) s' v0 Z (by omega) (C'.less (by omega)) p) (by rw [he]; rfl)) (F12.stable _) (PE.var F12 ml12 rl12 (.inl k11)) (fun s' a b x p q => by
    have := TE.ne_words (prog := prog) (w := w) (A := A.deeper e) p q hu
    rw [show (!decide (least (code l) = l')) = false by simp [law_least st irr]] at this; exact this) (by rfl)) fun h13 t13 x13 => ?_
  show wpAny (model prog w) (A.deeper e) (execs _ e) _ _ { s with heap := h13, toks := t13 }
  have F13 := F12.ext x13
  have rw13 := rw12.ext F12 x13
  have rp13 := rp12.ext F12 x13
  have rr13 := rr12.ext F12 x13
  have rc13 := rc12.ext F12 x13
  have rl13 := rl12.ext F12 x13
  -- places = sorted([ .. ])
  have plen : ∀ {p q r : Pos}, PE (model prog w) (A.deeper e) e h13 (.Call (.Name "len" p) [.Name "word" q] [] r) (R W' (.int l.length)) := fun {p q r} => pe_lenW F13 Z.G g7 (PE.var F13 mw12 rw13 (.inr (.inl k7))) (by omega) (by rfl)
  refine ex_letP (P := fun h v => ∃ x y : Nat, x ≤ y ∧ y ≤ l.length ∧ R W' (intsD [(x : Int), (y : Int)]) h v) F13 (PE.callB (id := "sorted") (Ps := [R W' (intsD [(tot.fdiv 2).fmod ((l.length : Int) + 1), (tot.fdiv 32).fmod ((l.length : Int) + 1)])]) (PE.builtin F13 Z.G (by decide) (by decide +kernel) (fun _ => rfl) g6 (by decide))
    (PEs.cons (PE.list (ds := [.int ((tot.fdiv 2).fmod ((l.length : Int) + 1)), .int ((tot.fdiv 32).fmod ((l.length : Int) + 1))]) F13
      (PEs.cons (pe_mod F13 (pe_div F13 (PE.var F13 mtot12 atot (.inl k3)) PE.int (by decide) (by decide)) (pe_add F13 plen PE.int rfl) (by omega)) (F13.stable _) (PEs.cons (pe_mod F13 (pe_div F13 (PE.var F13 mtot12 atot (.inl k3)) PE.int (by decide) (by decide)) (pe_add F13 plen PE.int rfl) (by omega)) (F13.stable _) PEs.nil (by rfl)) (by rfl)) (by show 2 ≤ sizeLine; decide)) (F13.stable _) PEs.nil (by rw [he]; rfl)) (fun s' vs x p => by
      obtain ⟨v1, rfl, p1⟩ := all1 p
      refine (te_sorted' (F13.cx.ext x) p1 (by show 2 < 64; decide)).mono fun hh vv _ q => ?_
      obtain ⟨ns', q1, q2, q3⟩ := q
      obtain ⟨a, b, rfl, hab, ha, hb⟩ := sorted2 q1 q2
      have b1 := fdiv_mod_bd (tot.fdiv 2) l.length
      have b2 := fdiv_mod_bd (tot.fdiv 32) l.length
      have ea : ((a.toNat : Nat) : Int) = a := by rcases ha with q | q <;> omega
      have eb : ((b.toNat : Nat) : Int) = b := by rcases hb with q | q <;> omega
      refine ⟨a.toNat, b.toNat, by omega, by rcases hb with q | q <;> omega, ?_⟩
      rw [ea, eb]; exact q3) (by rw [he]; rfl) (by rfl)) (.inl k12) (fun h1 h2 v mm p => by
      obtain ⟨x, y, p1, p2, p3⟩ := p
      exact ⟨x, y, p1, p2, Rep.mut (mm.mono F.blocksW) p3⟩) (fun vq h14 t14 rq14' ex14 F14 => ?_) (by rw [he]; rfl)
  obtain ⟨x, y, hxy, hyl, rq14⟩ := rq14'
  have mw14 : (upd m12 "places" vq) "word" = some vw := by simp only [upd]; rw [if_neg (by decide)]; exact mw12
  have mp14 : (upd m12 "places" vq) "path" = some vp := by simp only [upd]; rw [if_neg (by decide)]; exact mp12
  have mr14 : (upd m12 "places" vq) "read" = some vr := by simp only [upd]; rw [if_neg (by decide)]; exact mr12
  have mc14 : (upd m12 "places" vq) "code" = some vc := by simp only [upd]; rw [if_neg (by decide)]; exact mc12
  have ml14 : (upd m12 "places" vq) "left" = some vl := by simp only [upd]; rw [if_neg (by decide)]; exact ml12
  have mq14 : (upd m12 "places" vq) "places" = some vq := by simp [upd]
  show wpAny (model prog w) (A.deeper e) (execs _ e) _ _ { s with heap := h14, toks := t14 }
  generalize (upd m12 "places" vq) = m14 at F14 mw14 mp14 mr14 mc14 ml14 mq14
  have rw14 := rw13.mut (bz ex14)
  have rp14 := rp13.mut (bz ex14)
  have rr14 := rr13.mut (bz ex14)
  have rc14 := rc13.mut (bz ex14)
  have rl14 := rl13.mut (bz ex14)
  have exC : ExtB (zone (A.deeper e)) (blocks e) h₁ h14 := ((exB.trans ex12).trans x13.toB).trans ex14
  clear exB ex12 ex14 F11 F12 F13
  -- twice = _get_sep(path).join(read[:places[1]] + read[places[0]:])
  have htw : (l.take y ++ l.drop x).length ≤ 18 := by rw [List.length_append, List.length_take, List.length_drop]; omega
  have pr14 : ∀ {p : Pos}, PE (model prog w) (A.deeper e) e h14 (.Name "read" p) (R W' (dW odd l)) := PE.var F14 mr14 rr14 (.inl k9)
  have pq14 : ∀ {p : Pos}, PE (model prog w) (A.deeper e) e h14 (.Name "places" p) (R W' (.list [.int (x : Int), .int (y : Int)])) := PE.var F14 mq14 rq14 (.inl k12)
  refine ex_let2 (d := pathD odd (l.take y ++ l.drop x)) F14 (pe_join F14 (by omega) (pe_call1 F14 Z.G (gl_sep Z) (fn_sep Z) g8 (by decide) (PE.var F14 mp14 rp14 (.inl k8)) (fun s' v0 C' p => c_sep (n := 59) Z C' p) (by rw [he]; rfl))
    (PE.bin (P1 := R W' (dW odd (l.take y))) (P2 := R W' (dW odd (l.drop x)))
      (pe_cut (hi := some (y : Int)) (ds' := (l.take y).map (nmD odd)) F14 pr14 Part.none (Part.some (W := W') (pe_item (i := 1) F14 pq14 PE.int (by decide) (by decide) rfl (by intro _ _; exact ⟨_, by with_unfolding_all rfl⟩))) Part.none (fun s' x y hn p q => ?_) (by intro _ _; exact ⟨_, by with_unfolding_all rfl⟩)) (F14.stable _)
      (pe_cut (lo := some (x : Int)) (ds' := (l.drop x).map (nmD odd)) F14 pr14 (Part.some (W := W') (pe_item (i := 0) F14 pq14 PE.int (by decide) (by decide) rfl (by intro _ _; exact ⟨_, by with_unfolding_all rfl⟩))) Part.none Part.none (fun s' x y hn p q => ?_) (by intro _ _; exact ⟨_, by with_unfolding_all rfl⟩)) fun s' x y xx p1 p2 => ?_)
    (by rfl) (by rw [he]; rfl) (by rfl) (by rfl)) (.inl k13) (fun vt h15 t15 rt15 ex15 F15 => ?_) (by rw [he]; rfl)
  · have := TE.cut_upto (prog := prog) (w := w) (A := A.deeper e) hn p q (by rw [List.length_map]; omega)
    rw [← List.map_take] at this; exact this
  · have := TE.cut_from (prog := prog) (w := w) (A := A.deeper e) hn p q (by rw [List.length_map]; omega)
    rw [← List.map_drop] at this; exact this
  · have := TE.add_list (prog := prog) (w := w) (A := A.deeper e) (F14.cx.ext xx).new p1 p2 (by rw [List.length_map, List.length_map, List.length_drop, List.length_take]; omega)
    rw [← List.map_append] at this; exact this
  have mw15 : (upd m14 "twice" vt) "word" = some vw := by simp only [upd]; rw [if_neg (by decide)]; exact mw14
  have mr15 : (upd m14 "twice" vt) "read" = some vr := by simp only [upd]; rw [if_neg (by decide)]; exact mr14
  have mc15 : (upd m14 "twice" vt) "code" = some vc := by simp only [upd]; rw [if_neg (by decide)]; exact mc14
  have ml15 : (upd m14 "twice" vt) "left" = some vl := by simp only [upd]; rw [if_neg (by decide)]; exact ml14
  have mt15 : (upd m14 "twice" vt) "twice" = some vt := by simp [upd]
  show wpAny (model prog w) (A.deeper e) (execs _ e) _ _ { s with heap := h15, toks := t15 }
  generalize (upd m14 "twice" vt) = m15 at F15 mw15 mr15 mc15 ml15 mt15
  have rw15 := rw14.mut (bz ex15)
  have rr15 := rr14.mut (bz ex15)
  have rc15 := rc14.mut (bz ex15)
  have rl15 := rl14.mut (bz ex15)
  generalize htl : l.take y ++ l.drop x = lt at htw rt15
  have hct : code lt = code l := by rw [← htl]; exact law_twice l x y hxy hyl
  -- if three_way_cmp(code, _law_code(_law_cut(twice))) != 0
  refine ex_if_not (PT.cmp (P1 := R W' (.int (cmp3 (code l) (code lt)))) (P2 := R W' (.int 0)) (pe_call (Ps := [R W' (codeD odd (code l)), R W' (codeD odd (code lt))]) F15 Z.G (gl_cmp3 Z) (fn_cmp3 Z) g9 (by decide)
    (PEs.cons (PE.var F15 mc15 rc15 (.inl k10)) (F15.stable _) (PEs.cons (pe_call1 F15 Z.G (gl_code Z) (fn_code Z) g3 (by decide) (pe_call1 F15 Z.G (gl_cut Z) (fn_cut Z) g2 (by decide) (PE.var F15 mt15 rt15 (.inl k13)) (fun s' v0 C' p => c_cut (n := 58) Z C' (by omega) p) (by rw [he]; rfl)) (fun s' v0 C' p => c_code (lt.length + 1) lt _ _ (57 - lt.length) s' v0 (by omega) (by omega) Z (C'.less (by omega)) p) (by rw [he]; rfl)) (F15.stable _) PEs.nil (by rw [he]; rfl)) (by rw [he]; rfl)) (fun s' vs x p => by
      obtain ⟨va, vb, rfl, pa, pb⟩ := all2 p
      exact c_cmp3 (n := 59) Z (F15.cx.ext x) (by omega) pa pb) (by rw [he]; rfl) (by rw [he]; rfl)) (F15.stable _) PE.int (fun s' a b x p q => by
    have := TE.ne_int (prog := prog) (w := w) (A := A.deeper e) p q
    rw [show (!decide (cmp3 (code l) (code lt) = 0)) = false by rw [hct]; simp [(cmp3_iff (code l) (code l)).mpr rfl]] at this; exact this) (by rfl)) fun h16 t16 x16 => ?_
  show wpAny (model prog w) (A.deeper e) (execs _ e) _ _ { s with heap := h16, toks := t16 }
  have F16 := F15.ext x16
  have rw16 := rw15.ext F15 x16
  have rr16 := rr15.ext F15 x16
  have rc16 := rc15.ext F15 x16
  have rl16 := rl15.ext F15 x16
  have exD : ExtB (zone (A.deeper e)) (blocks e) h₁ h16 := (exC.trans ex15).trans x16.toB
  clear exC ex15 F14 F15
  have hll' : l'.length ≤ 9 := by
    have := least_le (code l)
    rw [law_least st irr] at this
    have hs : ∀ {a b : List L3}, Steps a b → b.length ≤ a.length := fun {a b} q => by
      induction q with
      | refl => exact Nat.le_refl _
      | head s1 _ ih =>
        refine Nat.le_trans ih ?_
        cases s1 <;> simp <;> omega
    exact Nat.le_trans (hs st) hl
  -- if (three_way_cmp(code, code[2:] + code[:2]) == 0) is not (left == left[::-1])
  have pc16 : ∀ {p : Pos}, PE (model prog w) (A.deeper e) e h16 (.Name "code" p) (R W' (codeD odd (code l))) := PE.var F16 mc15 rc16 (.inl k10)
  have pc16' : ∀ {p : Pos}, PE (model prog w) (A.deeper e) e h16 (.Name "code" p) (R W' (.list (outC odd (code l)))) := fun {p} => by
    have := pc16 (p := p)
    rw [codeD_outC] at this; exact this
  have pl16 : ∀ {p : Pos}, PE (model prog w) (A.deeper e) e h16 (.Name "left" p) (R W' (dW odd l')) := PE.var F16 ml15 rl16 (.inl k11)
  have hoc := outC_len odd (code l)
  have pbin : ∀ {p1 p2 p3 p4 p5 p6 p7 p8 p9 : Pos}, PE (model prog w) (A.deeper e) e h16 (.BinOp (.Subscript (.Name "code" p1) (.Slice (some (.Constant (.int 2) 0 p2)) none none p3) p4) .Add (.Subscript (.Name "code" p5) (.Slice none (some (.Constant (.int 2) 0 p6)) none p7) p8) p9) (R W' (codeD odd (code l).swap)) := fun {p1 p2 p3 p4 p5 p6 p7 p8 p9} => by
    rw [codeD_outC, ← outC_swap]
    refine PE.bin (P1 := R W' (.list ((outC odd (code l)).drop 2))) (P2 := R W' (.list ((outC odd (code l)).take 2))) (pe_cut (lo := some ((2 : Nat) : Int)) F16 pc16' (Part.some (W := W') PE.int) Part.none Part.none (fun s' x y hn p q => TE.cut_from hn p q (by omega)) (by intro _ _; exact ⟨_, by with_unfolding_all rfl⟩)) (F16.stable _)
      (pe_cut (hi := some ((2 : Nat) : Int)) F16 pc16' Part.none (Part.some (W := W') PE.int) Part.none (fun s' x y hn p q => TE.cut_upto hn p q (by omega)) (by intro _ _; exact ⟨_, by with_unfolding_all rfl⟩)) fun s' x y xx p1 p2 => TE.add_list (F16.cx.ext xx).new p1 p2 ?_
    rw [List.length_drop, List.length_take]; omega
  have hdps : dp (code l).swap ≤ 800 := by rw [← code_reverse]; have := dp_code22 l.reverse; omega
  refine ex_if_not (PT.cmp (P1 := R W' (.bool (decide (cmp3 (code l) (code l).swap = 0)))) (P2 := R W' (.bool (decide (l' = l'.reverse)))) (pe_bool (PE.cmp (P1 := R W' (.int (cmp3 (code l) (code l).swap))) (P2 := R W' (.int 0)) (pe_call (Ps := [R W' (codeD odd (code l)), R W' (codeD odd (code l).swap)]) F16 Z.G (gl_cmp3 Z) (fn_cmp3 Z) g9 (by decide)
    (PEs.cons pc16 (F16.stable _) (PEs.cons pbin (F16.stable _) PEs.nil (by rw [he]; rfl)) (by rw [he]; rfl)) (fun s' vs x p => by
      obtain ⟨va, vb, rfl, pa, pb⟩ := all2 p
      exact c_cmp3 (n := 59) Z (F16.cx.ext x) (by omega) pa pb) (by rw [he]; rfl) (by rw [he]; rfl)) (F16.stable _) PE.int (fun s' a b x p q => TE.eq_int p q) (by rfl))) (F16.stable _)
    (pe_bool (PE.cmp (P1 := R W' (dW odd l')) (P2 := R W' (dW odd l'.reverse)) pl16 (F16.stable _) (pe_cut (ds' := l'.reverse.map (nmD odd)) F16 pl16 Part.none Part.none (Part.some (W := W') (pe_neg PE.int)) (fun s' x y hn p q => ?_) (by intro _ _; exact ⟨_, by with_unfolding_all rfl⟩)) (fun s' a b x p q => TE.eq_words p q hu) (by rfl))) (fun s' a b x p q => ?_) (by rfl)) fun h17 t17 x17 => ?_
  · have := TE.cut_back (prog := prog) (w := w) (A := A.deeper e) hn p q (by rw [List.length_map]; omega)
    rw [← List.map_reverse] at this; exact this
  · have := te_isnot_bool (prog := prog) (w := w) (A := A.deeper e) p q
    rw [mirror_eq st irr] at this
    rw [show (!decide (decide (l' = l'.reverse) = decide (l' = l'.reverse))) = false by simp] at this
    exact this
  show wpAny (model prog w) (A.deeper e) (execs _ e) _ _ { s with heap := h17, toks := t17 }
  have F17 := F16.ext x17
  have rw17 := rw16.ext F16 x17
  have rr17 := rr16.ext F16 x17
  -- last = max([word.index(name) for name in word] + [-1])
  refine ex_letP (P := fun h v => ∃ x : Int, x ∈ firsts l ∧ (∀ y ∈ firsts l, y ≤ x) ∧ R W' (.int x) h v) F17 ?he (.inl k14) (fun h1 h2 v mm p => by
      obtain ⟨x, p1, p2, p3⟩ := p
      exact ⟨x, p1, p2, Rep.mut (mm.mono F.blocksW) p3⟩) (fun vm h18 t18 rm18' ex18 F18 => ?_) (by rw [he]; rfl)
  case he =>
    refine PE.callB (id := "max") (Ps := [R W' (intsD (firsts l))]) (PE.builtin F17 Z.G (by decide) (by decide +kernel) (fun _ => rfl) g10 (by decide)) (PEs.cons ?_ (F17.stable _) PEs.nil (by rw [he]; rfl)) (fun s' vs x p => ?_) (by rw [he]; rfl) (by rfl)
    rotate_left
    · obtain ⟨v1, rfl, p1⟩ := all1 p
      exact te_max F.handled p1 (by simp [firsts])
    refine PE.bin (P1 := R W' (intsD (l.map (fun x => ((l.idxOf x : Nat) : Int))))) (P2 := R W' (.list [.int (-1)])) ?_ (F17.stable _) ?_ fun s' x y xx p1 p2 => ?_
    rotate_left
    · exact PE.list (ds := [.int (-1)]) F17 (PEs.cons (pe_neg PE.int) (F17.stable _) PEs.nil (by rfl)) (by show 1 ≤ sizeLine; decide)
    · have := TE.add_list (prog := prog) (w := w) (A := A.deeper e) (F17.cx.ext xx).new p1 p2 (by rw [List.length_map, List.length_map]; simp; omega)
      unfold intsD firsts
      rw [List.map_append]; exact this
    have eo : (l.map (fun x => ((l.idxOf x : Nat) : Int))).map D.int = ((List.range (l.map (nmD odd)).length).filter (fun _ => true)).map (fun i => D.int ((l.idxOf (l[i]?.getD 0) : Nat) : Int)) := by
      rw [List.filter_eq_self.mpr (by simp)]
      apply List.ext_getElem?
      intro i
      rw [List.getElem?_map, List.getElem?_map, List.getElem?_map]
      by_cases hi : i < l.length
      · rw [List.getElem?_range (by simpa using hi), List.getElem?_eq_getElem hi]; simp [List.getElem?_eq_getElem hi]
      · rw [List.getElem?_eq_none (by simpa using hi), List.getElem?_eq_none (by simpa using hi)]; rfl
    refine pe_mono (P := R W' (.list (((List.range (l.map (nmD odd)).length).filter (fun _ => true)).map (fun i => D.int ((l.idxOf (l[i]?.getD 0) : Nat) : Int))))) ?_ fun _ _ p => by
      rw [← eo] at p; exact p
    clear eo
    refine PE.comp (cl := [(("word" : Str), s.heap.objs.size + 1 + 1)]) (ds := l.map (nmD odd)) F17 ?ok (pe_mono (PE.var F17 mw15 rw17 (.inr (.inl k7))) fun _ _ p => .inl p) ?hb (by intro _; rfl)
    case ok =>
      refine CompOK.of rfl (by rw [he]; rfl) (fun p hp => ?_) (by rw [he]; rfl)
      rw [he, List.mem_singleton.mp hp]; rfl
    case hb =>
      intro s' hs'
      refine comp1_body (fun _ => true) (fun i => D.int ((l.idxOf (l[i]?.getD 0) : Nat) : Int)) hs' F17 (by rw [he]; rfl) ?_ (by rw [List.length_map]; omega)
      intro W2 C2 h7 m7 i d v7 F7 J7 hd7 rd7 mv7
      generalize hce : compEnvC _ _ C2 e = ce at F7 ⊢
      have kx : ce.kindOf "name" = some .local := by rw [← hce, he]; rfl
      have ks : ce.kindOf "word" = some .cell := by rw [← hce, he]; rfl
      have ms7 : (upd m7 "name" v7) "word" = some vw := by
        simp only [upd]; rw [if_neg (by decide)]
        refine (J7 "word" (by decide)).trans ?_
        show (if _ then _ else _) = _
        rw [if_neg (by decide)]; exact mw15
      have mx7 : (upd m7 "name" v7) "name" = some v7 := by simp [upd]
      refine ⟨rfl, fun _ => ?_⟩
      obtain ⟨x, hx, rfl⟩ : ∃ x, l[i]? = some x ∧ d = nmD odd x := by
        rw [List.getElem?_map] at hd7
        cases q : l[i]? with
        | none => rw [q] at hd7; cases hd7
        | some x => rw [q] at hd7; cases hd7; exact ⟨x, rfl, rfl⟩
      rw [hx]
      refine PE.meth (T := "list") (id := "list.index") (P0 := R W2 (dW odd l)) (Ps := [R W2 (nmD odd x)]) (by rfl) (by rw [← hce, he]; rfl) (by rfl) PySem.F.plainAttrs_list PySem.F.slot_list_index PySem.F.type_list_index (PE.var F7 ms7 (mv7 _ _ rw17) (.inr (.inl ks))) (F7.stable _) (fun s' v' p => ⟨R.typeList p, R.noDict p⟩)
        (PEs.cons (PE.var F7 mx7 rd7 (.inl kx)) (F7.stable _) PEs.nil (by rw [← hce, he]; rfl)) (fun s' v' vs xx p q => ?_) (by rw [← hce, he]; rfl) (by rw [← hce, he]; rfl)
      obtain ⟨v1, rfl, q1⟩ := all1 q
      exact TE.index p q1 (List.mem_of_getElem? hx) (by omega)
  obtain ⟨lst, hm1, hm2, rm18⟩ := rm18'
  have mr18 : (upd m15 "last" vm) "read" = some vr := by simp only [upd]; rw [if_neg (by decide)]; exact mr15
  have mm18 : (upd m15 "last" vm) "last" = some vm := by simp [upd]
  show wpAny (model prog w) (A.deeper e) (execs _ e) _ _ { s with heap := h18, toks := t18 }
  generalize (upd m15 "last" vm) = m18 at F18 mr18 mm18
  have am : ∀ {hh : Heap} {WW : List Addr}, Rep WW hh vm (.int lst) := fun {hh WW} => Rep.atom rm18 rfl
  have rr18 := rr17.mut (bz ex18)
  -- for k in range(len(read) + 1)
  refine ex_for2 (W := W') (T := blocks e) (rangeD 0 (l.length + 1)) (fun i h m => m "read" = some vr ∧ m "last" = some vm ∧ Rep W' h vr (dW odd l)) (fun _ _ => False) F18 (fun a ha => ha) F.blocksW
    (pe_range1 (b := ((l.length + 1 : Nat) : Int)) F18 Z.G g11 (pe_add F18 (pe_lenW F18 Z.G g7 (PE.var F18 mr18 rr18 (.inl k9)) (by omega) (by rfl)) PE.int (by omega)) (by omega) (by omega) (by omega) (by rw [he]; rfl)) (.inl k15) (fun h' x => ⟨mr18, mm18, rr18.ext F18 x⟩) ?_ ?_ (fun _ _ _ q => q.elim) (by rw [he]; intro _; rfl)
  · rintro i d vk h19 m19 h20 tk20 hd ⟨mr19, mm19, rr19⟩ md ex20 F20 rk E3
    obtain ⟨hi, rfl⟩ := rangeD_get hd
    have rr20 : Rep W' h20 vr (dW odd l) := Rep.mutD (md.mono F.blocksW) rr19
    have ak : ∀ {hh : Heap} {WW : List Addr}, Rep WW hh vk (.int (i : Int)) := fun {hh WW} => by
      have := Rep.atom (W' := WW) (h' := hh) rk rfl
      rw [Int.zero_add] at this; exact this
    have mr20 : (upd m19 "k" vk) "read" = some vr := by simp only [upd]; rw [if_neg (by decide)]; exact mr19
    have mm20 : (upd m19 "k" vk) "last" = some vm := by simp only [upd]; rw [if_neg (by decide)]; exact mm19
    have mk20 : (upd m19 "k" vk) "k" = some vk := by simp [upd]
    generalize (upd m19 "k" vk) = m20 at F20 mr20 mm20 mk20
    have pr20 : ∀ {p : Pos}, PE (model prog w) (A.deeper e) e h20 (.Name "read" p) (R W' (dW odd l)) := PE.var F20 mr20 rr20 (.inl k9)
    refine ex_if_not (PT.cmp (P1 := R W' (.bool (decide (∀ a ∈ l, a ∈ l.take i)))) (P2 := R W' (.bool (decide (lst < (i : Int))))) (pe_call (Ps := [R W' (dW odd (l.take i)), R W' (dW odd l)]) F20 Z.G (gl_less Z) (fn_less Z) g12 (by decide)
      (PEs.cons (pe_cut (hi := some (i : Int)) (ds' := (l.take i).map (nmD odd)) F20 pr20 Part.none (Part.some (W := W') (PE.var F20 mk20 ak (.inl k15))) Part.none (fun s' x y hn p q => ?_) (by intro _ _; exact ⟨_, by with_unfolding_all rfl⟩)) (F20.stable _) (PEs.cons pr20 (F20.stable _) PEs.nil (by rw [he]; rfl)) (by rw [he]; rfl)) (fun s' vs x p => by
        obtain ⟨va, vb, rfl, pa, pb⟩ := all2 p
        exact c_less (n := 58) Z (F20.cx.ext x) (fun a ha => List.mem_of_mem_take ha) pa pb) (by rw [he]; rfl) (by rw [he]; rfl)) (F20.stable _)
      (pe_bool (PE.cmp (P1 := R W' (.int (i : Int))) (P2 := R W' (.int lst)) (PE.var F20 mk20 ak (.inl k15)) (F20.stable _) (PE.var F20 mm20 am (.inl k14)) (fun s' a b x p q => TE.gt_int p q) (by rfl))) (fun s' a b x p q => ?_) (by rfl)) fun h21 t21 x21 => ?_
    · have := TE.cut_upto (prog := prog) (w := w) (A := A.deeper e) hn p q (by rw [List.length_map]; omega)
      rw [← List.map_take] at this; exact this
    · have := te_isnot_bool (prog := prog) (w := w) (A := A.deeper e) p q
      rw [last_eq hm1 hm2 i] at this
      rw [show (!decide (decide (lst < (i : Int)) = decide (lst < (i : Int)))) = false by simp] at this
      exact this
    · exact ex_done ⟨h21, t21, rfl, x21.toB, m20, F20.ext x21, mr20, mm20, rr20.ext F20 x21⟩
  · rintro h19 m19 h20 tk20 ⟨mr19, mm19, rr19⟩ md ex20 F20
    refine ex_return (P := R W' (.bool true)) PE.boolc fun v2 h21 t21 x21 p21 => ?_
    exact ⟨h21, t21, blocks e, v2, rfl, hfresh, (((exD.trans x17.toB).trans ex18).trans ex20).trans x21.toB, rfl, Rep.leave p21 sub⟩
end
end Mine
end

-- T1
noncomputable section
open PySem PySem.W PyProof.Rows
namespace Mine
theorem caller_cx (h : Heap) : Cx h [] 61 callerA h where
  handled := rfl
  room := by decide
  units := by decide
  frames := ⟨[], rfl, trivial⟩
  zoneW := fun a ha => by simp [zone, callerA] at ha
  stays := fun _ _ e => e
  fresh := fun a ha => by cases ha
  live := fun a ha => by cases ha
end Mine
open Mine
set_option maxRecDepth 100000 in
set_option maxHeartbeats 8000000 in
theorem PySem.Challenge.cw_op0006_01_holds : PySem.Challenge.rw_op0006_01.Holds := by
  refine hd ?_
  intro w s₀ s₁ mg mb G Y fa o pm cd doc dV kV ho hdd hcd hD hmg hg args vals as hpre hlay hrd hwl hlo
  clear hdd hcd hD
  have KX := kIn_of Y
  refine Ground.open G ?_
  intro T B D TE TW
  have GX : Glo s₁.heap mg mb := ⟨T.g, T.b, T.nolimit, fun x hx => by
    exact ⟨T.free x (by revert x; decide +kernel) (by revert x; decide +kernel) (by revert x; decide +kernel) (by revert x; decide +kernel) (by revert x; decide +kernel), T.builtins x (by revert x; decide +kernel)⟩⟩
  have Z : Env0 w s₁.heap mg mb := ⟨GX, KX⟩
  have hfa : fa = 84 := by
    have h1 := gl_law Z
    have h2 : mg "law" = some (.ref fa) := hmg
    rw [h1] at h2
    exact (Value.ref.inj (Option.some.inj h2)).symm
  subst hfa
  clear hmg ho
  wrow_args hpre hlay hrd hwl hlo
  rename_i ns hs hlay0 hL1 hr1 hl2 w4 w3 a vs w0 hL hra hw1 hr0 hI hr hc1 hc2
  refine c_law (ns := ns) (v := .ref a) Z (caller_cx _) (by omega) ⟨a, vs, rfl, hL, hI⟩ _ _ fun v h' tk x r => ?_
  cases r
  refine GoodW.toG ⟨.inl ⟨.bool true, .bool true, [], rfl, raisesW_false (by wrow_none_raised), .bool _, ?_, unshared_nil⟩, fun b ob e => x.keep (by simp [zone, callerA]) e, rfl, hg⟩
  wrow_post
end
